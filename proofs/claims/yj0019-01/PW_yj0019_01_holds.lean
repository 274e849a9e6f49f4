import PyProof.Rows.All
import Wide.All
import OpenK.AllK
import Wide.FinOn
import PyProof.InstLoad
import PySem.Challenge.RW_yj0019_01
set_option Elab.async false
set_option linter.unusedVariables false
set_option linter.unusedSimpArgs false
set_option maxRecDepth 100000
set_option maxHeartbeats 4000000
set_option bootstrap.genMatcherCode false
set_option compiler.extract_closed false
open PySem PySem.W PySem.Spec PySem.Calls PyProof.Rows PySem.Builtin.Str
namespace Mine
noncomputable def topRunT (tb : String -> Option Builtin) (p : Program) (w : World) (n₀ : Nat) (ann : Option Value) : Nat -> SharedT -> Thread -> Option SharedT
  | 0, _, _ => none
  | n + 1, s, t => match through t with
    | true => some s
    | false => match stepOk n₀ ann t with
      | false => none
      | true => match stepT (denote tb) p w s t with
        | some (s', t') => topRunT tb p w n₀ ann n s' t'
        | none => none
theorem topRun_of {tb : String -> Option Builtin} {p : Program} {w : World} {n₀ : Nat} {ann : Option Value} : ∀ {n : Nat} {s s' : SharedT} {t : Thread}, topRunT tb p w n₀ ann n s t = some s' -> topRun tb p w n₀ ann n s.abs t = some s'.abs
  | 0, _, _, _, h => nomatch h
  | n + 1, s, s', t, h => by
    unfold topRunT at h
    unfold topRun
    cases ht : through t with
    | true => rw [ht] at h; cases h; rfl
    | false =>
      rw [ht] at h
      cases hk : stepOk n₀ ann t with
      | false => rw [hk] at h; cases h
      | true =>
        rw [hk] at h
        cases hs : stepT (denote tb) p w s t with
        | none => rw [hs] at h; cases h
        | some r => obtain ⟨s₂, t₂⟩ := r; rw [hs] at h; rw [stepT_spec hs]; exact topRun_of h
noncomputable def fillT : List Obj -> BT -> Nat -> Option BT
  | [], T, _ => some T
  | o :: r, T, n => match ((T.ins n o).get n).isSome with
    | true => fillT r (T.ins n o) (n + 1)
    | false => none
theorem fillT_spec {life : Life} : ∀ {l : List Obj} {T T' : BT} {n : Nat}, fillT l T n = some T' -> (absHeap T' (n + l.length) life).objs.toList = (absHeap T n life).objs.toList ++ l
  | [], T, T', n, h => by cases h; simp
  | o :: r, T, T', n, h => by
    unfold fillT at h
    cases q : ((T.ins n o).get n).isSome with
    | false => rw [q] at h; cases h
    | true =>
      rw [q] at h
      have ih := fillT_spec (life := life) h
      rw [absHeap_ins q] at ih
      rw [show n + (o :: r).length = n + 1 + r.length by simp; omega, ih]
      show (Array.push _ o).toList ++ r = _
      simp
      rfl
theorem fill_abs {h : Heap} {T : BT} (e : fillT h.objs.toList .nil 0 = some T) : absHeap T h.objs.size h.life = h := by
  have := fillT_spec (life := h.life) e
  rw [Nat.zero_add, Array.length_toList] at this
  have e0 : (absHeap .nil 0 h.life).objs.toList = [] := rfl
  rw [e0, List.nil_append] at this
  obtain ⟨objs, life⟩ := h
  show Heap.mk (absHeap T objs.size life).objs life = _
  congr 1
  exact Array.toList_inj.mp this
noncomputable def lookT {α : Type} (p q : Program) (loose : List Str) (Xt : Shared -> Bool) (Yf : Shared -> α) (N : Nat) (w : World) (s₀ : Shared) (s : Shared) :=
  ((staticsOk (importedModules p.main.body) s₀.heap s.heap && namesBound p s.heap && gensDone s && laidKept s₀.heap s.heap, s₀.heap.isNs mainGlobals && s₀.gens.size == 0), openSeen q loose (importedModules p.main.body) Xt true s, Yf s)
theorem left_of {α : Type} {p q : Program} {loose : List Str} {Xt : Shared -> Bool} {Yf : Shared -> α} {Ya : World -> α} {N : Nat} (row : String)
    (open_ : ∀ w : World, (fencedOpening treeTable p w N).map (fun s => (s.heap, s.gens, s.drawn, s.toks)) = some (boot_heap w.params, Array.mk [], boot_drawn, boot_toks))
    (h0 : ∀ (b : Bool) (w : World) (os : OsState), (topFrom treeTable p (w.withFollow row b) N ⟨boot_heap w.params, Array.mk [], boot_drawn, boot_toks, os⟩).map (fun s => (openSeen q loose (importedModules p.main.body) Xt true s, Yf s)) = some (openGood q loose, Ya (w.withFollow row b))) : LeftO p q loose Xt Yf Ya N :=
  LeftO.of_split row fun w => by
    obtain ⟨⟨h, gs, d, k, os⟩, e, e'⟩ := Option.map_eq_some_iff.mp (open_ w)
    obtain ⟨rfl, rfl, rfl, rfl⟩ : h = boot_heap w.params ∧ gs = Array.mk [] ∧ d = boot_drawn ∧ k = boot_toks := by simpa using e'
    rw [e]
    show some (_, _) = some (_, _)
    rw [h0 false w os, h0 true w os]
end Mine
set_option compiler.extract_closed false
namespace Mine
noncomputable def qL : Program := view PySem.Challenge.pw_yj0019_01 [74]
noncomputable def looseL : List Str := PySem.Challenge.pw_yj0019_01.boundNames.filter fun x => x != "law"
theorem op1 : opening PySem.Challenge.pw_yj0019_01 = plainProg PySem.Challenge.pw_yj0019_01.main.scope.names := by kernel_rfl
theorem op2 : ∀ s, fenceModules? PySem.Challenge.pw_yj0019_01 s = some s := fun s => by kernel_rfl
theorem op3 : ∀ w : World, (fencedOpening treeTable PySem.Challenge.pw_yj0019_01 w 5000).map (fun s => (s.heap, s.gens, s.drawn, s.toks)) = some (boot_heap w.params, Array.mk [], boot_drawn, boot_toks) := boot_open op1 (by kernel_rfl) op2
structure FnDef where
  name : Str
  params : Arguments
  body : List Stmt
  scope : Scope
noncomputable def as {α : Type} (x : α) : Function.const α α x := x
theorem hd {α : Type} {l r : List α} {x : α} (_ : l = x :: r) : Function.const α True x := trivial
noncomputable def hold {α : Type} {x : α} (_ : Function.const α True x) : Function.const α α x := x
theorem fd {c : Stmt} {nm : Str} {a : Arguments} {b : List Stmt} {dl : List Expr} {rt : Option Expr} {tp : List TypeParam} {sc : Scope} {ts : Option Scope} {bd : Str} {p : Pos} (_ : c = .FunctionDef nm a b dl rt tp sc ts bd p) : Function.const FnDef True ⟨nm, a, b, sc⟩ := trivial
theorem cb {c : Stmt} {nm : Str} {bs : List Expr} {kw : List Keyword} {b : List Stmt} {dl : List Expr} {tp : List TypeParam} {sc : Scope} {ts : Option Scope} {bd : Str} {sa : List Str} {p : Pos} (_ : c = .ClassDef nm bs kw b dl tp sc ts bd sa p) : Function.const (List Stmt) True b := trivial
noncomputable def c_strcoll : Stmt := (as _ : type_of% (hold (hd (rfl : PySem.Challenge.pw_yj0019_01.main.body.drop 2 = _ :: _))))
noncomputable def F_strcoll : FnDef := (as _ : type_of% (hold (fd (rfl : c_strcoll = .FunctionDef _ _ _ _ _ _ _ _ _ _))))
noncomputable def c_strxfrm : Stmt := (as _ : type_of% (hold (hd (rfl : PySem.Challenge.pw_yj0019_01.main.body.drop 3 = _ :: _))))
noncomputable def F_strxfrm : FnDef := (as _ : type_of% (hold (fd (rfl : c_strxfrm = .FunctionDef _ _ _ _ _ _ _ _ _ _))))
noncomputable def c_strip : Stmt := (as _ : type_of% (hold (hd (rfl : PySem.Challenge.pw_yj0019_01.main.body.drop 4 = _ :: _))))
noncomputable def F_strip : FnDef := (as _ : type_of% (hold (fd (rfl : c_strip = .FunctionDef _ _ _ _ _ _ _ _ _ _))))
noncomputable def c_isterm : Stmt := (as _ : type_of% (hold (hd (rfl : PySem.Challenge.pw_yj0019_01.main.body.drop 60 = _ :: _))))
noncomputable def F_isterm : FnDef := (as _ : type_of% (hold (fd (rfl : c_isterm = .FunctionDef _ _ _ _ _ _ _ _ _ _))))
noncomputable def c_isnont : Stmt := (as _ : type_of% (hold (hd (rfl : PySem.Challenge.pw_yj0019_01.main.body.drop 61 = _ :: _))))
noncomputable def F_isnont : FnDef := (as _ : type_of% (hold (fd (rfl : c_isnont = .FunctionDef _ _ _ _ _ _ _ _ _ _))))
noncomputable def c_iseof : Stmt := (as _ : type_of% (hold (hd (rfl : PySem.Challenge.pw_yj0019_01.main.body.drop 62 = _ :: _))))
noncomputable def F_iseof : FnDef := (as _ : type_of% (hold (fd (rfl : c_iseof = .FunctionDef _ _ _ _ _ _ _ _ _ _))))
noncomputable def c_cells : Stmt := (as _ : type_of% (hold (hd (rfl : PySem.Challenge.pw_yj0019_01.main.body.drop 64 = _ :: _))))
noncomputable def F_cells : FnDef := (as _ : type_of% (hold (fd (rfl : c_cells = .FunctionDef _ _ _ _ _ _ _ _ _ _))))
noncomputable def c_pile : Stmt := (as _ : type_of% (hold (hd (rfl : PySem.Challenge.pw_yj0019_01.main.body.drop 65 = _ :: _))))
noncomputable def F_pile : FnDef := (as _ : type_of% (hold (fd (rfl : c_pile = .FunctionDef _ _ _ _ _ _ _ _ _ _))))
noncomputable def c_order : Stmt := (as _ : type_of% (hold (hd (rfl : PySem.Challenge.pw_yj0019_01.main.body.drop 66 = _ :: _))))
noncomputable def F_order : FnDef := (as _ : type_of% (hold (fd (rfl : c_order = .FunctionDef _ _ _ _ _ _ _ _ _ _))))
noncomputable def c_heights : Stmt := (as _ : type_of% (hold (hd (rfl : PySem.Challenge.pw_yj0019_01.main.body.drop 67 = _ :: _))))
noncomputable def F_heights : FnDef := (as _ : type_of% (hold (fd (rfl : c_heights = .FunctionDef _ _ _ _ _ _ _ _ _ _))))
noncomputable def c_cards : Stmt := (as _ : type_of% (hold (hd (rfl : PySem.Challenge.pw_yj0019_01.main.body.drop 68 = _ :: _))))
noncomputable def F_cards : FnDef := (as _ : type_of% (hold (fd (rfl : c_cards = .FunctionDef _ _ _ _ _ _ _ _ _ _))))
noncomputable def c_rising : Stmt := (as _ : type_of% (hold (hd (rfl : PySem.Challenge.pw_yj0019_01.main.body.drop 69 = _ :: _))))
noncomputable def F_rising : FnDef := (as _ : type_of% (hold (fd (rfl : c_rising = .FunctionDef _ _ _ _ _ _ _ _ _ _))))
noncomputable def c_lnames : Stmt := (as _ : type_of% (hold (hd (rfl : PySem.Challenge.pw_yj0019_01.main.body.drop 70 = _ :: _))))
noncomputable def F_lnames : FnDef := (as _ : type_of% (hold (fd (rfl : c_lnames = .FunctionDef _ _ _ _ _ _ _ _ _ _))))
noncomputable def c_where : Stmt := (as _ : type_of% (hold (hd (rfl : PySem.Challenge.pw_yj0019_01.main.body.drop 71 = _ :: _))))
noncomputable def F_where : FnDef := (as _ : type_of% (hold (fd (rfl : c_where = .FunctionDef _ _ _ _ _ _ _ _ _ _))))
noncomputable def c_bared : Stmt := (as _ : type_of% (hold (hd (rfl : PySem.Challenge.pw_yj0019_01.main.body.drop 72 = _ :: _))))
noncomputable def F_bared : FnDef := (as _ : type_of% (hold (fd (rfl : c_bared = .FunctionDef _ _ _ _ _ _ _ _ _ _))))
noncomputable def c_lines : Stmt := (as _ : type_of% (hold (hd (rfl : PySem.Challenge.pw_yj0019_01.main.body.drop 73 = _ :: _))))
noncomputable def F_lines : FnDef := (as _ : type_of% (hold (fd (rfl : c_lines = .FunctionDef _ _ _ _ _ _ _ _ _ _))))
noncomputable def c_law : Stmt := (as _ : type_of% (hold (hd (rfl : PySem.Challenge.pw_yj0019_01.main.body.drop 74 = _ :: _))))
noncomputable def F_law : FnDef := (as _ : type_of% (hold (fd (rfl : c_law = .FunctionDef _ _ _ _ _ _ _ _ _ _))))
noncomputable def c_cls : Stmt := (as _ : type_of% (hold (hd (rfl : PySem.Challenge.pw_yj0019_01.main.body.drop 7 = _ :: _))))
noncomputable def clsB : List Stmt := (as _ : type_of% (hold (cb (rfl : c_cls = .ClassDef _ _ _ _ _ _ _ _ _ _ _))))
noncomputable def c_m_init : Stmt := (as _ : type_of% (hold (hd (rfl : clsB.drop 0 = _ :: _))))
noncomputable def F_m_init : FnDef := (as _ : type_of% (hold (fd (rfl : c_m_init = .FunctionDef _ _ _ _ _ _ _ _ _ _))))
noncomputable def c_m_push : Stmt := (as _ : type_of% (hold (hd (rfl : clsB.drop 1 = _ :: _))))
noncomputable def F_m_push : FnDef := (as _ : type_of% (hold (fd (rfl : c_m_push = .FunctionDef _ _ _ _ _ _ _ _ _ _))))
noncomputable def c_m_pop_from : Stmt := (as _ : type_of% (hold (hd (rfl : clsB.drop 2 = _ :: _))))
noncomputable def F_m_pop_from : FnDef := (as _ : type_of% (hold (fd (rfl : c_m_pop_from = .FunctionDef _ _ _ _ _ _ _ _ _ _))))
noncomputable def c_m_pop : Stmt := (as _ : type_of% (hold (hd (rfl : clsB.drop 3 = _ :: _))))
noncomputable def F_m_pop : FnDef := (as _ : type_of% (hold (fd (rfl : c_m_pop = .FunctionDef _ _ _ _ _ _ _ _ _ _))))
noncomputable def c_m_len : Stmt := (as _ : type_of% (hold (hd (rfl : clsB.drop 4 = _ :: _))))
noncomputable def F_m_len : FnDef := (as _ : type_of% (hold (fd (rfl : c_m_len = .FunctionDef _ _ _ _ _ _ _ _ _ _))))
noncomputable def c_m_str : Stmt := (as _ : type_of% (hold (hd (rfl : clsB.drop 5 = _ :: _))))
noncomputable def F_m_str : FnDef := (as _ : type_of% (hold (fd (rfl : c_m_str = .FunctionDef _ _ _ _ _ _ _ _ _ _))))
noncomputable def c_m_part_count : Stmt := (as _ : type_of% (hold (hd (rfl : clsB.drop 8 = _ :: _))))
noncomputable def F_m_part_count : FnDef := (as _ : type_of% (hold (fd (rfl : c_m_part_count = .FunctionDef _ _ _ _ _ _ _ _ _ _))))
noncomputable def c_wall : Stmt := (as _ : type_of% (hold (hd (rfl : PySem.Challenge.pw_yj0019_01.main.body.drop 0 = _ :: _))))
noncomputable def F_wall : FnDef := (as _ : type_of% (hold (fd (rfl : c_wall = .FunctionDef _ _ _ _ _ _ _ _ _ _))))
noncomputable def c_m_reset : Stmt := (as _ : type_of% (hold (hd (rfl : clsB.drop 6 = _ :: _))))
noncomputable def F_m_reset : FnDef := (as _ : type_of% (hold (fd (rfl : c_m_reset = .FunctionDef _ _ _ _ _ _ _ _ _ _))))
noncomputable def c_m_onlyws : Stmt := (as _ : type_of% (hold (hd (rfl : clsB.drop 7 = _ :: _))))
noncomputable def F_m_onlyws : FnDef := (as _ : type_of% (hold (fd (rfl : c_m_onlyws = .FunctionDef _ _ _ _ _ _ _ _ _ _))))
noncomputable def gl : List (Str × Value) := [("_strcoll", .ref 28), ("_strxfrm", .ref 35), ("_strip_padding", .ref 42), ("ISTERMINAL", .ref 136), ("ISNONTERMINAL", .ref 143), ("ISEOF", .ref 150), ("_law_cells", .ref 157), ("_law_pile", .ref 162), ("_law_order", .ref 167), ("_law_heights", .ref 172), ("_law_cards", .ref 177), ("_law_rising", .ref 182), ("_law_names", .ref 187), ("_law_where", .ref 192), ("_law_bared", .ref 197), ("_law_lines", .ref 202), ("_Accumulator", .ref 122), ("EXACT_TOKEN_TYPES", .ref 127), ("EMPTYSTRING", .str (Str.ofString "") 223), ("NT_OFFSET", .int 256 421), ("ENDMARKER", .int 0 323), ("len", .builtin "len"), ("sum", .builtin "sum"), ("max", .builtin "max"), ("isinstance", .builtin "isinstance"), ("sorted", .builtin "sorted"), ("bool", .type "bool"), ("range", .type "range"), ("str", .type "str"), ("enumerate", .type "enumerate"), ("super", .type "super")]
noncomputable abbrev clo46 : List (Str × Addr) := [(("__class__" : Str), 46)]
noncomputable def pmA : Value := .str "cpy313.locale" 194
noncomputable def pmB : Value := .str "cpy313.token" 321
noncomputable def pmC : Value := .str "law_yj0019_01" 541
noncomputable def pmD : Value := .str "cpy313.email.header" 221
noncomputable def fnL : List (Addr × FnDef × Value) := [(28, F_strcoll, pmA), (35, F_strxfrm, pmA), (42, F_strip, pmA), (136, F_isterm, pmB), (143, F_isnont, pmB), (150, F_iseof, pmB), (157, F_cells, pmC), (162, F_pile, pmC), (167, F_order, pmC), (172, F_heights, pmC), (177, F_cards, pmC), (182, F_rising, pmC), (187, F_lnames, pmC), (192, F_where, pmC), (197, F_bared, pmC), (202, F_lines, pmC), (207, F_law, pmC)]
noncomputable def mfd (F : FnDef) (q : Str) (cl : List (Str × Addr)) (df : Value) (c : Addr) (ct : Value) : FuncData :=
  { docDef F.name F.params F.body F.scope pmD (.ref c) .none with qualname := q, closure := cl, defaults := df, closureTuple := ct }
noncomputable def meL : List (Addr × FuncData) := [(59, mfd F_m_init "_Accumulator.__init__" clo46 (.ref 51) 58 (.ref 52)), (66, mfd F_m_push "_Accumulator.push" [] .none 65 .none), (74, mfd F_m_pop_from "_Accumulator.pop_from" [] (.ref 67) 73 .none),
  (82, mfd F_m_pop "_Accumulator.pop" clo46 .none 81 (.ref 75)), (119, mfd F_m_part_count "_Accumulator.part_count" clo46 .none 118 (.ref 112)), (89, mfd F_m_len "_Accumulator.__len__" [] .none 88 .none), (96, mfd F_m_str "_Accumulator.__str__" [] .none 95 .none)]
noncomputable def esL : List (String × Nat × Nat × Nat) := [("!", 423, 54, 419), ("!=", 425, 28, 367), ("%", 427, 24, 359), ("%=", 429, 40, 391), ("&", 431, 19, 349), ("&=", 433, 41, 393), ("(", 435, 7, 325), (")", 437, 8, 327), ("*", 439, 16, 343), ("**", 441, 35, 381), ("**=", 443, 46, 403), ("*=", 445, 38, 387), ("+", 447, 14, 339), ("+=", 449, 36, 383), (",", 451, 12, 335), ("-", 453, 15, 341), ("-=", 455, 37, 385), ("->", 457, 51, 413), (".", 459, 23, 357), ("...", 461, 52, 415), ("/", 463, 17, 345), ("//", 465, 47, 405), ("//=", 467, 48, 407), ("/=", 469, 39, 389), (":", 471, 11, 333), (":=", 473, 53, 417), (";", 475, 13, 337), ("<", 477, 20, 351), ("<<", 479, 33, 377), ("<<=", 481, 44, 399), ("<=", 483, 29, 369), ("=", 485, 22, 355), ("==", 487, 27, 365), (">", 489, 21, 353), (">=", 491, 30, 371), (">>", 492, 34, 379), (">>=", 493, 45, 401), ("@", 494, 49, 409), ("@=", 495, 50, 411), ("[", 496, 9, 329), ("]", 497, 10, 331), ("^", 498, 32, 375), ("^=", 499, 43, 397), ("{", 500, 25, 361), ("|", 501, 18, 347), ("|=", 502, 42, 395), ("}", 503, 26, 363), ("~", 504, 31, 373)]
noncomputable def es127 (w : World) : Array DictEntry := (esL.map fun p => (⟨hashStr w (Str.ofString p.1), .str (Str.ofString p.1) p.2.1, .int (p.2.2.1 : Nat) p.2.2.2⟩ : DictEntry)).toArray
noncomputable def fldOf : Data -> Option (Array Value) | .fields ws => some ws | _ => none
noncomputable def strIs (q : Str) : Value -> Bool | .str x _ => x == q | _ => false
noncomputable def strIn : Value -> Bool | .str _ _ => true | _ => false
noncomputable def intIn : Value -> Bool | .int _ _ => true | _ => false
noncomputable def boolIn : Value -> Bool | .bool _ => true | _ => false
noncomputable def refIs (P : Addr) : Value -> Bool | .ref p => Nat.beq p P | _ => false
noncomputable def typeIsB (n : String) : Value -> Bool | .type m => m == n | _ => false
noncomputable def codeB (h : Heap) (c : Addr) (q : Str) : Bool := ((h.get? c).bind fun o => fldOf o.data).any fun ws => (ws[1]?).any (strIs q) && (ws[2]?).any (strIs "/claim/cut.py")
noncomputable def tabB (h : Heap) (c P : Addr) : Bool := (h.get? c).any fun o => typeIsB "code" o.cls && (fldOf o.data).any fun ws => refIs P (ws.getD 11 .none) && strIn (ws.getD 18 .none) && intIn (ws.getD 7 .none) && boolIn (ws.getD 9 .none) && intIn (ws.getD 10 .none)
noncomputable def cdL : List (Addr × Str) := fnL.map (fun p => (p.1 - 1, p.2.1.name)) ++ meL.map (fun p => (p.1 - 1, p.2.qualname))
noncomputable def mnL : List (Str × Option Value) := [("__init__", some (.ref 59)), ("push", some (.ref 66)), ("pop_from", some (.ref 74)), ("pop", some (.ref 82)), ("__len__", some (.ref 89)), ("__str__", some (.ref 96)), ("part_count", some (.ref 119)),
  ("__setattr__", none), ("_initial_size", none), ("__getattribute__", none), ("__getattr__", none), ("append", none), ("__getitem__", none), ("__setitem__", none), ("__iter__", none)]
noncomputable def obL (w : World) : List (Addr × Obj) := [(122, { cls := .type "type", data := .cls { name := "_Accumulator", bases := [.type "list"], mro := [.ref 122, .type "list", .type "object"], ns := 121, qualname := "_Accumulator" }, slots := #[some (.ref 43), none, some (.str "_Accumulator" 225), some (.str "_Accumulator" 233), some (.builtin "list.__new__"), some (.bool true)] }),
  (46, { cls := .type "cell", data := .cell (some (.ref 122)) }), (51, { cls := .type "tuple", data := .seq #[.int 0 237] }), (84, { cls := .none, data := .fields #[] }), (91, { cls := .none, data := .fields #[] }), (cStatics, { cls := .none, data := .dict #[] }),
  (127, { cls := .type "dict", data := .dict (es127 w) 48 }), (4, { cls := .type "module", dict := some 0 }), (67, { cls := .type "tuple", data := .seq #[.int 0 256] })]
noncomputable def obsL (s : Shared) :=
  ((fnL.map fun p => (s.heap.get? p.1).map fun o => (o.cls, o.data)), (meL.map fun p => (s.heap.get? p.1).map fun o => (o.cls, o.data)),
   (cdL.all (fun p => codeB s.heap p.1 p.2) && tabB s.heap 88 84 && tabB s.heap 95 91 && s.heap.isNs 121 && s.heap.isNs mainGlobals && s.heap.isNs builtinsNs),
   (gl.map fun p => (s.heap.nsMap mainGlobals p.1, s.heap.nsMap builtinsNs p.1)), (mnL.map fun p => s.heap.nsMap 121 p.1) ++ [s.heap.nsMap mainGlobals "__builtins__", s.heap.nsMap mainGlobals "law"], [122, 46, 51, 84, 91, cStatics, 127, 4, 67].map s.heap.get?)
noncomputable def valL (w : World) : List (Option (Value × Data)) × List (Option (Value × Data)) × Bool × List (Option Value × Option Value) × List (Option Value) × List (Option Obj) :=
  ((fnL.map fun p => some (.type "function", .func (docDef p.2.1.name p.2.1.params p.2.1.body p.2.1.scope p.2.2 (.ref (p.1 - 1)) .none))), (meL.map fun p => some (.type "function", .func p.2)),
   true, ((gl.take 21).map (fun p => (some p.2, none)) ++ (gl.drop 21).map (fun p => (none, some p.2))), mnL.map (·.2) ++ [some (.ref 4), some (.ref 207)], (obL w).map fun p => some p.2)
theorem ws1 : sreFenced (OpenLaw.row PySem.Challenge.rw_yj0019_01).prog.main = true := by kernel_rfl
theorem ws3 : namesResolve (OpenLaw.row PySem.Challenge.rw_yj0019_01).prog = true := by kernel_rfl
theorem ws5 : noRoadLSs { strict := !(importedModules (OpenLaw.row PySem.Challenge.rw_yj0019_01).prog.main.body).all cThrough.contains, foot := none, bare := (["vars", "dir", "locals"] : List Str).filter (readsOut (OpenLaw.row PySem.Challenge.rw_yj0019_01).prog (OpenLaw.row PySem.Challenge.rw_yj0019_01).prog.main.body) } (OpenLaw.row PySem.Challenge.rw_yj0019_01).prog.main.body = true := by kernel_rfl
theorem ws6 : (namesMeet (OpenLaw.row PySem.Challenge.rw_yj0019_01).prog (OpenLaw.row PySem.Challenge.rw_yj0019_01).prog.main.body fun _ n => attrL n) = true := by kernel_rfl
theorem ws7 : noClassBlock PySem.Challenge.rw_yj0019_01.prog PySem.Challenge.rw_yj0019_01.footing = true := by kernel_rfl
theorem ws8 : noRoadLSs { strict := true, foot := some PySem.Challenge.rw_yj0019_01.bound', writes := PySem.Challenge.rw_yj0019_01.writes, may := PySem.Challenge.rw_yj0019_01.may } PySem.Challenge.rw_yj0019_01.footing = true := by kernel_rfl
theorem ws9 : PySem.Challenge.rw_yj0019_01.bound'.all (fun n => !builtinNamed n || PySem.Challenge.rw_yj0019_01.about == [n] || !PySem.Challenge.rw_yj0019_01.reads n) = true := by kernel_rfl
theorem wsA : namesMeet PySem.Challenge.rw_yj0019_01.prog PySem.Challenge.rw_yj0019_01.footing (fun sc n => (!(["type", "isinstance", "issubclass", "getattr", "hasattr"] : List Str).contains n || sc.names.lookup n == some .globalImplicit) && (PySem.Challenge.rw_yj0019_01.may != some n || sc.kind == .module || sc.names.lookup n == some .globalImplicit)) = true := by kernel_rfl
theorem wsB : PySem.Challenge.rw_yj0019_01.own.all (fun n => !builtinNamed n) = true := by kernel_rfl
theorem wsC : namesMeet PySem.Challenge.rw_yj0019_01.prog PySem.Challenge.rw_yj0019_01.above (fun _ n => !PySem.Challenge.rw_yj0019_01.own.contains n) = true := by kernel_rfl
theorem wsD : (namesMeet PySem.Challenge.rw_yj0019_01.prog PySem.Challenge.rw_yj0019_01.footing fun sc n => sc.kind == .module || sc.names.lookup n != some .globalExplicit) = true := by kernel_rfl
theorem wsL : OpenLaw.wellSaid PySem.Challenge.rw_yj0019_01 = true := by
  unfold OpenLaw.wellSaid OpenRow.wellSaid OpenRow.partSaid looksOpen
  repeat' (first | with_reducible exact ws1 | with_reducible exact ws3 | with_reducible exact ws5 | with_reducible exact ws6 | with_reducible exact ws7 | with_reducible exact ws8 | with_reducible exact ws9 | with_reducible exact wsA | with_reducible exact wsB | with_reducible exact wsC | with_reducible exact wsD | with_reducible refine look_both ?_ ?_)
  all_goals kernel_rfl
noncomputable def goT (tb : String -> Option Builtin) (p : Program) (w : World) (n₀ : Nat) (ann : Option Value) : Nat -> SharedT -> Thread -> Option (SharedT × Thread)
  | 0, s, t => some (s, t)
  | n + 1, s, t => match through t with
    | true => none
    | false => match stepOk n₀ ann t with
      | false => none
      | true => match stepT (denote tb) p w s t with
        | some (s', t') => goT tb p w n₀ ann n s' t'
        | none => none
theorem goT_of {tb : String -> Option Builtin} {p : Program} {w : World} {n₀ : Nat} {ann : Option Value} : ∀ {n : Nat} {s s' : SharedT} {t t' : Thread}, goT tb p w n₀ ann n s t = some (s', t') -> topGo tb p w n₀ ann n s.abs t = some (s'.abs, t')
  | 0, s, s', t, t', h => by cases h; rfl
  | n + 1, s, s', t, t', h => by
    unfold goT at h
    unfold topGo
    cases ht : through t with
    | true => rw [ht] at h; cases h
    | false =>
      rw [ht] at h
      cases hk : stepOk n₀ ann t with
      | false => rw [hk] at h; cases h
      | true =>
        rw [hk] at h
        cases hs : stepT (denote tb) p w s t with
        | none => rw [hs] at h; cases h
        | some r => obtain ⟨s₂, t₂⟩ := r; rw [hs] at h; rw [stepT_spec hs]; exact goT_of h
noncomputable def fileH : Str := "/claim/cut.py"
noncomputable def tupV (l : List Value) : Obj := { cls := .type "tuple", data := .seq l.toArray }
noncomputable def fldV (l : List Value) : Obj := { cls := .none, data := .fields l.toArray }
noncomputable def strV : List Str -> Nat -> List Value
  | [], _ => []
  | x :: r, t => .str x t :: strV r (t + 1)
noncomputable def iV (n : Nat) : Value := .int (n : Nat) 0
noncomputable def rV : Bool -> Nat -> Value
  | true, n => .ref n
  | false, _ => .none
noncomputable def codeV (x q : Str) (t l na b : Nat) (fn : Bool) (e : Nat) : Obj :=
  { cls := .type "code", data := .fields #[.str x t, .str q (t + 1), .str fileH (t + 2), iV l, iV na, iV 0, iV 0, iV (match fn with | true => 3 | false => 0), .ref b, .bool fn, .int 181 0, .ref (b + 1), .none, rV fn (b + 2), rV fn (b + 3), rV fn (b + 4), iV e, iV l, .str fileH (e + 1)] }
noncomputable def frmV (c l : Nat) (pm : Value) : Obj := { cls := .type "frame", slots := #[some (.ref c), some (.ref 3), some (.ref l), none, some pm, none, some (.ref 0)] }
noncomputable def grp (F : FnDef) (q : Str) (pm : Value) (b t l na : Nat) (fr vs : List Str) (clo : List (Str × Addr)) (df ct : Value) : List (Addr × Obj) :=
  [(b, tupV (strV fr (t + 3))), (b + 1, fldV []), (b + 2, tupV (strV vs (t + 3 + fr.length))), (b + 3, tupV []),
   (b + 4, { cls := .none, data := .func { name := F.name, qualname := q, params := F.params, body := .stmts F.body, scope := F.scope, globals := 0, closure := [], defaults := .none, kwdefaults := .none } }),
   (b + 5, codeV F.name q t l na b true (t + 3 + fr.length + vs.length)), (b + 6, { cls := .type "function", data := .func { docDef F.name F.params F.body F.scope pm (.ref (b + 5)) .none with qualname := q, closure := clo, defaults := df, closureTuple := ct } })]
noncomputable def pmM : Value := .str "__main__" 164
noncomputable def ent (w : World) (x : Str) (t : Nat) (v : Value) : DictEntry := ⟨hashStr w x, .str x t, v⟩
noncomputable def clsN (w : World) : List DictEntry := [ent w "__firstlineno__" 236 (.int 21 235), ent w "__init__" 246 (.ref 59), ent w "push" 255 (.ref 66), ent w "pop_from" 265 (.ref 74), ent w "pop" 273 (.ref 82), ent w "__len__" 280 (.ref 89), ent w "__str__" 287 (.ref 96), ent w "reset" 295 (.ref 104), ent w "is_onlyws" 302 (.ref 111), ent w "part_count" 310 (.ref 119), ent w "__static_attributes__" 312 (.ref 120)]
noncomputable def dictV (es : List DictEntry) (n : Nat) : Obj := { cls := .type "dict", data := .dict es.toArray n }
noncomputable def pre0 : List (Addr × Obj) := [(11, tupV []), (13, codeV "<module>" "<module>" 182 1 0 11 false 185), (14, frmV 13 3 pmM)]
noncomputable def cls0 (w : World) : List (Addr × Obj) :=
  [(12, fldV [iV 1, iV 0, .ref 20, iV 5, iV 0, .ref 27, iV 7, iV 0, .ref 34, iV 9, iV 0, .ref 41, iV 21, iV 0, .ref 49])] ++ grp F_wall "_wall" pmM 15 187 1 1 [] ["k"] [] .none .none ++ grp F_strcoll "_strcoll" pmA 22 196 5 2 [] ["a", "b"] [] .none .none ++ grp F_strxfrm "_strxfrm" pmA 29 204 7 1 [] ["s"] [] .none .none ++
  grp F_strip "_strip_padding" pmA 36 211 9 2 [] ["s", "amount", "lpos", "rpos"] [] .none .none ++
  [(43, tupV [.type "list"]), (44, { cls := .type "builtin_function_or_method", data := .fields #[.builtin "type.__prepare__", .type "type"] }),
   (45, dictV ([ent w "__module__" 232 pmD, ent w "__qualname__" 234 (.str "_Accumulator" 233)] ++ clsN w ++ [ent w "__classcell__" 313 (.ref 46)]) 14), (46, { cls := .type "cell", data := .cell (some (.ref 122)) }), (47, tupV []),
   (48, fldV [iV 23, iV 4, .ref 58, iV 27, iV 4, .ref 65, iV 30, iV 4, .ref 73, iV 35, iV 4, .ref 81, iV 40, iV 4, .ref 88, iV 43, iV 4, .ref 95, iV 46, iV 4, .ref 103, iV 49, iV 4, .ref 110, iV 52, iV 4, .ref 118]),
   (49, codeV "_Accumulator" "_Accumulator" 227 21 0 47 false 230), (50, frmV 49 45 pmD), (51, tupV [.int 0 237]), (52, tupV [.ref 46])] ++ grp F_m_init "_Accumulator.__init__" pmD 53 238 23 2 ["__class__"] ["self", "initial_size"] clo46 (.ref 51) (.ref 52) ++
  grp F_m_push "_Accumulator.push" pmD 60 247 27 3 [] ["self", "fws", "string"] [] .none .none ++ [(67, tupV [.int 0 256])] ++ grp F_m_pop_from "_Accumulator.pop_from" pmD 68 257 30 2 [] ["self", "i", "popped"] [] (.ref 67) .none ++ [(75, tupV [.ref 46])] ++
  grp F_m_pop "_Accumulator.pop" pmD 76 266 35 1 ["__class__"] ["self"] clo46 .none (.ref 75) ++ grp F_m_len "_Accumulator.__len__" pmD 83 274 40 1 [] ["self"] [] .none .none ++ grp F_m_str "_Accumulator.__str__" pmD 90 281 43 1 [] ["self"] [] .none .none ++ [(97, tupV [.none])] ++
  grp F_m_reset "_Accumulator.reset" pmD 98 288 46 2 [] ["self", "startval"] [] (.ref 97) .none ++ grp F_m_onlyws "_Accumulator.is_onlyws" pmD 105 296 49 1 [] ["self"] [] .none .none ++ [(112, tupV [.ref 46])] ++
  grp F_m_part_count "_Accumulator.part_count" pmD 113 303 52 1 ["__class__"] ["self"] clo46 .none (.ref 112) ++
  [(120, tupV [.str "_initial_size" 311]), (121, dictV ([ent w "__module__" 232 pmD] ++ clsN w ++ [ent w "__dict__" 315 (.ref 123), ent w "__weakref__" 317 (.ref 124), ent w "__doc__" 318 .none]) 5), (122, ((obL w).head?.map (·.2)).getD default),
   (123, { cls := .type "getset_descriptor", data := .fields #[.str "__dict__" 314, .ref 122, .builtin "function.__dict__", .builtin "function.__dict__#set"] }), (124, { cls := .type "getset_descriptor", data := .fields #[.str "__weakref__" 316, .ref 122, .builtin "ExceptionGroup.__weakref__", .none] }),
   (125, { cls := .type "super", data := .fields #[.ref 122, .ref 122, .ref 122] }), (126, { cls := .type "builtin_function_or_method", data := .fields #[.builtin "object.__init_subclass__", .ref 122] })]
noncomputable def cnL : List Str := (["ENDMARKER", "LPAR", "RPAR", "LSQB", "RSQB", "COLON", "COMMA", "SEMI", "PLUS", "MINUS", "STAR", "SLASH", "VBAR", "AMPER", "LESS", "GREATER", "EQUAL", "DOT", "PERCENT", "LBRACE", "RBRACE", "EQEQUAL", "NOTEQUAL", "LESSEQUAL", "GREATEREQUAL", "TILDE", "CIRCUMFLEX", "LEFTSHIFT", "RIGHTSHIFT", "DOUBLESTAR", "PLUSEQUAL", "MINEQUAL", "STAREQUAL", "SLASHEQUAL", "PERCENTEQUAL", "AMPEREQUAL", "VBAREQUAL", "CIRCUMFLEXEQUAL", "LEFTSHIFTEQUAL", "RIGHTSHIFTEQUAL", "DOUBLESTAREQUAL", "DOUBLESLASH", "DOUBLESLASHEQUAL", "AT", "ATEQUAL", "RARROW", "ELLIPSIS", "COLONEQUAL", "EXCLAMATION", "NT_OFFSET"] : List String).map Str.ofString
noncomputable def cnE (w : World) : List Str -> List Nat -> Nat -> List DictEntry
  | x :: r, v :: s, t => ent w x (t + 1) (.int (v : Nat) t) :: cnE w r s (t + 2)
  | _, _, _ => []
noncomputable def ns7 (w : World) (nm : Value) : List DictEntry := [ent w "__name__" 165 nm, ent w "__doc__" 166 .none, ent w "__package__" 167 .none, ent w "__loader__" 168 (.builtin "__main__.__loader__#opaque"), ent w "__spec__" 169 .none, ent w "__annotations__" 170 (.ref 6), ent w "__builtins__" 171 (.ref 4), ent w "__file__" 173 (.str fileH 172), ent w "__cached__" 174 .none,
  ent w "_wall" 193 (.ref 21), ent w "_strcoll" 203 (.ref 28), ent w "_strxfrm" 210 (.ref 35), ent w "_strip_padding" 220 (.ref 42), ent w "EMPTYSTRING" 224 (.str "" 223), ent w "_Accumulator" 320 (.ref 122)]
noncomputable def ns58 (w : World) : List DictEntry := ns7 w pmB ++ cnE w cnL (0 :: (List.range 48).map (· + 7) ++ [256]) 323
noncomputable def boT (w : World) : BT := (fillT (boot_heap w.params).objs.toList .nil 0).getD .nil
noncomputable def insL (T : BT) (l : List (Addr × Obj)) : BT := l.foldl (fun T p => T.ins p.1 p.2) T
noncomputable def stT (w : World) (l : List (Addr × Obj)) (n t : Nat) (os : OsState) : SharedT := ⟨insL (boT w) l, n, (boot_heap w.params).life, Array.mk [], boot_drawn, t, os⟩
noncomputable def st0 (w : World) (os : OsState) : SharedT := stT w [] 11 boot_toks os
noncomputable def st1 (w : World) (os : OsState) : SharedT := stT w ((12, fldV []) :: pre0) 15 187 os
noncomputable def st7 (w : World) (os : OsState) : SharedT := stT w ((3, dictV (ns7 w pmD) 15) :: (pre0 ++ cls0 w)) 127 321 os
noncomputable def st58 (w : World) (os : OsState) : SharedT := stT w ((3, dictV (ns58 w) 65) :: (pre0 ++ cls0 w)) 127 423 os
noncomputable def st59 (w : World) (os : OsState) : SharedT :=
  stT w ((3, dictV (ns58 w ++ [ent w "EXACT_TOKEN_TYPES" 519 (.ref 127)]) 66) :: (pre0 ++ cls0 w ++ [(127, dictV (es127 w).toList 48), (128, dictV (((es127 w).toList.drop 17).take 17) 17), (129, dictV ((es127 w).toList.drop 34) 14)])) 130 520 os
noncomputable abbrev pL : Program := PySem.Challenge.pw_yj0019_01
noncomputable def bL : List Stmt := behindTheImports pL
noncomputable def envL : Env := { scope := pL.main.scope, locals := mainNs, globals := mainNs, cells := [], code := .ref 13, frame := some 14 }
noncomputable def cL : Code := .body bL envL
noncomputable def b1L : List Stmt := bL.drop 8
noncomputable def b2L : List Stmt := b1L.drop 51
noncomputable def b3L : List Stmt := b2L.drop 1
noncomputable abbrev kL : List Frame := [topFrame default]
theorem hA (w : World) (os : OsState) : goT treeTable pL w 11 (some (.ref 6)) 12 (st0 w os) (topStub pL) = some (st1 w os, ⟨denote treeTable cL, cL, default, kL⟩) := by kernel_rfl
theorem hB (w : World) (os : OsState) : segRunT treeTable pL w 11 (some (.ref 6)) 1 1 (st1 w os) (blockOf bL envL cL default kL) = some (.next, st1 w os, cL, default) := by kernel_rfl
theorem hC (w : World) (os : OsState) : segRunT treeTable pL w 11 (some (.ref 6)) 1 700 (st1 w os) (piecesOf (bL.take 8) envL cL default kL) = some (.next, st7 w os, cL, ⟨21, 0, 53, 32⟩) := by kernel_rfl
theorem hD (w : World) (os : OsState) : segRunT treeTable pL w 11 (some (.ref 6)) 1 500 (st7 w os) (piecesOf (b1L.take 51) envL cL ⟨21, 0, 53, 32⟩ kL) = some (.next, st58 w os, cL, ⟨104, 0, 104, 9⟩) := by kernel_rfl
theorem hE0 (w : World) (os : OsState) : segRunT treeTable pL (w.withFollow "special-get-raises" false) 11 (some (.ref 6)) 1 1000 (st58 (w.withFollow "special-get-raises" false) os) (piecesOf (b2L.take 1) envL cL ⟨104, 0, 104, 9⟩ kL) = some (.next, st59 (w.withFollow "special-get-raises" false) os, cL, ⟨105, 0, 105, 17⟩) := by kernel_rfl
theorem hE1 (w : World) (os : OsState) : segRunT treeTable pL (w.withFollow "special-get-raises" true) 11 (some (.ref 6)) 1 1000 (st58 (w.withFollow "special-get-raises" true) os) (piecesOf (b2L.take 1) envL cL ⟨104, 0, 104, 9⟩ kL) = some (.next, st59 (w.withFollow "special-get-raises" true) os, cL, ⟨105, 0, 105, 17⟩) := by kernel_rfl
noncomputable abbrev rowL : OpenRow := OpenLaw.row PySem.Challenge.rw_yj0019_01
noncomputable def XtL : Shared -> Bool := fun s => xlAt qL [] s && recOk (RowW.records rowL.toRowW) s
theorem hF (w : World) (os : OsState) : (topRunT treeTable pL w 11 (some (.ref 6)) 500 (st59 w os) (restOf b3L envL cL ⟨105, 0, 105, 17⟩ kL)).map (fun s' => lookT pL qL looseL XtL obsL 5000 w ⟨boot_heap w.params, Array.mk [], boot_drawn, boot_toks, os⟩ s'.abs) = some ((true, true), openGood qL looseL, valL w) := by kernel_rfl
theorem sz11 (w : World) : (boot_heap w.params).objs.size = 11 := by kernel_rfl
theorem ns11 (w : World) : (boot_heap w.params).isNs mainGlobals = true := by kernel_rfl
theorem an11 (w : World) : (boot_heap w.params).nsMap mainGlobals "__annotations__" = some (.ref 6) := by kernel_rfl
theorem bo_some (w : World) : (fillT (boot_heap w.params).objs.toList .nil 0).isSome = true := by kernel_rfl
theorem bo_eq (w : World) : fillT (boot_heap w.params).objs.toList .nil 0 = some (boT w) := by
  obtain ⟨T, e⟩ := Option.isSome_iff_exists.mp (bo_some w)
  unfold boT
  rw [e]; rfl
theorem boot_abs (w : World) (os : OsState) : (st0 w os).abs = ⟨boot_heap w.params, Array.mk [], boot_drawn, boot_toks, os⟩ := by
  have h := fill_abs (bo_eq w)
  rw [sz11 w] at h
  show (⟨absHeap (boT w) 11 (boot_heap w.params).life, _, _, _, _⟩ : Shared) = _
  rw [h]
  rfl
theorem run_all (w : World) (os : OsState) (hE : segRunT treeTable pL w 11 (some (.ref 6)) 1 1000 (st58 w os) (piecesOf (b2L.take 1) envL cL ⟨104, 0, 104, 9⟩ kL) = some (.next, st59 w os, cL, ⟨105, 0, 105, 17⟩)) :
    ∃ s', topRun treeTable pL w 11 (some (.ref 6)) 5000 ⟨boot_heap w.params, Array.mk [], boot_drawn, boot_toks, os⟩ (topStub pL) = some s' ∧ lookT pL qL looseL XtL obsL 5000 w ⟨boot_heap w.params, Array.mk [], boot_drawn, boot_toks, os⟩ s' = ((true, true), openGood qL looseL, valL w) := by
  obtain ⟨s', e1, e2⟩ := Option.map_eq_some_iff.mp (hF w os)
  have k3 := topRun_of e1
  have k2 := piece_app (segRun_of hE) k3
  rw [show b2L.take 1 ++ b3L = b2L from List.take_append_drop 1 b2L] at k2
  have k1 := piece_app (segRun_of (hD w os)) k2
  rw [show b1L.take 51 ++ b2L = b1L from List.take_append_drop 51 b1L] at k1
  have k0 := piece_app (segRun_of (hC w os)) k1
  rw [show bL.take 8 ++ b1L = bL from List.take_append_drop 8 bL] at k0
  have kb := piece_block (segRun_of (hB w os)) k0
  have ka := go_top (goT_of (hA w os)) kb
  rw [boot_abs] at ka
  exact ⟨_, topRun_mono 2287 _ _ _ _ ka, e2⟩
theorem from_run {w : World} {os : OsState} {s' : Shared} (run : topRun treeTable pL w 11 (some (.ref 6)) 5000 ⟨boot_heap w.params, Array.mk [], boot_drawn, boot_toks, os⟩ (topStub pL) = some s')
    (look : lookT pL qL looseL XtL obsL 5000 w ⟨boot_heap w.params, Array.mk [], boot_drawn, boot_toks, os⟩ s' = ((true, true), openGood qL looseL, valL w)) :
    (topFrom treeTable pL w 5000 ⟨boot_heap w.params, Array.mk [], boot_drawn, boot_toks, os⟩).map (fun s => (openSeen qL looseL (importedModules pL.main.body) XtL true s, obsL s)) = some (openGood qL looseL, valL w) := by
  unfold lookT at look
  have h1 := (Prod.mk.inj (Prod.mk.inj look).1)
  have h2 := (Prod.mk.inj look).2
  unfold topFrom
  rw [h1.2]
  show (Option.bind _ _).map _ = _
  rw [show (Shared.heap ⟨boot_heap w.params, Array.mk [], boot_drawn, boot_toks, os⟩) = boot_heap w.params from rfl, sz11, an11, run]
  show Option.map _ (match staticsOk (importedModules pL.main.body) (boot_heap w.params) s'.heap && namesBound pL s'.heap && gensDone s' && laidKept (boot_heap w.params) s'.heap with | true => some s' | false => none) = _
  rw [h1.1]
  exact congrArg some h2
theorem bh (w : World) (b : Bool) : boot_heap (w.withFollow "special-get-raises" b).params = boot_heap w.params := by kernel_rfl
theorem left1 : LeftO pL qL looseL XtL obsL valL 5000 := left_of "special-get-raises" op3 fun b w os => by
  obtain ⟨s', e1, e2⟩ := run_all (w.withFollow "special-get-raises" b) os (by
    cases b with
    | false => exact hE0 w os
    | true => exact hE1 w os)
  have := from_run e1 e2
  rw [bh] at this
  exact this
end Mine
open PySem PySem.W PySem.Spec PySem.Calls PyProof.Rows
namespace Mine
open Classical in
noncomputable def subH (h : Heap) (p : Addr -> Prop) : Heap :=
  ⟨h.objs.mapIdx fun i o => if p i then o else { o with data := .freed }, h.life⟩
theorem subH_get {h : Heap} {p : Addr -> Prop} {b : Addr} {o : Obj} : (subH h p).get? b = some o ↔ p b ∧ h.get? b = some o := by
  rw [Heap.get?_some_iff, Heap.get?_some_iff]
  simp only [subH, Array.getElem?_mapIdx]
  constructor
  · rintro ⟨h1, h2⟩
    obtain ⟨o', ho', he⟩ := Option.map_eq_some_iff.mp h1
    by_cases hp : p b
    · rw [if_pos hp] at he; subst he; exact ⟨hp, ho', h2⟩
    · rw [if_neg hp] at he; subst he; simp [Obj.isFreed] at h2
  · rintro ⟨hp, h1, h2⟩
    refine ⟨?_, h2⟩
    rw [h1]; simp [hp]
noncomputable def addH (g h : Heap) (p : Addr -> Prop) : Heap := subH h fun b => g.get? b ≠ none ∨ p b
theorem addH_get {g h : Heap} {p : Addr -> Prop} {b : Addr} {o : Obj} : (addH g h p).get? b = some o ↔ (g.get? b ≠ none ∨ p b) ∧ h.get? b = some o := subH_get
noncomputable abbrev Le (g h : Heap) : Prop := ∀ b o, g.get? b = some o -> h.get? b = some o
theorem addH_le {g h : Heap} {p : Addr -> Prop} : Le (addH g h p) h := fun _ _ e => (addH_get.mp e).2
theorem le_addH {g h : Heap} {p : Addr -> Prop} (k : Le g h) : Le g (addH g h p) := fun b o e => addH_get.mpr ⟨.inl (by rw [e]; exact fun q => nomatch q), k b o e⟩
theorem addH_none {g h : Heap} {p : Addr -> Prop} {b : Addr} (hg : g.get? b = none) (hp : ¬ p b) : (addH g h p).get? b = none := by
  cases e : (addH g h p).get? b with
  | none => rfl
  | some o => rcases (addH_get.mp e).1 with q | q
              · exact absurd hg q
              · exact absurd q hp
theorem Le.trans {a b c : Heap} (x : Le a b) (y : Le b c) : Le a c := fun k o e => y k o (x k o e)
theorem Le.refl {a : Heap} : Le a a := fun _ _ e => e
noncomputable def listO (vs : Array Value) (n : Nat) : Obj := { cls := .type "list", data := .seq vs n }
noncomputable def tupO (vs : Array Value) (n : Nat) : Obj := { cls := .type "tuple", data := .seq vs n }
mutual
inductive RD (g : Heap) : Value -> PyData -> Prop
  | none : RD g .none .none
  | bool (b) : RD g (.bool b) (.bool b)
  | int (i t) : RD g (.int i t) (.int i)
  | str (x t) : RD g (.str x t) (.str x)
  | list {a vs n l} : g.get? a = some (listO vs n) -> RDs g vs.toList l -> RD g (.ref a) (.list l)
  | tuple {a vs n l} : g.get? a = some (tupO vs n) -> RDs g vs.toList l -> RD g (.ref a) (.tuple l)
inductive RDs (g : Heap) : List Value -> List PyData -> Prop
  | nil : RDs g [] []
  | cons {v d vs ds} : RD g v d -> RDs g vs ds -> RDs g (v :: vs) (d :: ds)
end
mutual
theorem RD.le {g g' : Heap} (k : Le g g') : ∀ {v d}, RD g v d -> RD g' v d
  | _, _, .none => .none
  | _, _, .bool b => .bool b
  | _, _, .int i t => .int i t
  | _, _, .str x t => .str x t
  | _, _, .list h r => .list (k _ _ h) (RDs.le k r)
  | _, _, .tuple h r => .tuple (k _ _ h) (RDs.le k r)
theorem RDs.le {g g' : Heap} (k : Le g g') : ∀ {v d}, RDs g v d -> RDs g' v d
  | _, _, .nil => .nil
  | _, _, .cons x y => .cons (RD.le k x) (RDs.le k y)
end
mutual
theorem RD.reads {g : Heap} : ∀ {v d}, RD g v d -> ∃ as, Reads g v d as
  | _, _, .none => ⟨_, .none⟩
  | _, _, .bool b => ⟨_, .bool b⟩
  | _, _, .int i t => ⟨_, .int i t⟩
  | _, _, .str x t => ⟨_, .str x t⟩
  | _, _, .list h r => let ⟨_, y⟩ := RDs.reads r; ⟨_, reads_list_at h rfl rfl y⟩
  | _, _, .tuple h r => let ⟨_, y⟩ := RDs.reads r; ⟨_, reads_tuple_at h rfl rfl y⟩
theorem RDs.reads {g : Heap} : ∀ {v d}, RDs g v d -> ∃ as, ReadsAll g v d as
  | _, _, .nil => ⟨_, .nil⟩
  | _, _, .cons x y => let ⟨_, a⟩ := RD.reads x; let ⟨_, b⟩ := RDs.reads y; ⟨_, .cons a b⟩
end
theorem RDs.uncons {g : Heap} {v d vs ds} (x : RDs g (v :: vs) (d :: ds)) : RD g v d ∧ RDs g vs ds := by cases x with | cons x y => exact ⟨x, y⟩
theorem RDs.len {g : Heap} {vs ds} (x : RDs g vs ds) : vs.length = ds.length := by
  induction ds generalizing vs with
  | nil => cases x; rfl
  | cons d ds ih => cases x with | cons _ y => simp [ih y]
theorem RDs.nil_iff {g : Heap} {vs} (x : RDs g vs []) : vs = [] := by cases x; rfl
theorem RDs.one {g : Heap} {vs d} (x : RDs g vs [d]) : ∃ v, vs = [v] ∧ RD g v d := by cases x with | cons a b => cases b; exact ⟨_, rfl, a⟩
theorem RDs.two {g : Heap} {vs d e} (x : RDs g vs [d, e]) : ∃ v u, vs = [v, u] ∧ RD g v d ∧ RD g u e := by cases x with | cons a b => obtain ⟨u, rfl, r⟩ := b.one; exact ⟨_, _, rfl, a, r⟩
theorem RDs.append {g : Heap} {vs ds vs' ds'} (x : RDs g vs ds) (y : RDs g vs' ds') : RDs g (vs ++ vs') (ds ++ ds') := by
  induction ds generalizing vs with
  | nil => rw [RDs.nil_iff x]; exact y
  | cons d ds ih =>
    cases vs with
    | nil => have := x.len; simp at this
    | cons v vs => exact .cons x.uncons.1 (ih x.uncons.2)
theorem RDs.get {g : Heap} {vs ds} {i : Nat} {d : PyData} (x : RDs g vs ds) (h : ds[i]? = some d) : ∃ v, vs[i]? = some v ∧ RD g v d := by
  induction ds generalizing vs i with
  | nil => simp at h
  | cons d' ds ih =>
    cases vs with
    | nil => have := x.len; simp at this
    | cons v vs =>
      cases i with
      | zero => simp at h; subst h; exact ⟨v, rfl, x.uncons.1⟩
      | succ i => simp at h; obtain ⟨u, hu, hr⟩ := ih x.uncons.2 h; exact ⟨u, by simpa using hu, hr⟩
theorem RDs.drop {g : Heap} {vs ds} (x : RDs g vs ds) : ∀ i, RDs g (vs.drop i) (ds.drop i) := by
  induction ds generalizing vs with
  | nil => intro i; rw [RDs.nil_iff x]; simp; exact .nil
  | cons d ds ih =>
    cases vs with
    | nil => have := x.len; simp at this
    | cons v vs => intro i; cases i with
      | zero => exact x
      | succ i => exact ih x.uncons.2 i
theorem RDs.take {g : Heap} {vs ds} (x : RDs g vs ds) : ∀ i, RDs g (vs.take i) (ds.take i) := by
  induction ds generalizing vs with
  | nil => intro i; rw [RDs.nil_iff x]; simp; exact .nil
  | cons d ds ih =>
    cases vs with
    | nil => have := x.len; simp at this
    | cons v vs => intro i; cases i with
      | zero => exact .nil
      | succ i => exact .cons x.uncons.1 (ih x.uncons.2 i)
theorem RD.of_bool {g : Heap} {v b} (x : RD g v (.bool b)) : v = .bool b := by cases x; rfl
theorem RD.of_none {g : Heap} {v} (x : RD g v .none) : v = .none := by cases x; rfl
theorem RD.of_int {g : Heap} {v b} (x : RD g v (.int b)) : ∃ t, v = .int b t := by cases x; exact ⟨_, rfl⟩
theorem RD.of_str {g : Heap} {v b} (x : RD g v (.str b)) : ∃ t, v = .str b t := by cases x; exact ⟨_, rfl⟩
theorem RD.of_list {g : Heap} {v ds} (x : RD g v (.list ds)) : ∃ a vs n, v = .ref a ∧ g.get? a = some (listO vs n) ∧ RDs g vs.toList ds := by
  cases x with | list h1 h2 => exact ⟨_, _, _, rfl, h1, h2⟩
theorem RD.of_tuple {g : Heap} {v ds} (x : RD g v (.tuple ds)) : ∃ a vs n, v = .ref a ∧ g.get? a = some (tupO vs n) ∧ RDs g vs.toList ds := by
  cases x with | tuple h1 h2 => exact ⟨_, _, _, rfl, h1, h2⟩
theorem isList_of {h : Heap} {a vs n} (e : h.get? a = some (listO vs n)) : h.IsList a vs := ⟨_, e, rfl, n, rfl⟩
theorem isTup_of {h : Heap} {a vs n} (e : h.get? a = some (tupO vs n)) : IsTup h a vs := ⟨_, e, rfl, n, rfl⟩
inductive Loc where
  | val (d : PyData)
  | own (l : List PyData)
  | acc (first : Int) (l : List PyData)
  | hid
structure St where
  loc : List (Option Loc)
  cmp : List (Option PyData)
structure Wd where
  prog : Program
  w : World
  K : Frag
  globs : List (Str × Value)
  C : Addr
  mt : Addr -> Prop
noncomputable abbrev Wd.M (W : Wd) : Model := model W.prog W.w
structure WOK (W : Wd) (g : Heap) : Prop where
  K : W.K.In g
  gl : ∃ mg mb, g.Ns mainGlobals mg ∧ g.Ns builtinsNs mb ∧ ∀ p ∈ W.globs, mg p.1 = some p.2 ∨ (mg p.1 = none ∧ mb p.1 = some p.2)
  nolimit : g.NoLimit
theorem WOK.le {W : Wd} {g g' : Heap} (x : WOK W g) (k : Le g g') : WOK W g' :=
  ⟨x.K.keeps k, (by obtain ⟨mg, mb, a, b, c⟩ := x.gl; exact ⟨mg, mb, a.keeps k, b.keeps k, c⟩), x.nolimit.keeps k⟩
noncomputable def AccDict (g : Heap) (dx : Addr) (first : Int) : Prop :=
  ∃ o t, g.get? dx = some o ∧ g.Ns dx (fun x => if x = ("_initial_size" : Str) then some (.int first t) else none)
theorem AccDict.le {g g' : Heap} {dx f} (x : AccDict g dx f) (k : Le g g') : AccDict g' dx f :=
  let ⟨o, t, a, c⟩ := x; ⟨o, t, k _ _ a, c.keeps k⟩
inductive OwnR (g h : Heap) (l : List PyData) (v : Value) : Prop
  | mk (a : Addr) (vs : Array Value) (n : Nat) (e : v = .ref a) (h1 : h.get? a = some (listO vs n)) (h2 : RDs g vs.toList l) (h3 : g.get? a = none)
inductive AccR (C : Addr) (g h : Heap) (first : Int) (l : List PyData) (v : Value) : Prop
  | mk (a dx : Addr) (vs : Array Value) (n : Nat) (e : v = .ref a) (h1 : h.get? a = some { cls := .ref C, dict := some dx, data := .seq vs n }) (h2 : AccDict g dx first) (h3 : RDs g vs.toList l) (h4 : g.get? a = none)
noncomputable def LocRep (W : Wd) (g h : Heap) : Loc -> Value -> Prop
  | .val d, v => RD g v d
  | .own l, v => OwnR g h l v
  | .acc first l, v => AccR W.C g h first l v
  | .hid, _ => True
noncomputable def ownA : Loc -> Value -> Option Addr
  | .own _, .ref a => some a
  | .acc _ _, .ref a => some a
  | _, _ => none
structure Cx where
  sc : Scope
  env : Env
  cp : Option (Scope × List (Str × Addr) × Addr)
  mt : Addr -> Prop
noncomputable def Cx.ev (c : Cx) : Env := match c.cp with | none => c.env | some (cs, cl, C) => compEnvC cs cl C c.env
noncomputable def Cx.cs (c : Cx) : Option Scope := c.cp.map (·.1)
structure CInv (cx : Cx) (S : St) (cv : Nat -> Value) (g h : Heap) (cs : Scope) (cl : List (Str × Addr)) (C : Addr) : Prop where
  dict : ∃ md, h.Ns C md ∧ ∀ i x d, cs.names[i]? = some (x, .local) -> S.cmp[i]? = some (some d) -> md x = some (cv i)
  gC : g.get? C = none
  ne : C ≠ cx.env.locals
  rep : ∀ i d, S.cmp[i]? = some (some d) -> RD g (cv i) d
  cl : ∀ x, cs.names.lookup x = some .free -> cl.lookup x = cx.env.cells.lookup x
  k : cs.kind = .function
  nd : (cs.names.map (·.1)).Nodup
noncomputable def Tab (h : Heap) (a : Addr) : Prop := ∃ (o : Obj) (ws : { w : Array Value // TriplesOk w.toList ∧ o = { cls := .none, data := .fields w } }), h.get? a = some o ∧ o.data = .fields ws.1
structure Inv (W : Wd) (cx : Cx) (S : St) (vals cv : Nat -> Value) (g h : Heap) : Prop where
  le : Le g h
  wok : WOK W g
  esc : cx.env.scope = cx.sc ∧ cx.sc.kind = .function ∧ cx.env.globals = mainGlobals ∧ cx.env.builtins = builtinsNs
  nd : (cx.sc.names.map (·.1)).Nodup
  dict : ∃ md, h.Ns cx.env.locals md ∧ ∀ i x l, cx.sc.names[i]? = some (x, .local) -> S.loc[i]? = some (some l) -> md x = some (vals i)
  gl : g.get? cx.env.locals = none
  cell : ∀ i x, cx.sc.names[i]? = some (x, .cell) -> ∃ c v₀, cx.env.cells.lookup x = some c ∧ h.IsCell c v₀ ∧ ∀ l, S.loc[i]? = some (some l) -> v₀ = some (vals i)
  gcell : ∀ x c, cx.env.cells.lookup x = some c -> g.get? c = none ∧ ∃ v, h.IsCell c v
  cinj : ∀ x y c, cx.env.cells.lookup x = some c -> cx.env.cells.lookup y = some c -> x = y
  rep : ∀ i l, S.loc[i]? = some (some l) -> LocRep W g h l (vals i)
  sep : ∀ i j li lj a, S.loc[i]? = some (some li) -> S.loc[j]? = some (some lj) -> ownA li (vals i) = some a -> ownA lj (vals j) = some a -> i = j
  cmp : ∀ cs cl C, cx.cp = some (cs, cl, C) -> CInv cx S cv g h cs cl C
  mu : (∀ a, W.mt a -> cx.mt a) ∧ ∀ a, cx.mt a -> g.get? a = none ∧ Tab h a
noncomputable def Fp (cx : Cx) (S : St) (vals : Nat -> Value) (a : Addr) : Prop :=
  a = cx.env.locals ∨ (∃ x, cx.env.cells.lookup x = some a) ∨ (∃ i l, S.loc[i]? = some (some l) ∧ ownA l (vals i) = some a) ∨ (∃ cs cl, cx.cp = some (cs, cl, a)) ∨ cx.mt a
structure Step (fp : Addr -> Prop) (g : Heap) (s : Shared) (fp' : Addr -> Prop) (g' : Heap) (s' : Shared) : Prop where
  gg : Le g g'
  hh : ∀ b o, ¬ fp b -> s.heap.get? b = some o -> s'.heap.get? b = some o
  gn : ∀ a o, s.heap.get? a = some o -> ¬ fp a -> g.get? a = none -> g'.get? a = none
  ff : ∀ a, fp' a -> fp a ∨ s.heap.get? a = none
  lv : ∀ a, s'.heap.get? a = none -> s.heap.get? a = none
  os : s'.os = s.os
  gens : AllBare s.gens -> AllBare s'.gens
theorem Step.refl {fp : Addr -> Prop} {g : Heap} {s : Shared} : Step fp g s fp g s := ⟨Le.refl, fun _ _ _ e => e, fun _ _ _ _ e => e, fun _ => .inl, fun _ e => e, rfl, id⟩
theorem Step.off {fp fp' : Addr -> Prop} {g g' : Heap} {s s' : Shared} (x : Step fp g s fp' g' s') {a : Addr} {o : Obj} (e : s.heap.get? a = some o) (h : ¬ fp a) : ¬ fp' a :=
  fun q => (x.ff a q).elim h fun q => by rw [e] at q; cases q
theorem Step.trans {f₁ f₂ f₃ : Addr -> Prop} {g₁ g₂ g₃ : Heap} {s₁ s₂ s₃ : Shared} (x : Step f₁ g₁ s₁ f₂ g₂ s₂) (y : Step f₂ g₂ s₂ f₃ g₃ s₃) : Step f₁ g₁ s₁ f₃ g₃ s₃ where
  gg := x.gg.trans y.gg
  hh := fun b o hb e => y.hh b o (x.off e hb) (x.hh b o hb e)
  gn := fun a o ha hf e => y.gn a o (x.hh a o hf ha) (x.off ha hf) (x.gn a o ha hf e)
  ff := fun a h => (y.ff a h).elim (x.ff a) fun q => .inr (x.lv a q)
  lv := fun a e => x.lv a (y.lv a e)
  os := y.os.trans x.os
  gens := y.gens ∘ x.gens
structure Room (A : Around) (k : Nat) : Prop where
  h : A.handled = none
  d : A.depth + k + 50 ≤ 1000
  u : A.units + 20 * k + 1000 ≤ 9900
  f : ∃ fr, A.frames = some fr
noncomputable def Ev (W : Wd) (k : Nat) (sc : Scope) (cs : Option Scope) (e : Expr) (f : St -> Option (PyData × St)) : Prop :=
  ∀ S d S', f S = some (d, S') -> ∀ (A : Around) (cx : Cx) vals cv g s (Q : Value -> Shared -> Prop) (E : Value -> Shared -> Prop), Room A k -> cx.sc = sc -> cx.cs = cs -> Inv W cx S vals cv g s.heap ->
    (∀ v g' s', Step (Fp cx S vals) g s (Fp cx S' vals) g' s' -> Inv W cx S' vals cv g' s'.heap -> RD g' v d -> Q v s') -> wpAny W.M A (eval e cx.ev) Q E s
noncomputable def EvO (W : Wd) (k : Nat) (sc : Scope) (cs : Option Scope) (e : Expr) (f : St -> Option (List PyData × St)) : Prop :=
  ∀ S d S', f S = some (d, S') -> ∀ (A : Around) (cx : Cx) vals cv g s (Q : Value -> Shared -> Prop) (E : Value -> Shared -> Prop), Room A k -> cx.sc = sc -> cx.cs = cs -> Inv W cx S vals cv g s.heap ->
    (∀ a vs n g' s', Step (Fp cx S vals) g s (Fp cx S' vals) g' s' -> Inv W cx S' vals cv g' s'.heap -> s.heap.get? a = none -> s'.heap.get? a = some (listO vs n) -> RDs g' vs.toList d -> g'.get? a = none -> ¬ Fp cx S' vals a -> Q (.ref a) s') -> wpAny W.M A (eval e cx.ev) Q E s
noncomputable def Tst (W : Wd) (k : Nat) (sc : Scope) (cs : Option Scope) (e : Expr) (f : St -> Option (Bool × St)) : Prop :=
  ∀ S d S', f S = some (d, S') -> ∀ (A : Around) (cx : Cx) vals cv g s (Q : Bool -> Shared -> Prop) (E : Value -> Shared -> Prop), Room A k -> cx.sc = sc -> cx.cs = cs -> Inv W cx S vals cv g s.heap ->
    (∀ g' s', Step (Fp cx S vals) g s (Fp cx S' vals) g' s' -> Inv W cx S' vals cv g' s'.heap -> Q d s') -> wpAny W.M A (isTrue e cx.ev (eval e cx.ev)) Q E s
inductive Fl where
  | next
  | ret (d : PyData)
noncomputable def FlRep (g : Heap) : Fl -> Flow -> Prop
  | .next, f => f = .next
  | .ret d, f => ∃ v, f = .ret v ∧ RD g v d
noncomputable def ExG (W : Wd) (k : Nat) (sc : Scope) (t : Env -> Sem Flow) (f : List (Option Loc) -> Option (Fl × List (Option Loc))) : Prop :=
  ∀ S fl S', f S = some (fl, S') -> ∀ (A : Around) (cx : Cx) vals cv g s (Q : Flow -> Shared -> Prop) (E : Value -> Shared -> Prop), Room A k -> cx.sc = sc -> cx.cp = none -> Inv W cx ⟨S, []⟩ vals cv g s.heap ->
    (∀ flow vals' g' s', Step (Fp cx ⟨S, []⟩ vals) g s (Fp cx ⟨S', []⟩ vals') g' s' -> Inv W cx ⟨S', []⟩ vals' cv g' s'.heap -> FlRep g' fl flow -> Q flow s') -> wpAny W.M A (t cx.env) Q E s
noncomputable abbrev Ex (W : Wd) (k : Nat) (sc : Scope) (st : Stmt) := ExG W k sc (exec st)
noncomputable abbrev Exs (W : Wd) (k : Nat) (sc : Scope) (st : List Stmt) := ExG W k sc (execs st)
theorem Heap.Ns.of_get {h h' : Heap} {a : Addr} {m} (x : h.Ns a m) (k : ∀ o, h.get? a = some o -> h'.get? a = some o) : h'.Ns a m :=
  let ⟨o, es, ep, ho, r⟩ := x; ⟨o, es, ep, k o ho, r⟩
theorem Heap.IsCell.of_get {h h' : Heap} {a : Addr} {v} (x : h.IsCell a v) (k : ∀ o, h.get? a = some o -> h'.get? a = some o) : h'.IsCell a v :=
  let ⟨o, ho, r⟩ := x; ⟨o, k o ho, r⟩
theorem LocRep.change {W : Wd} {g g' h h' : Heap} {l v} (x : LocRep W g h l v) (kg : Le g g') (k : ∀ a, ownA l v = some a -> (∀ o, h.get? a = some o -> h'.get? a = some o) ∧ (g.get? a = none -> g'.get? a = none)) : LocRep W g' h' l v := by
  cases l with
  | hid => trivial
  | val d => exact RD.le kg x
  | own l =>
    obtain ⟨a, vs, n, rfl, h1, h2, h3⟩ := x
    obtain ⟨k1, k2⟩ := k a rfl
    exact ⟨a, vs, n, rfl, k1 _ h1, RDs.le kg h2, k2 h3⟩
  | acc f l =>
    obtain ⟨a, dx, vs, n, rfl, h1, h2, h3, h4⟩ := x
    obtain ⟨k1, k2⟩ := k a rfl
    exact ⟨a, dx, vs, n, rfl, k1 _ h1, h2.le kg, RDs.le kg h3, k2 h4⟩
theorem Inv.change {W : Wd} {cx : Cx} {S : St} {vals cv : Nat -> Value} {g g' h h' : Heap} (I : Inv W cx S vals cv g h) (kg : Le g g') (kl : Le g' h')
    (kh : ∀ a, Fp cx S vals a -> ∀ o, h.get? a = some o -> h'.get? a = some o) (kn : ∀ a, Fp cx S vals a -> g'.get? a = none) : Inv W cx S vals cv g' h' where
  le := kl
  wok := I.wok.le kg
  esc := I.esc
  nd := I.nd
  dict := (by obtain ⟨md, a, b⟩ := I.dict; exact ⟨md, Heap.Ns.of_get a (kh _ (.inl rfl)), b⟩)
  gl := kn _ (.inl rfl)
  cell := fun i x hx => (by obtain ⟨c, v, h1, h2, h3⟩ := I.cell i x hx; exact ⟨c, v, h1, Heap.IsCell.of_get h2 (kh _ (.inr (.inl ⟨_, h1⟩))), h3⟩)
  gcell := fun x c hx => ⟨kn _ (.inr (.inl ⟨_, hx⟩)), (by obtain ⟨v, h⟩ := (I.gcell x c hx).2; exact ⟨v, Heap.IsCell.of_get h (kh _ (.inr (.inl ⟨_, hx⟩)))⟩)⟩
  cinj := I.cinj
  rep := fun i l hl => (I.rep i l hl).change kg fun a ha => ⟨kh a (.inr (.inr (.inl ⟨i, l, hl, ha⟩))), fun _ => kn a (.inr (.inr (.inl ⟨i, l, hl, ha⟩)))⟩
  sep := I.sep
  cmp := fun cs cl C hc =>
    let ⟨d, a, b, c, e, f, g⟩ := I.cmp cs cl C hc
    ⟨(by obtain ⟨md, p, q⟩ := d; exact ⟨md, Heap.Ns.of_get p (kh _ (.inr (.inr (.inr (.inl ⟨_, _, hc⟩))))), q⟩), kn _ (.inr (.inr (.inr (.inl ⟨_, _, hc⟩)))), b, fun i d h => RD.le kg (c i d h), e, f, g⟩
  mu := ⟨I.mu.1, fun a ha => ⟨kn a (.inr (.inr (.inr (.inr ha)))), (by obtain ⟨o, ws, e, d⟩ := (I.mu.2 a ha).2; exact ⟨o, ws, kh a (.inr (.inr (.inr (.inr ha)))) o e, d⟩)⟩⟩
noncomputable def dk : Data -> Nat
  | .dict .. => 0
  | .cell .. => 1
  | .seq .. => 2
  | .fields .. => 3
  | _ => 4
noncomputable def KAt (h : Heap) (a : Addr) (k : Nat) : Prop := ∃ o, h.get? a = some o ∧ dk o.data = k
theorem KAt.ne {h : Heap} {a b : Addr} {i j : Nat} (x : KAt h a i) (y : KAt h b j) (n : i ≠ j) : a ≠ b := by
  rintro rfl
  obtain ⟨o, e1, e2⟩ := x
  obtain ⟨o', e3, e4⟩ := y
  obtain rfl := Option.some.inj (e1.symm.trans e3)
  exact n (e2.symm.trans e4)
theorem KAt.mk {h : Heap} {a : Addr} {o : Obj} {d : Data} (e : h.get? a = some o) (f : o.data = d) : KAt h a (dk d) := ⟨o, e, congrArg dk f⟩
theorem KAt.ns {h : Heap} {a : Addr} {m} (x : h.Ns a m) : KAt h a 0 := (by obtain ⟨_, _, _, e, f, _⟩ := x; exact .mk e f)
theorem KAt.cell {h : Heap} {a : Addr} {v} (x : h.IsCell a v) : KAt h a 1 := (by obtain ⟨_, e, f⟩ := x; exact .mk e f)
theorem KAt.tab {h : Heap} {a : Addr} (x : Tab h a) : KAt h a 3 := (by obtain ⟨_, _, e, f⟩ := x; exact .mk e f)
theorem KAt.there {h : Heap} {a : Addr} {k : Nat} (x : KAt h a k) : ∃ o, h.get? a = some o := (by obtain ⟨o, e, _⟩ := x; exact ⟨o, e⟩)
theorem LocRep.kO {W : Wd} {g h : Heap} {l : Loc} {v : Value} {a : Addr} (x : LocRep W g h l v) (ha : ownA l v = some a) : KAt h a 2 ∧ g.get? a = none := by
  cases l with
  | hid => exact nomatch (show none = some a from ha)
  | val d => exact nomatch (show none = some a from ha)
  | own l => obtain ⟨b, vs, n, rfl, h1, _, h3⟩ := x; obtain rfl := Option.some.inj ha; exact ⟨.mk h1 rfl, h3⟩
  | acc f l => obtain ⟨b, dx, vs, n, rfl, h1, _, _, h4⟩ := x; obtain rfl := Option.some.inj ha; exact ⟨.mk h1 rfl, h4⟩
section
variable {W : Wd} {cx : Cx} {S : St} {vals cv : Nat -> Value} {g h : Heap} (I : Inv W cx S vals cv g h)
include I
theorem Inv.kL : KAt h cx.env.locals 0 := (by obtain ⟨_, x, _⟩ := I.dict; exact .ns x)
theorem Inv.kC {x : Str} {c : Addr} (hx : cx.env.cells.lookup x = some c) : KAt h c 1 := (by obtain ⟨_, v⟩ := (I.gcell x c hx).2; exact .cell v)
theorem Inv.kO {i : Nat} {l : Loc} {a : Addr} (hl : S.loc[i]? = some (some l)) (ha : ownA l (vals i) = some a) : KAt h a 2 := ((I.rep i l hl).kO ha).1
theorem Inv.kP {cs cl} {C : Addr} (hc : cx.cp = some (cs, cl, C)) : KAt h C 0 := (by obtain ⟨_, x, _⟩ := (I.cmp cs cl C hc).dict; exact .ns x)
theorem Inv.kM {a : Addr} (hm : cx.mt a) : KAt h a 3 := .tab (I.mu.2 a hm).2
theorem Inv.there {a : Addr} (hf : Fp cx S vals a) : (∃ o, h.get? a = some o) ∧ g.get? a = none := by
  rcases hf with rfl | ⟨x, hx⟩ | ⟨i, l, hl, ha⟩ | ⟨cs, cl, hc⟩ | hm
  · exact ⟨I.kL.there, I.gl⟩
  · exact ⟨(I.kC hx).there, (I.gcell x a hx).1⟩
  · exact ⟨(I.kO hl ha).there, ((I.rep i l hl).kO ha).2⟩
  · exact ⟨(I.kP hc).there, (I.cmp cs cl a hc).gC⟩
  · exact ⟨(I.kM hm).there, (I.mu.2 a hm).1⟩
end
theorem Inv.fresh {W : Wd} {cx : Cx} {S : St} {vals cv : Nat -> Value} {g h : Heap} (I : Inv W cx S vals cv g h) {a : Addr} (e : h.get? a = none) : ¬ Fp cx S vals a := fun hf => by
  obtain ⟨⟨o, h⟩, _⟩ := I.there hf; rw [e] at h; cases h
theorem Le.none {h h' : Heap} (k : Le h h') {a : Addr} (e : h'.get? a = none) : h.get? a = none := by
  cases q : h.get? a with
  | none => rfl
  | some o => rw [k _ _ q] at e; cases e
theorem Inv.same {W : Wd} {cx : Cx} {S : St} {vals cv : Nat -> Value} {g : Heap} {s s' : Shared} (I : Inv W cx S vals cv g s.heap) (k : Le s.heap s'.heap)
    (os : s'.os = s.os) (gens : AllBare s.gens -> AllBare s'.gens) : Step (Fp cx S vals) g s (Fp cx S vals) g s' ∧ Inv W cx S vals cv g s'.heap :=
  ⟨⟨Le.refl, fun b o _ e => k b o e, fun _ _ _ _ e => e, fun _ => .inl, fun _ e => k.none e, os, gens⟩, I.change Le.refl (I.le.trans k) (fun a _ o e => k a o e) fun a hf => (I.there hf).2⟩
theorem Inv.toks {W : Wd} {cx : Cx} {S : St} {vals cv : Nat -> Value} {g : Heap} {s : Shared} (I : Inv W cx S vals cv g s.heap) (tk : Nat) :
    Step (Fp cx S vals) g s (Fp cx S vals) g { s with toks := tk } ∧ Inv W cx S vals cv g ({ s with toks := tk } : Shared).heap := I.same Le.refl rfl id
section
variable {W : Wd} {k : Nat} {sc : Scope} {cs : Option Scope}
theorem ev_int {i : Int} {kk : Nat} {pos : Pos} : Ev W k sc cs (.Constant (.int i) kk pos) (fun S => some (.int i, S)) := by
  intro S d S' h A cx vals cv g s Q E R _ _ I K
  cases h
  exact wpAny_Constant_int (K _ _ _ (I.toks _).1 (I.toks _).2 (.int ..))
theorem ev_str {i : Str} {kk : Nat} {pos : Pos} : Ev W k sc cs (.Constant (.str i) kk pos) (fun S => some (.str i, S)) := by
  intro S d S' h A cx vals cv g s Q E R _ _ I K
  cases h
  exact wpAny_Constant_str (K _ _ _ (I.toks _).1 (I.toks _).2 (.str ..))
theorem ev_bool {b : Bool} {kk : Nat} {pos : Pos} : Ev W k sc cs (.Constant (.bool b) kk pos) (fun S => some (.bool b, S)) := by
  intro S d S' h A cx vals cv g s Q E R _ _ I K
  cases h
  exact wpAny_Constant_bool (K _ _ _ Step.refl I (.bool ..))
theorem ev_none {kk : Nat} {pos : Pos} : Ev W k sc cs (.Constant .none kk pos) (fun S => some (.none, S)) := by
  intro S d S' h A cx vals cv g s Q E R _ _ I K
  cases h
  exact wpAny_Constant_none (K _ _ _ Step.refl I .none)
end
inductive NR where
  | loc (i : Nat)
  | cmp (i : Nat)
  | glob
  deriving DecidableEq
noncomputable def find1 (x : Str) : Nat -> List (Str × NameKind) -> Option (Nat × NameKind)
  | _, [] => none
  | n, (y, k) :: r => if x == y then some (n, k) else find1 x (n + 1) r
noncomputable def dbg (x : Str) : Bool := x == ("__debug__" : Str) || x == ("__classdict__" : Str)
noncomputable def resolve (sc : Scope) (cs : Option Scope) (x : Str) : Option NR :=
  if dbg x then none else
  match cs with
  | none => match find1 x 0 sc.names with
    | some (i, .local) => some (.loc i)
    | some (i, .cell) => some (.loc i)
    | some (_, .globalImplicit) => some .glob
    | _ => none
  | some c => match find1 x 0 c.names with
    | some (i, .local) => some (.cmp i)
    | some (_, .free) => (match find1 x 0 sc.names with | some (i, .cell) => some (.loc i) | _ => none)
    | some (_, .globalImplicit) => some .glob
    | _ => none
theorem find1_spec {x : Str} : ∀ {l : List (Str × NameKind)} {n i : Nat} {k : NameKind}, find1 x n l = some (i, k) -> n ≤ i ∧ l[i - n]? = some (x, k) ∧ l.lookup x = some k
  | [], _, _, _, h => by cases h
  | (y, k') :: r, n, i, k, h => by
    unfold find1 at h
    by_cases q : (x == y) = true
    · rw [if_pos q] at h; cases h
      have : x = y := by simpa using q
      subst this
      exact ⟨Nat.le_refl _, by simp, by rw [List.lookup_cons, q]⟩
    · rw [if_neg q] at h
      obtain ⟨h1, h2, h3⟩ := find1_spec h
      refine ⟨Nat.le_of_succ_le h1, ?_, ?_⟩
      · have : i - n = (i - (n + 1)) + 1 := by grind
        rw [this, List.getElem?_cons_succ]; exact h2
      · have q' : (x == y) = false := by simpa using q
        rw [List.lookup_cons, q']; exact h3
theorem resolve_none {sc : Scope} {x : Str} {r : NR} (h : resolve sc none x = some r) : dbg x = false ∧ ∃ i k, find1 x 0 sc.names = some (i, k) ∧ ((r = .loc i ∧ (k = .local ∨ k = .cell)) ∨ (r = .glob ∧ k = .globalImplicit)) := by
  unfold resolve at h
  cases q : dbg x with
  | true => rw [if_pos q] at h; cases h
  | false =>
    rw [if_neg (by rw [q]; exact Bool.false_ne_true)] at h
    refine ⟨rfl, ?_⟩
    dsimp only at h
    cases hf : find1 x 0 sc.names with
    | none => rw [hf] at h; cases h
    | some p =>
      obtain ⟨i, k⟩ := p
      rw [hf] at h
      refine ⟨i, k, rfl, ?_⟩
      cases k <;> first | (cases h; exact .inl ⟨rfl, .inl rfl⟩) | (cases h; exact .inl ⟨rfl, .inr rfl⟩) | (cases h; exact .inr ⟨rfl, rfl⟩) | cases h
theorem resolve_some {sc c : Scope} {x : Str} {r : NR} (h : resolve sc (some c) x = some r) : dbg x = false ∧ ∃ i k, find1 x 0 c.names = some (i, k) ∧ ((r = .cmp i ∧ k = .local) ∨ (k = .free ∧ ∃ j, r = .loc j ∧ find1 x 0 sc.names = some (j, .cell)) ∨ (r = .glob ∧ k = .globalImplicit)) := by
  unfold resolve at h
  cases q : dbg x with
  | true => rw [if_pos q] at h; cases h
  | false =>
    rw [if_neg (by rw [q]; exact Bool.false_ne_true)] at h
    refine ⟨rfl, ?_⟩
    dsimp only at h
    cases hf : find1 x 0 c.names with
    | none => rw [hf] at h; cases h
    | some p =>
      obtain ⟨i, k⟩ := p
      rw [hf] at h
      refine ⟨i, k, rfl, ?_⟩
      cases k <;> first | (cases h; exact .inl ⟨rfl, rfl⟩) | (cases h; exact .inr (.inr ⟨rfl, rfl⟩)) | (cases h; done) | skip
      dsimp only at h
      cases hf' : find1 x 0 sc.names with
      | none => rw [hf'] at h; cases h
      | some p =>
        obtain ⟨j, k⟩ := p
        rw [hf'] at h
        cases k <;> first | (cases h; exact .inr (.inl ⟨rfl, _, rfl, rfl⟩)) | cases h
theorem find1_at {x : Str} {l : List (Str × NameKind)} {i : Nat} {k : NameKind} (h : find1 x 0 l = some (i, k)) : l[i]? = some (x, k) ∧ l.lookup x = some k := ⟨(find1_spec h).2.1, (find1_spec h).2.2⟩
noncomputable def nameF (i : Nat) (S : St) : Option (PyData × St) :=
  match S.loc[i]? with
  | some (some (.val d)) => some (d, S)
  | some (some (.own l)) => some (.list l, { S with loc := S.loc.set i (some (.val (.list l))) })
  | _ => none
noncomputable def cmpF (i : Nat) (S : St) : Option (PyData × St) :=
  match S.cmp[i]? with
  | some (some d) => some (d, S)
  | _ => none
noncomputable def upd (vals : Nat -> Value) (i : Nat) (v : Value) (j : Nat) : Value := if j = i then v else vals j
noncomputable def setL (S : List (Option Loc)) (i : Nat) (l : Loc) : List (Option Loc) := S.set i (some l)
theorem setL_get {S : List (Option Loc)} {i j : Nat} {l l' : Loc} (h : (setL S i l)[j]? = some (some l')) : (i = j ∧ l = l' ∧ i < S.length) ∨ (j ≠ i ∧ S[j]? = some (some l')) := by
  unfold setL at h
  by_cases q : i = j
  · subst q
    rw [List.getElem?_set] at h
    simp only [if_true] at h
    split at h
    · cases h; exact .inl ⟨rfl, rfl, by assumption⟩
    · cases h
  · rw [List.getElem?_set_ne q] at h
    exact .inr ⟨Ne.symm q, h⟩
theorem setL_self {S : List (Option Loc)} {i : Nat} {l l' : Loc} (h : S[i]? = some (some l)) : (setL S i l')[i]? = some (some l') := by
  unfold setL
  rw [List.getElem?_set_self (List.getElem?_eq_some_iff.mp h).1]
theorem setL_setL {S : List (Option Loc)} {i : Nat} {l l' : Loc} : setL (setL S i l) i l' = setL S i l' := List.set_set ..
theorem fp_setL {cx : Cx} {S : List (Option Loc)} {cm cm' : List (Option PyData)} {vals : Nat -> Value} {i : Nat} {l : Loc} {a : Addr} (h : Fp cx ⟨setL S i l, cm⟩ vals a) : Fp cx ⟨S, cm'⟩ vals a ∨ ownA l (vals i) = some a := by
  rcases h with h | h | ⟨j, l', hj, ha⟩ | h
  · exact .inl (.inl h)
  · exact .inl (.inr (.inl h))
  · rcases setL_get hj with ⟨rfl, rfl, _⟩ | ⟨_, hj⟩
    · exact .inr ha
    · exact .inl (.inr (.inr (.inl ⟨j, l', hj, ha⟩)))
  · exact .inl (.inr (.inr (.inr h)))
section
variable {W : Wd} {cx : Cx} {S : St} {vals cv : Nat -> Value} {g h : Heap} (I : Inv W cx S vals cv g h)
include I
theorem Inv.put {i : Nat} {l : Loc} (hd : ∀ x, cx.sc.names[i]? = some (x, .local) -> ∀ md, h.Ns cx.env.locals md -> md x = some (vals i)) (hc : ∀ x, cx.sc.names[i]? = some (x, .cell) -> ∀ c v, cx.env.cells.lookup x = some c -> h.IsCell c v -> v = some (vals i))
    (hl : LocRep W g h l (vals i)) (hs : ∀ b, ownA l (vals i) = some b -> ∀ j li, j ≠ i -> S.loc[j]? = some (some li) -> ownA li (vals j) ≠ some b) : Inv W cx ⟨setL S.loc i l, S.cmp⟩ vals cv g h where
  le := I.le
  wok := I.wok
  esc := I.esc
  nd := I.nd
  dict := (by obtain ⟨md, hm, h2⟩ := I.dict; exact ⟨md, hm, fun j x lj hx hj => (setL_get hj).elim (fun q => hd x (by rw [q.1]; exact hx) md hm |>.trans (by rw [q.1])) fun q => h2 j x lj hx q.2⟩)
  gl := I.gl
  cell := fun j x hx => (by obtain ⟨c, v, c1, c2, c3⟩ := I.cell j x hx; exact ⟨c, v, c1, c2, fun lj hj => (setL_get hj).elim (fun q => hc x (by rw [q.1]; exact hx) c v c1 c2 |>.trans (by rw [q.1])) fun q => c3 lj q.2⟩)
  gcell := I.gcell
  cinj := I.cinj
  rep := fun j lj hj => (setL_get hj).elim (fun q => q.1 ▸ q.2.1 ▸ hl) fun q => I.rep j lj q.2
  sep := fun j k lj lk b hj hk a1 a2 => (setL_get hj).elim (fun q => (setL_get hk).elim (fun q' => q.1.symm.trans q'.1) fun q' => absurd a2 (hs b (by rw [q.1, q.2.1]; exact a1) k lk q'.1 q'.2))
    fun q => (setL_get hk).elim (fun q' => absurd a1 (hs b (by rw [q'.1, q'.2.1]; exact a2) j lj q.1 q.2)) fun q' => I.sep j k lj lk b q.2 q'.2 a1 a2
  cmp := fun cs cl C hc => (by obtain ⟨a, b, c, d, e, f, g⟩ := I.cmp cs cl C hc; exact ⟨a, b, c, d, e, f, g⟩)
  mu := I.mu
theorem Inv.dict_at {i : Nat} {x : Str} {l : Loc} (hx : cx.sc.names[i]? = some (x, .local)) (hi : S.loc[i]? = some (some l)) {md : Str -> Option Value} (hm : h.Ns cx.env.locals md) : md x = some (vals i) := by
  obtain ⟨m, h1, h2⟩ := I.dict
  rw [(Heap.Ns.eq_nsMap hm).trans (Heap.Ns.eq_nsMap h1).symm]
  exact h2 i x l hx hi
theorem Inv.cell_at {i : Nat} {x : Str} {l : Loc} (hx : cx.sc.names[i]? = some (x, .cell)) (hi : S.loc[i]? = some (some l)) {c : Addr} {v : Option Value} (h1 : cx.env.cells.lookup x = some c) (h2 : h.IsCell c v) : v = some (vals i) := by
  obtain ⟨c', v', a1, ⟨o, e, f⟩, a3⟩ := I.cell i x hx
  obtain rfl := Option.some.inj (a1.symm.trans h1)
  obtain ⟨o', e', f'⟩ := h2
  obtain rfl := Option.some.inj (e.symm.trans e')
  rw [<- a3 l hi]
  exact Data.cell.inj (f'.symm.trans f)
theorem Inv.slot {i : Nat} {l₀ l : Loc} (hi : S.loc[i]? = some (some l₀)) (hl : LocRep W g h l (vals i)) (hs : ∀ b, ownA l (vals i) = some b -> ∀ j li, j ≠ i -> S.loc[j]? = some (some li) -> ownA li (vals j) ≠ some b) : Inv W cx ⟨setL S.loc i l, S.cmp⟩ vals cv g h :=
  I.put (fun _ hx _ hm => I.dict_at hx hi hm) (fun _ hx _ _ h1 h2 => I.cell_at hx hi h1 h2) hl hs
theorem Inv.hid {i : Nat} {l₀ : Loc} (hi : S.loc[i]? = some (some l₀)) : Inv W cx ⟨setL S.loc i .hid, S.cmp⟩ vals cv g h := I.slot hi trivial fun b q => nomatch (show none = some b from q)
theorem Inv.hid_out {i : Nat} {l : Loc} {a : Addr} (hi : S.loc[i]? = some (some l)) (ha : ownA l (vals i) = some a) : ¬ Fp cx ⟨setL S.loc i .hid, S.cmp⟩ vals a := by
  have k := I.kO hi ha
  rintro (q | ⟨x, q⟩ | ⟨j, lj, hj, hb⟩ | ⟨c1, c2, q⟩ | q)
  · exact k.ne I.kL (by decide) q
  · exact k.ne (I.kC q) (by decide) rfl
  · rcases setL_get hj with ⟨_, q, _⟩ | ⟨hne, hj⟩
    · rw [<- q] at hb; exact nomatch (show none = some a from hb)
    · exact hne (I.sep j i lj l a hj hi hb ha)
  · exact k.ne (I.kP q) (by decide) rfl
  · exact k.ne (I.kM q) (by decide) rfl
theorem Inv.sub_slot {i : Nat} {l l' : Loc} {a b : Addr} (hi : S.loc[i]? = some (some l)) (ha : ownA l (vals i) = some a) (ha' : ∀ c, ownA l' (vals i) = some c -> c = a) {cm : List (Option PyData)} (h : Fp cx ⟨setL S.loc i l', cm⟩ vals b) : Fp cx S vals b :=
  (fp_setL (cm' := S.cmp) h).elim id fun q => .inr (.inr (.inl ⟨i, l, hi, by rw [ha, ha' b q]⟩))
end
theorem Inv.freeze {W : Wd} {cx : Cx} {S : St} {vals cv : Nat -> Value} {g : Heap} {s : Shared} (I : Inv W cx S vals cv g s.heap) {i : Nat} {l : List PyData} (hi : S.loc[i]? = some (some (.own l))) :
    ∃ g', Step (Fp cx S vals) g s (Fp cx { S with loc := S.loc.set i (some (.val (.list l))) } vals) g' s ∧ Inv W cx { S with loc := S.loc.set i (some (.val (.list l))) } vals cv g' s.heap ∧ RD g' (vals i) (.list l) := by
  obtain ⟨a, vs, n, hv, ha, hr, hn⟩ := I.rep i _ hi
  have hoa : ownA (.own l) (vals i) = some a := by rw [hv]; rfl
  have hna := I.hid_out hi hoa
  have I₁ := I.hid hi
  have gle : Le g (addH g s.heap (· = a)) := le_addH I.le
  have I₂ := I₁.change gle addH_le (fun a _ o e => e) fun b hb => addH_none (I₁.there hb).2 fun q => hna (q ▸ hb)
  have hRD : RD (addH g s.heap (· = a)) (vals i) (.list l) := by rw [hv]; exact RD.list (addH_get.mpr ⟨.inr rfl, ha⟩) (RDs.le gle hr)
  have no : ∀ b, ownA (.val (.list l)) (vals i) ≠ some b := fun b q => nomatch (show none = some b from q)
  have I₃ := I₂.slot (l := .val (.list l)) (setL_self hi) hRD fun b q => absurd q (no b)
  rw [setL_setL] at I₃
  exact ⟨_, ⟨gle, fun b o _ e => e, fun b o hb hf e => addH_none e fun q => hf (q ▸ .inr (.inr (.inl ⟨i, _, hi, hoa⟩))), fun b hb => .inl (I.sub_slot hi hoa (fun b q => absurd q (no b)) hb), fun _ e => e, rfl, id⟩, I₃, hRD⟩
theorem kind_relabel_cell {env : Env} (hk : env.scope.kind = .function) : ∀ {names : List (Str × NameKind)} {x : Str}, names.lookup x = some .free -> env.kindOf x = some .cell ->
    (names.map fun (n, k) => if (k == NameKind.free && env.scope.kind == .function && env.kindOf n == some .cell) then (n, NameKind.cell) else (n, k)).lookup x = some .cell
  | [], _, h, _ => by simp at h
  | (n, k) :: r, x, h, e => by
    have ih := fun h => @kind_relabel_cell env hk r x h e
    show List.lookup x ((if (k == NameKind.free && env.scope.kind == .function && env.kindOf n == some .cell) = true then (n, NameKind.cell) else (n, k)) :: _) = _
    cases hx : x == n with
    | true =>
      simp only [List.lookup_cons, hx] at h
      cases h
      have : x = n := by simpa using hx
      subst this
      rw [if_pos (by simp [hk, e])]
      simp [List.lookup_cons]
    | false =>
      simp only [List.lookup_cons, hx] at h
      by_cases hc : (k == NameKind.free && env.scope.kind == .function && env.kindOf n == some .cell) = true
      · rw [if_pos hc]; simp only [List.lookup_cons, hx]; exact ih h
      · rw [if_neg hc]; simp only [List.lookup_cons, hx]; exact ih h
theorem kind_relabel_glob {env : Env} : ∀ {names : List (Str × NameKind)} {x : Str}, names.lookup x = some .globalImplicit ->
    (names.map fun (n, k) => if (k == NameKind.free && env.scope.kind == .function && env.kindOf n == some .cell) then (n, NameKind.cell) else (n, k)).lookup x = some .globalImplicit
  | [], _, h => by simp at h
  | (n, k) :: r, x, h => by
    have ih := fun h => @kind_relabel_glob env r x h
    show List.lookup x ((if (k == NameKind.free && env.scope.kind == .function && env.kindOf n == some .cell) = true then (n, NameKind.cell) else (n, k)) :: _) = _
    cases hx : x == n with
    | true =>
      simp only [List.lookup_cons, hx] at h
      cases h
      rw [if_neg (by simp)]
      simp [List.lookup_cons, hx]
    | false =>
      simp only [List.lookup_cons, hx] at h
      by_cases hc : (k == NameKind.free && env.scope.kind == .function && env.kindOf n == some .cell) = true
      · rw [if_pos hc]; simp only [List.lookup_cons, hx]; exact ih h
      · rw [if_neg hc]; simp only [List.lookup_cons, hx]; exact ih h
theorem Inv.load {W : Wd} {cx : Cx} {S : St} {vals cv : Nat -> Value} {g : Heap} {s : Shared} {A : Around} {E : Value -> Shared -> Prop} {Q : Value -> Shared -> Prop} (I : Inv W cx S vals cv g s.heap) {i : Nat} {x : Str} {l : Loc}
    (hr : resolve cx.sc cx.cs x = some (.loc i)) (hi : S.loc[i]? = some (some l)) (h : Q (vals i) s) : wpAny W.M A (loadName cx.ev x) Q E s := by
  obtain ⟨sc, env, cp, mu⟩ := cx
  obtain ⟨e1, e2, _⟩ := I.esc
  have kd : ∀ {k}, sc.names.lookup x = some k -> env.kindOf x = some k := fun h => by unfold Env.kindOf; rw [e1]; exact h
  cases cp with
  | none =>
    obtain ⟨_, j, k, hf, q⟩ := resolve_none hr
    obtain ⟨h2, h3⟩ := find1_at hf
    rcases q with ⟨q, hk⟩ | ⟨q, _⟩
    · obtain rfl := NR.loc.inj q
      rcases hk with rfl | rfl
      · obtain ⟨md, hm, hmd⟩ := I.dict
        exact wpAny_loadName_local (e1 ▸ e2) (kd h3) hm (hmd i x l h2 hi) h
      · obtain ⟨c, v₀, hc, hv, he⟩ := I.cell i x h2
        exact wpAny_loadName_cell (e1 ▸ e2) (kd h3) hc (he l hi ▸ hv) h
    · cases q
  | some p =>
    obtain ⟨cs, cl, C⟩ := p
    obtain ⟨_, j, k, hf, q⟩ := resolve_some hr
    have Y := I.cmp cs cl C rfl
    rcases q with ⟨q, _⟩ | ⟨rfl, j', q, hf'⟩ | ⟨q, _⟩
    · cases q
    · obtain rfl := NR.loc.inj q
      obtain ⟨c, v₀, hc, hv, he⟩ := I.cell i x (find1_at hf').1
      exact wpAny_loadName_cell (env := compEnvC cs cl C env) (c := c) Y.k (kind_relabel_cell (env := env) (e1 ▸ e2) (find1_at hf).2 (kd (find1_at hf').2)) ((Y.cl x (find1_at hf).2).trans hc) (he l hi ▸ hv) h
    · cases q
theorem Inv.loadCmp {W : Wd} {cx : Cx} {S : St} {vals cv : Nat -> Value} {g : Heap} {s : Shared} {A : Around} {E : Value -> Shared -> Prop} {Q : Value -> Shared -> Prop} (I : Inv W cx S vals cv g s.heap) {i : Nat} {x : Str} {d : PyData}
    (hr : resolve cx.sc cx.cs x = some (.cmp i)) (hi : S.cmp[i]? = some (some d)) (h : RD g (cv i) d -> Q (cv i) s) : wpAny W.M A (loadName cx.ev x) Q E s := by
  obtain ⟨sc, env, cp, mu⟩ := cx
  cases cp with
  | none =>
    obtain ⟨_, j, k, hf, q⟩ := resolve_none hr
    rcases q with ⟨q, _⟩ | ⟨q, _⟩ <;> cases q
  | some p =>
    obtain ⟨cs, cl, C⟩ := p
    obtain ⟨_, j, k, hf, q⟩ := resolve_some hr
    have Y := I.cmp cs cl C rfl
    rcases q with ⟨q, rfl⟩ | ⟨_, j', q, _⟩ | ⟨q, _⟩
    · obtain rfl := NR.cmp.inj q
      obtain ⟨md, hm, hmd⟩ := Y.dict
      exact wpAny_loadName_local (env := compEnvC cs cl C env) (m := md) Y.k (lookup_relabel_local (env := env) (find1_at hf).2) hm (hmd i x d (find1_at hf).1 hi) (h (Y.rep i d hi))
    · cases q
    · cases q
theorem dbg_not {x : Str} (h : dbg x = false) : (x == ("__debug__" : Str)) = false := (Bool.or_eq_false_iff.mp h).1
theorem Inv.loadGlob {W : Wd} {cx : Cx} {S : St} {vals cv : Nat -> Value} {g : Heap} {s : Shared} {A : Around} {E : Value -> Shared -> Prop} {Q : Value -> Shared -> Prop} (I : Inv W cx S vals cv g s.heap) {x : Str} {pos : Pos} {v : Value}
    (hr : resolve cx.sc cx.cs x = some .glob) (hv : (x, v) ∈ W.globs) (h : Q v s) : wpAny W.M A (eval (.Name x pos) cx.ev) Q E s := by
  obtain ⟨sc, env, cp, mu⟩ := cx
  obtain ⟨e1, e2, e3, e4⟩ := I.esc
  have ld : ∀ e : Env, e.globals = mainGlobals -> e.builtins = builtinsNs -> wpAny W.M A (loadGlobal e x) Q E s := fun e e1 e2 => by
    obtain ⟨mg, mb, h1, h2, h3⟩ := I.wok.gl
    rcases h3 _ hv with q | ⟨q, r⟩
    · exact loadGlobal_global (by rw [e1]; exact h1.keeps I.le) q h
    · exact loadGlobal_builtin (by rw [e1]; exact h1.keeps I.le) q (by rw [e2]; exact h2.keeps I.le) r h
  cases cp with
  | none =>
    obtain ⟨hd, j, k, hf, q⟩ := resolve_none hr
    rcases q with ⟨q, _⟩ | ⟨_, rfl⟩
    · cases q
    · exact Name_function_global (env := env) (e1 ▸ e2) (by unfold Env.kindOf; rw [e1]; exact (find1_at hf).2) (ld env e3 e4) (dbg_not hd)
  | some p =>
    obtain ⟨cs, cl, C⟩ := p
    obtain ⟨hd, j, k, hf, q⟩ := resolve_some hr
    rcases q with ⟨q, _⟩ | ⟨_, j', q, _⟩ | ⟨_, rfl⟩
    · cases q
    · cases q
    · exact Name_function_global (env := compEnvC cs cl C env) (I.cmp cs cl C rfl).k (kind_relabel_glob (env := env) (find1_at hf).2) (ld _ e3 e4) (dbg_not hd)
theorem resolve_debug {sc cs x r} (h : resolve sc cs x = some r) : (x == ("__debug__" : Str)) = false := by
  cases cs with
  | none => exact dbg_not (resolve_none h).1
  | some c => exact dbg_not (resolve_some h).1
section
variable {W : Wd} {k : Nat} {sc : Scope} {cs : Option Scope}
theorem ev_name {x : Str} {pos : Pos} {i : Nat} (hr : resolve sc cs x = some (.loc i)) : Ev W k sc cs (.Name x pos) (nameF i) := by
  intro S d S' h A cx vals cv g s Q E R e1 e2 I K
  subst e1 e2
  refine wpAny_Name ?_ (resolve_debug hr)
  unfold nameF at h
  split at h
  · rename_i hi
    cases h
    exact I.load hr hi (K _ _ _ Step.refl I (I.rep i _ hi))
  · rename_i l hi
    cases h
    obtain ⟨g', st, I', r⟩ := I.freeze hi
    exact I.load hr hi (K _ _ _ st I' r)
  · cases h
theorem ev_cmp {x : Str} {pos : Pos} {i : Nat} (hr : resolve sc cs x = some (.cmp i)) : Ev W k sc cs (.Name x pos) (cmpF i) := by
  intro S d S' h A cx vals cv g s Q E R e1 e2 I K
  subst e1 e2
  refine wpAny_Name ?_ (resolve_debug hr)
  unfold cmpF at h
  split at h
  · rename_i hi
    cases h
    exact I.loadCmp hr hi fun r => K _ _ _ Step.refl I r
  · cases h
end
structure Grow (g : Heap) (s : Shared) (g' : Heap) (s' : Shared) : Prop where
  le : Le s.heap s'.heap
  os : s'.os = s.os
  gens : AllBare s.gens -> AllBare s'.gens
  gg : Le g g'
  gl : Le g' s'.heap
  gn : ∀ a o, s.heap.get? a = some o -> g.get? a = none -> g'.get? a = none
theorem Grow.tok {g : Heap} {s : Shared} (k : Le g s.heap) (tk : Nat) : Grow g s g { s with toks := tk } := ⟨Le.refl, rfl, id, Le.refl, k, fun _ _ _ e => e⟩
theorem Grow.refl {g : Heap} {s : Shared} (k : Le g s.heap) : Grow g s g s := Grow.tok k _
theorem Grow.heap {g : Heap} {s s' : Shared} (k : Le g s.heap) (h : Le s.heap s'.heap) (os : s'.os = s.os) (gens : AllBare s.gens -> AllBare s'.gens) : Grow g s g s' :=
  ⟨h, os, gens, Le.refl, k.trans h, fun _ _ _ e => e⟩
theorem not_new {h : Heap} {p : Addr -> Prop} (hp : ∀ a, p a -> h.get? a = none) {a : Addr} {o : Obj} (e : h.get? a = some o) : ¬ p a := fun q => by rw [hp a q] at e; cases e
theorem Grow.add {g : Heap} {s s' : Shared} (p : Addr -> Prop) (hp : ∀ a, p a -> s.heap.get? a = none) (k : Le g s.heap) (h : Le s.heap s'.heap) (os : s'.os = s.os) (gens : AllBare s.gens -> AllBare s'.gens) :
    Grow g s (addH g s'.heap p) s' :=
  ⟨h, os, gens, le_addH (k.trans h), addH_le, fun a o ha e => addH_none e (not_new hp ha)⟩
theorem Grow.trans {g₁ g₂ g₃ : Heap} {s₁ s₂ s₃ : Shared} (x : Grow g₁ s₁ g₂ s₂) (y : Grow g₂ s₂ g₃ s₃) : Grow g₁ s₁ g₃ s₃ :=
  ⟨x.le.trans y.le, y.os.trans x.os, y.gens ∘ x.gens, x.gg.trans y.gg, y.gl, fun a o ha e => y.gn a o (x.le _ _ ha) (x.gn a o ha e)⟩
theorem Inv.grown {W : Wd} {cx : Cx} {S : St} {vals cv : Nat -> Value} {g g' : Heap} {s s' : Shared} (I : Inv W cx S vals cv g s.heap) (G : Grow g s g' s') :
    Step (Fp cx S vals) g s (Fp cx S vals) g' s' ∧ Inv W cx S vals cv g' s'.heap :=
  ⟨⟨G.gg, fun b o _ e => G.le b o e, fun a o ha _ e => G.gn a o ha e, fun _ => .inl, fun _ e => G.le.none e, G.os, G.gens⟩,
   I.change G.gg G.gl (fun a _ o e => G.le a o e) fun a hf => by obtain ⟨⟨o, e⟩, n⟩ := I.there hf; exact G.gn a o e n⟩
noncomputable def Op2 (W : Wd) (t : Value -> Value -> Sem Value) (o : PyData -> PyData -> Option PyData) : Prop :=
  ∀ a b d, o a b = some d -> ∀ (A : Around) g s va vb (Q : Value -> Shared -> Prop) (E : Value -> Shared -> Prop), Room A 0 -> WOK W g -> Le g s.heap -> RD g va a -> RD g vb b -> (∀ v g' s', Grow g s g' s' -> RD g' v d -> Q v s') -> wpAny W.M A (t va vb) Q E s
theorem Room.zero {A : Around} {k : Nat} (R : Room A k) : Room A 0 := ⟨R.h, by have := R.d; lia, by have := R.u; lia, R.f⟩
theorem Room.units {A : Around} {k : Nat} (R : Room A k) : A.units + 64 < cLine := by have := R.u; unfold cLine; lia
noncomputable def addD : PyData -> PyData -> Option PyData
  | .int a, .int b => some (.int (a + b))
  | .str x, .str y => if x.length + y.length ≤ sizeLine then some (.str (x ++ y)) else none
  | _, _ => none
noncomputable def subD : PyData -> PyData -> Option PyData
  | .int a, .int b => some (.int (a - b))
  | .bool a, .bool b => some (.int (b2i a - b2i b))
  | _, _ => none
noncomputable def mulD : PyData -> PyData -> Option PyData
  | .int a, .int b => if -(2 ^ 60) < b ∧ b < 2 ^ 60 then some (.int (a * b)) else none
  | .str x, .int n => if x.length ≤ 16 ∧ 0 ≤ n ∧ n ≤ 1000000 then some (.str ⟨(List.replicate n.toNat x.cps.toList).flatten.toArray⟩) else none
  | _, _ => none
noncomputable def modD : PyData -> PyData -> Option PyData
  | .int a, .int b => if b ≠ 0 then some (.int (a.fmod b)) else none
  | _, _ => none
noncomputable def fdivD : PyData -> PyData -> Option PyData
  | .int a, .int b => if b ≠ 0 ∧ b.natAbs < 1073741824 then some (.int (a.fdiv b)) else none
  | _, _ => none
noncomputable def powD : PyData -> PyData -> Option PyData
  | .int a, .int n => if 0 ≤ n ∧ n ≤ 1000000 ∧ a.natAbs < 2 ^ 64 then some (.int (a ^ n.toNat)) else none
  | _, _ => none
theorem foldl_append_flat {α : Type} : ∀ (l : List (Array α)) (a : Array α), (l.foldl (· ++ ·) a) = (a.toList ++ (l.map Array.toList).flatten).toArray
  | [], a => by simp
  | x :: l, a => by rw [List.foldl_cons, foldl_append_flat l]; simp
theorem txt_mul {x : Str} {n : Int} (h0 : 0 ≤ n) : Txt.mul x n = ⟨(List.replicate n.toNat x.cps.toList).flatten.toArray⟩ := by
  unfold Txt.mul
  by_cases h1 : n < 1
  · have : n = 0 := by lia
    subst this; simp [Str.empty]
  rw [if_neg h1]
  by_cases h2 : (n == 1 || x.length == 0) = true
  · rw [if_pos h2]
    simp only [Bool.or_eq_true, beq_iff_eq] at h2
    rcases h2 with h2 | h2
    · subst h2; simp
    · have : x.cps = #[] := Array.eq_empty_of_size_eq_zero h2
      obtain ⟨c⟩ := x
      simp only at this; subst this
      simp
  · rw [if_neg h2, foldl_append_flat]; simp
section
variable {W : Wd}
theorem op2_add : Op2 W (binaryOp .Add) addD := by
  intro a b d h A g s va vb Q E R ok le ra rb K
  unfold addD at h
  split at h
  · cases h; obtain ⟨t, rfl⟩ := ra.of_int; obtain ⟨u, rfl⟩ := rb.of_int
    exact PyProof.Rows.add_int (K _ _ _ (Grow.tok le _) (.int ..))
  · split at h
    · rename_i hz; cases h; obtain ⟨t, rfl⟩ := ra.of_str; obtain ⟨u, rfl⟩ := rb.of_str
      exact PyProof.Rows.add_str (fun t' tk => K _ _ _ (Grow.tok le _) (.str ..)) hz
    · cases h
  · cases h
theorem op2_sub : Op2 W (binaryOp .Sub) subD := by
  intro a b d h A g s va vb Q E R ok le ra rb K
  unfold subD at h
  split at h
  · cases h; obtain ⟨t, rfl⟩ := ra.of_int; obtain ⟨u, rfl⟩ := rb.of_int
    exact PyProof.Rows.sub_int (K _ _ _ (Grow.tok le _) (.int ..))
  · cases h; rw [ra.of_bool, rb.of_bool]
    exact sub_bool (K _ _ _ (Grow.tok le _) (.int ..))
  · cases h
theorem op2_mul : Op2 W (binaryOp .Mult) mulD := by
  intro a b d h A g s va vb Q E R ok le ra rb K
  unfold mulD at h
  split at h
  · split at h
    · rename_i hz; cases h; obtain ⟨t, rfl⟩ := ra.of_int; obtain ⟨u, rfl⟩ := rb.of_int
      exact PyProof.Rows.mul_int (K _ _ _ (Grow.tok le _) (.int ..)) (IntMulOk.of_right (PySem.intBits_le_64 (by omega) (by omega)))
    · cases h
  · split at h
    · rename_i x n hz; cases h; obtain ⟨t, rfl⟩ := ra.of_str; obtain ⟨u, rfl⟩ := rb.of_int
      refine SB.mul (mulOk_of 16 1000000 hz.1 (by omega) (by omega) (by omega) (by omega)) fun t' tk => ?_
      rw [txt_mul hz.2.1]
      exact K _ _ _ (Grow.tok le _) (.str ..)
    · cases h
  · cases h
theorem op2_mod : Op2 W (binaryOp .Mod) modD := by
  intro a b d h A g s va vb Q E R ok le ra rb K
  unfold modD at h
  split at h
  · split at h
    · rename_i hz; cases h; obtain ⟨t, rfl⟩ := ra.of_int; obtain ⟨u, rfl⟩ := rb.of_int
      exact PyProof.Rows.mod_int hz (K _ _ _ (Grow.tok le _) (.int ..))
    · cases h
  · cases h
theorem op2_fdiv : Op2 W (binaryOp .FloorDiv) fdivD := by
  intro a b d h A g s va vb Q E R ok le ra rb K
  unfold fdivD at h
  split at h
  · split at h
    · rename_i hz; cases h; obtain ⟨t, rfl⟩ := ra.of_int; obtain ⟨u, rfl⟩ := rb.of_int
      exact PyProof.Rows.floordiv_int hz.1 (K _ _ _ (Grow.tok le _) (.int ..)) (.inl (PyProof.noPylong_small hz.2))
    · cases h
  · cases h
theorem op2_pow : Op2 W (binaryOp .Pow) powD := by
  intro a b d h A g s va vb Q E R ok le ra rb K
  unfold powD at h
  split at h
  · split at h
    · rename_i hz; cases h; obtain ⟨t, rfl⟩ := ra.of_int; obtain ⟨u, rfl⟩ := rb.of_int
      exact PyProof.Rows.pow_int_small hz.1 hz.2.1 hz.2.2 (K _ _ _ (Grow.tok le _) (.int ..))
    · cases h
  · cases h
noncomputable def eqD (a b : PyData) : Option PyData := if PySem.SeqAt.shaped a && PySem.SeqAt.shaped b then some (.bool (PyData.eqv a b)) else none
noncomputable def neD (a b : PyData) : Option PyData := if PySem.SeqAt.shaped a && PySem.SeqAt.shaped b then some (.bool (!PyData.eqv a b)) else none
noncomputable def ltD : PyData -> PyData -> Option PyData
  | .int a, .int b => some (.bool (decide (a < b)))
  | .str x, .str y => some (.bool (decide (x.cps.toList < y.cps.toList)))
  | _, _ => none
noncomputable def gtD : PyData -> PyData -> Option PyData
  | .int a, .int b => some (.bool (decide (b < a)))
  | .str x, .str y => some (.bool (decide (y.cps.toList < x.cps.toList)))
  | _, _ => none
noncomputable def geD : PyData -> PyData -> Option PyData
  | .int a, .int b => some (.bool (decide (b ≤ a)))
  | _, _ => none
noncomputable def isNotD : PyData -> PyData -> Option PyData
  | .bool a, .bool b => some (.bool (a != b))
  | _, _ => none
noncomputable def isStrs : List PyData -> Option (List Str)
  | [] => some []
  | .str x :: r => (isStrs r).map (x :: ·)
  | _ => none
noncomputable def inD : PyData -> PyData -> Option PyData
  | .str x, .list l => (isStrs l).map fun xs => .bool (xs.any (· == x))
  | .str y, .str x => some (.bool (!(Builtin.Str.occurrences x y 0 x.length 1).isEmpty))
  | _, _ => none
noncomputable def notInD : PyData -> PyData -> Option PyData
  | .str x, .list l => (isStrs l).map fun xs => .bool (!xs.any (· == x))
  | _, _ => none
theorem op2_eq : Op2 W (compareOp .Eq) eqD := by
  intro a b d h A g s va vb Q E R ok le ra rb K
  unfold eqD at h
  split at h
  · rename_i hz; cases h
    simp only [Bool.and_eq_true] at hz
    obtain ⟨_, ra'⟩ := (RD.le le ra).reads; obtain ⟨_, rb'⟩ := (RD.le le rb).reads
    exact PyProof.Rows.eq_dataH ra' rb' hz.1 hz.2 R.units (K _ _ _ (Grow.refl le) (.bool ..))
  · cases h
theorem op2_ne : Op2 W (compareOp .NotEq) neD := by
  intro a b d h A g s va vb Q E R ok le ra rb K
  unfold neD at h
  split at h
  · rename_i hz; cases h
    simp only [Bool.and_eq_true] at hz
    obtain ⟨_, ra'⟩ := (RD.le le ra).reads; obtain ⟨_, rb'⟩ := (RD.le le rb).reads
    exact PyProof.Rows.ne_dataH ra' rb' hz.1 hz.2 R.units (K _ _ _ (Grow.refl le) (.bool ..))
  · cases h
theorem op2_lt : Op2 W (compareOp .Lt) ltD := by
  intro a b d h A g s va vb Q E R ok le ra rb K
  unfold ltD at h
  split at h
  · cases h; obtain ⟨t, rfl⟩ := ra.of_int; obtain ⟨u, rfl⟩ := rb.of_int
    exact PyProof.Rows.lt_int (K _ _ _ (Grow.refl le) (.bool ..))
  · cases h; obtain ⟨t, rfl⟩ := ra.of_str; obtain ⟨u, rfl⟩ := rb.of_str
    exact PyProof.Rows.lt_str (K _ _ _ (Grow.refl le) (.bool ..))
  · cases h
theorem op2_gt : Op2 W (compareOp .Gt) gtD := by
  intro a b d h A g s va vb Q E R ok le ra rb K
  unfold gtD at h
  split at h
  · cases h; obtain ⟨t, rfl⟩ := ra.of_int; obtain ⟨u, rfl⟩ := rb.of_int
    exact PyProof.Rows.gt_int (K _ _ _ (Grow.refl le) (.bool ..))
  · cases h; obtain ⟨t, rfl⟩ := ra.of_str; obtain ⟨u, rfl⟩ := rb.of_str
    exact PySem.P.gt_str (K _ _ _ (Grow.refl le) (.bool ..))
  · cases h
theorem op2_ge : Op2 W (compareOp .GtE) geD := by
  intro a b d h A g s va vb Q E R ok le ra rb K
  unfold geD at h
  split at h
  · cases h; obtain ⟨t, rfl⟩ := ra.of_int; obtain ⟨u, rfl⟩ := rb.of_int
    exact PyProof.Rows.ge_int (K _ _ _ (Grow.refl le) (.bool ..))
  · cases h
theorem op2_isNot : Op2 W (compareOp .IsNot) isNotD := by
  intro a b d h A g s va vb Q E R ok le ra rb K
  unfold isNotD at h
  split at h
  · rename_i p q; cases h; rw [ra.of_bool, rb.of_bool]
    refine wpAny_isNot_plain rfl ?_
    have : (!((Value.bool p) == (Value.bool q))) = (p != q) := by cases p <;> cases q <;> rfl
    rw [this]
    exact K _ _ _ (Grow.refl le) (.bool ..)
  · cases h
theorem strs_vals {g : Heap} : ∀ {l : List PyData} {xs : List Str} {vs : List Value}, isStrs l = some xs -> RDs g vs l -> ∃ ts : List Tok, vs = List.zipWith Value.str xs ts ∧ ts.length = xs.length
  | [], xs, vs, h, r => by cases h; rw [r.nil_iff]; exact ⟨[], rfl, rfl⟩
  | .str x :: l, xs, vs, h, r => by
    simp only [isStrs, Option.map_eq_some_iff] at h
    obtain ⟨ys, hy, rfl⟩ := h
    cases vs with
    | nil => have := r.len; simp at this
    | cons v vs =>
      obtain ⟨t, rfl⟩ := r.uncons.1.of_str
      obtain ⟨ts, rfl, ht⟩ := strs_vals hy r.uncons.2
      exact ⟨t :: ts, rfl, by simp [ht]⟩
noncomputable def strEq (x : Str) : Value -> Bool
  | .str y _ => y == x
  | _ => false
theorem any_strEq (x : Str) : ∀ (xs : List Str) (ts : List Tok), ts.length = xs.length -> (List.zipWith Value.str xs ts).any (strEq x) = xs.any (· == x)
  | [], _, _ => by simp
  | y :: xs, [], h => by simp at h
  | y :: xs, t :: ts, h => by simp only [List.zipWith_cons_cons, List.any_cons, strEq]; rw [any_strEq x xs ts (by simpa using h)]
theorem op2_in : Op2 W (compareOp .In) inD := by
  intro a b d h A g s va vb Q E R ok le ra rb K
  unfold inD at h
  split at h
  · rename_i x l
    simp only [Option.map_eq_some_iff] at h
    obtain ⟨xs, hx, rfl⟩ := h
    obtain ⟨t, rfl⟩ := ra.of_str
    obtain ⟨c, vs, n, rfl, h1, h4⟩ := rb.of_list
    obtain ⟨ts, e, ht⟩ := strs_vals hx h4
    refine PySem.SeqInW.in_listW (strEq x) (fun y hy => ?_) (isList_of (le _ _ h1)) ?_
    · rw [<- Array.mem_toList_iff, e] at hy
      obtain ⟨i, hi, rfl⟩ := List.getElem_of_mem hy
      simp only [List.getElem_zipWith, strEq]
      exact eqGives_str _ _ _ _
    · rw [<- Array.any_toList, e, any_strEq x xs ts ht]
      exact K _ _ _ (Grow.refl le) (.bool ..)
  · cases h; obtain ⟨t, rfl⟩ := ra.of_str; obtain ⟨u, rfl⟩ := rb.of_str
    exact in_str (K _ _ _ (Grow.refl le) (.bool ..))
  · cases h
theorem op2_notIn : Op2 W (compareOp .NotIn) notInD := by
  intro a b d h A g s va vb Q E R ok le ra rb K
  unfold notInD at h
  split at h
  · rename_i x l
    simp only [Option.map_eq_some_iff] at h
    obtain ⟨xs, hx, rfl⟩ := h
    obtain ⟨t, rfl⟩ := ra.of_str
    obtain ⟨c, vs, n, rfl, h1, h4⟩ := rb.of_list
    obtain ⟨ts, e, ht⟩ := strs_vals hx h4
    refine PySem.SeqInW.notIn_listW (strEq x) (fun y hy => ?_) (isList_of (le _ _ h1)) ?_
    · rw [<- Array.mem_toList_iff, e] at hy
      obtain ⟨i, hi, rfl⟩ := List.getElem_of_mem hy
      simp only [List.getElem_zipWith, strEq]
      exact eqGives_str _ _ _ _
    · rw [<- Array.any_toList, e, any_strEq x xs ts ht]
      exact K _ _ _ (Grow.refl le) (.bool ..)
  · cases h
end
noncomputable def bin2 (o : PyData -> PyData -> Option PyData) (f g : St -> Option (PyData × St)) (S : St) : Option (PyData × St) :=
  (f S).bind fun p => (g p.2).bind fun q => (o p.1 q.1).map fun c => (c, q.2)
theorem bin2_some {o f g S d S'} (h : bin2 o f g S = some (d, S')) : ∃ a S₁ b, f S = some (a, S₁) ∧ g S₁ = some (b, S') ∧ o a b = some d := by
  simp only [bin2, Option.bind_eq_some_iff, Option.map_eq_some_iff, Prod.exists, Prod.mk.injEq] at h
  obtain ⟨a, S₁, h1, b, S₂, h2, c, h3, rfl, rfl⟩ := h
  exact ⟨a, S₁, b, h1, h2, h3⟩
section
variable {W : Wd} {k : Nat} {sc : Scope} {cs : Option Scope}
theorem two {l r : Expr} {f g : St -> Option (PyData × St)} {t : Value -> Value -> Sem Value} {o : PyData -> PyData -> Option PyData} (hl : Ev W k sc cs l f) (hr : Ev W k sc cs r g) (ho : Op2 W t o)
    {S d S'} (h : bin2 o f g S = some (d, S')) {A : Around} {cx : Cx} {vals cv : Nat -> Value} {gh : Heap} {s : Shared} {Q : Value -> Shared -> Prop} {E : Value -> Shared -> Prop} (R : Room A k) (e1 : cx.sc = sc) (e2 : cx.cs = cs) (I : Inv W cx S vals cv gh s.heap)
    (K : ∀ v g' s', Step (Fp cx S vals) gh s (Fp cx S' vals) g' s' -> Inv W cx S' vals cv g' s'.heap -> RD g' v d -> Q v s') :
    wpAny W.M A (eval l cx.ev) (fun a s₁ => wpAny W.M A (eval r cx.ev) (fun b s₂ => wpAny W.M A (t a b) Q E s₂) E s₁) E s := by
  obtain ⟨a, S₁, b, h1, h2, h3⟩ := bin2_some h
  refine hl _ _ _ h1 A cx vals cv gh s _ E R e1 e2 I fun va g₁ s₁ st₁ I₁ r₁ => ?_
  refine hr _ _ _ h2 A cx vals cv g₁ s₁ _ E R e1 e2 I₁ fun vb g₂ s₂ st₂ I₂ r₂ => ?_
  refine ho _ _ _ h3 A g₂ s₂ va vb Q E R.zero I₂.wok I₂.le (RD.le st₂.gg r₁) r₂ fun v g₃ s₃ G r => ?_
  obtain ⟨st₃, I₃⟩ := I₂.grown G
  exact K _ _ _ ((st₁.trans st₂).trans st₃) I₃ r
theorem ev_bin {l r : Expr} {op : Operator} {pos : Pos} {f g : St -> Option (PyData × St)} {o : PyData -> PyData -> Option PyData} (hl : Ev W k sc cs l f) (hr : Ev W k sc cs r g) (ho : Op2 W (binaryOp op) o) : Ev W k sc cs (.BinOp l op r pos) (bin2 o f g) := by
  intro S d S' h A cx vals cv gh s Q E R e1 e2 I K
  exact wpAny_BinOp (two hl hr ho h R e1 e2 I K)
theorem ev_cmp1 {l r : Expr} {op : CmpOp} {pos : Pos} {f g : St -> Option (PyData × St)} {o : PyData -> PyData -> Option PyData} (hl : Ev W k sc cs l f) (hr : Ev W k sc cs r g) (ho : Op2 W (compareOp op) o) (hm : behindInMarks op r = false) : Ev W k sc cs (.Compare l [op] [r] pos) (bin2 o f g) := by
  intro S d S' h A cx vals cv gh s Q E R e1 e2 I K
  exact wpAny_Compare1 (two hl hr ho h R e1 e2 I K) hm
noncomputable def truthD : PyData -> Option Bool
  | .bool b => some b
  | .int i => some (i != 0)
  | _ => none
theorem truthy_D {d b} (h : truthD d = some b) {A : Around} {g : Heap} {s : Shared} {v : Value} {Q : Bool -> Shared -> Prop} {E : Value -> Shared -> Prop} (r : RD g v d) (K : Q b s) : wpAny W.M A (truthy v) Q E s := by
  unfold truthD at h
  split at h
  · cases h; rw [r.of_bool]; exact wpAny_truthy_bool K
  · cases h; obtain ⟨t, rfl⟩ := r.of_int; exact PyProof.Rows.truthy_int K
  · cases h
noncomputable def tstF (f : St -> Option (PyData × St)) (S : St) : Option (Bool × St) := (f S).bind fun p => (truthD p.1).map fun b => (b, p.2)
theorem tstF_some {f S b S'} (h : tstF f S = some (b, S')) : ∃ d, f S = some (d, S') ∧ truthD d = some b := by
  simp only [tstF, Option.bind_eq_some_iff, Option.map_eq_some_iff, Prod.exists, Prod.mk.injEq] at h
  obtain ⟨a, S₁, h1, c, h3, rfl, rfl⟩ := h
  exact ⟨a, h1, h3⟩
theorem tst_plain {e : Expr} {f : St -> Option (PyData × St)} (he : Ev W k sc cs e f) (hp : ∀ env whole, isTrue e env whole = (do let v <- whole; standAt e.pos; holding [v] (truthy v))) : Tst W k sc cs e (tstF f) := by
  intro S b S' h A cx vals cv gh s Q E R e1 e2 I K
  obtain ⟨d, h1, h2⟩ := tstF_some h
  refine isTrue_plain ?_ (hp _ _)
  exact he _ _ _ h1 A cx vals cv gh s _ E R e1 e2 I fun v g' s' st I' r => truthy_D h2 r (K _ _ st I')
theorem tst_cmp1 {l r : Expr} {op : CmpOp} {pos : Pos} {f g : St -> Option (PyData × St)} {o : PyData -> PyData -> Option PyData} (hl : Ev W k sc cs l f) (hr : Ev W k sc cs r g) (ho : Op2 W (compareOp op) o) (hm : behindInMarks op r = false) : Tst W k sc cs (.Compare l [op] [r] pos) (tstF (bin2 o f g)) := by
  intro S b S' h A cx vals cv gh s Q E R e1 e2 I K
  obtain ⟨d, h1, h2⟩ := tstF_some h
  exact wpAny_isTrue_Compare1 (two hl hr ho h1 R e1 e2 I fun v g' s' st I' r => truthy_D h2 r (K _ _ st I')) hm
noncomputable def notF (f : St -> Option (Bool × St)) (S : St) : Option (Bool × St) := (f S).map fun p => (!p.1, p.2)
theorem tst_not {x : Expr} {pos : Pos} {f : St -> Option (Bool × St)} (hx : Tst W k sc cs x f) : Tst W k sc cs (.UnaryOp .Not x pos) (notF f) := by
  intro S b S' h A cx vals cv gh s Q E R e1 e2 I K
  simp only [notF, Option.map_eq_some_iff, Prod.exists, Prod.mk.injEq] at h
  obtain ⟨c, S₁, h1, rfl, rfl⟩ := h
  exact isTrue_not (hx _ _ _ h1 A cx vals cv gh s _ E R e1 e2 I fun g' s' st I' => K _ _ st I')
noncomputable def andF (f g : St -> Option (Bool × St)) (S : St) : Option (Bool × St) := (f S).bind fun p => if p.1 then g p.2 else some (false, p.2)
noncomputable def orF (f g : St -> Option (Bool × St)) (S : St) : Option (Bool × St) := (f S).bind fun p => if p.1 then some (true, p.2) else g p.2
theorem tst_and2 {x y : Expr} {pos : Pos} {f g : St -> Option (Bool × St)} (hx : Tst W k sc cs x f) (hy : Tst W k sc cs y g) : Tst W k sc cs (.BoolOp .And [x, y] pos) (andF f g) := by
  intro S b S' h A cx vals cv gh s Q E R e1 e2 I K
  simp only [andF, Option.bind_eq_some_iff, Prod.exists] at h
  obtain ⟨c, S₁, h1, h2⟩ := h
  refine isTrue_and (hx _ _ _ h1 A cx vals cv gh s _ E R e1 e2 I fun g' s' st I' => ?_)
  cases c with
  | false =>
    simp only [Bool.false_eq_true, if_false, Option.some.injEq, Prod.mk.injEq] at h2 ⊢
    obtain ⟨rfl, rfl⟩ := h2; exact K _ _ st I'
  | true =>
    simp only [if_true] at h2 ⊢
    refine isTrue_and (hy _ _ _ h2 A cx vals cv g' s' _ E R e1 e2 I' fun g'' s'' st' I'' => ?_)
    cases b with
    | false => simp only [Bool.false_eq_true, if_false]; exact K _ _ (st.trans st') I''
    | true => simp only [if_true]; exact isTrue_and_nil (K _ _ (st.trans st') I'')
theorem tst_or2 {x y : Expr} {pos : Pos} {f g : St -> Option (Bool × St)} (hx : Tst W k sc cs x f) (hy : Tst W k sc cs y g) : Tst W k sc cs (.BoolOp .Or [x, y] pos) (orF f g) := by
  intro S b S' h A cx vals cv gh s Q E R e1 e2 I K
  simp only [orF, Option.bind_eq_some_iff, Prod.exists] at h
  obtain ⟨c, S₁, h1, h2⟩ := h
  refine isTrue_or (hx _ _ _ h1 A cx vals cv gh s _ E R e1 e2 I fun g' s' st I' => ?_)
  cases c with
  | true =>
    simp only [if_true, Option.some.injEq, Prod.mk.injEq] at h2 ⊢
    obtain ⟨rfl, rfl⟩ := h2; exact K _ _ st I'
  | false =>
    simp only [Bool.false_eq_true, if_false] at h2 ⊢
    refine isTrue_or (hy _ _ _ h2 A cx vals cv g' s' _ E R e1 e2 I' fun g'' s'' st' I'' => ?_)
    cases b with
    | true => simp only [if_true]; exact K _ _ (st.trans st') I''
    | false => simp only [Bool.false_eq_true, if_false]; exact isTrue_or_nil (K _ _ (st.trans st') I'')
theorem tst_or3 {x y z : Expr} {pos : Pos} {f g h : St -> Option (Bool × St)} (hx : Tst W k sc cs x f) (hy : Tst W k sc cs y g) (hz : Tst W k sc cs z h) : Tst W k sc cs (.BoolOp .Or [x, y, z] pos) (orF f (orF g h)) := by
  intro S b S' hh A cx vals cv gh s Q E R e1 e2 I K
  simp only [orF, Option.bind_eq_some_iff, Prod.exists] at hh
  obtain ⟨c, S₁, h1, h2⟩ := hh
  refine isTrue_or (hx _ _ _ h1 A cx vals cv gh s _ E R e1 e2 I fun g' s' st I' => ?_)
  cases c with
  | true =>
    simp only [if_true, Option.some.injEq, Prod.mk.injEq] at h2 ⊢
    obtain ⟨rfl, rfl⟩ := h2; exact K _ _ st I'
  | false =>
    simp only [Bool.false_eq_true, if_false] at h2 ⊢
    have := tst_or2 (pos := pos) hy hz S₁ b S' (by simpa only [orF] using h2) A cx vals cv g' s' Q E R e1 e2 I' fun g'' s'' st' I'' => K _ _ (st.trans st') I''
    exact this
noncomputable def ifF (t : St -> Option (Bool × St)) (f g : St -> Option (PyData × St)) (S : St) : Option (PyData × St) := (t S).bind fun p => if p.1 then f p.2 else g p.2
theorem ev_ifexp {t b o : Expr} {pos : Pos} {ft : St -> Option (Bool × St)} {f g : St -> Option (PyData × St)} (ht : Tst W k sc cs t ft) (hb : Ev W k sc cs b f) (ho : Ev W k sc cs o g) : Ev W k sc cs (.IfExp t b o pos) (ifF ft f g) := by
  intro S d S' h A cx vals cv gh s Q E R e1 e2 I K
  simp only [ifF, Option.bind_eq_some_iff, Prod.exists] at h
  obtain ⟨c, S₁, h1, h2⟩ := h
  refine wpAny_IfExp (ht _ _ _ h1 A cx vals cv gh s _ E R e1 e2 I fun g' s' st I' => ?_)
  cases c with
  | true => simp only [if_true] at h2 ⊢; exact hb _ _ _ h2 A cx vals cv g' s' Q E R e1 e2 I' fun v g'' s'' st' I'' r => K _ _ _ (st.trans st') I'' r
  | false => simp only [Bool.false_eq_true, if_false] at h2 ⊢; exact ho _ _ _ h2 A cx vals cv g' s' Q E R e1 e2 I' fun v g'' s'' st' I'' r => K _ _ _ (st.trans st') I'' r
noncomputable def andV (f g : St -> Option (PyData × St)) (S : St) : Option (PyData × St) := (f S).bind fun p => (truthD p.1).bind fun b => if b then g p.2 else some p
theorem ev_and2 {x y : Expr} {pos : Pos} {f g : St -> Option (PyData × St)} (hx : Ev W k sc cs x f) (hy : Ev W k sc cs y g) : Ev W k sc cs (.BoolOp .And [x, y] pos) (andV f g) := by
  intro S d S' h A cx vals cv gh s Q E R e1 e2 I K
  simp only [andV, Option.bind_eq_some_iff, Prod.exists] at h
  obtain ⟨a, S₁, h1, c, h2, h3⟩ := h
  show wpAny _ _ (boolOp pos .And [eval x cx.ev, eval y cx.ev]) _ _ _
  refine PySem.IsLeap.wpAny_and2 (hx _ _ _ h1 A cx vals cv gh s _ E R e1 e2 I fun v g' s' st I' r => truthy_D h2 r ?_)
  cases c with
  | true => simp only [if_true] at h3 ⊢; exact hy _ _ _ h3 A cx vals cv g' s' Q E R e1 e2 I' fun v g'' s'' st' I'' r => K _ _ _ (st.trans st') I'' r
  | false =>
    simp only [Bool.false_eq_true, if_false, Option.some.injEq, Prod.mk.injEq] at h3 ⊢
    obtain ⟨rfl, rfl⟩ := h3; exact K _ _ _ st I' r
noncomputable def chain2 (o₁ o₂ : PyData -> PyData -> Option PyData) (f g h : St -> Option (PyData × St)) (S : St) : Option (Bool × St) :=
  (f S).bind fun p => (g p.2).bind fun q => (o₁ p.1 q.1).bind fun c => (truthD c).bind fun b => if b then (h q.2).bind fun r => (o₂ q.1 r.1).bind fun c => (truthD c).map fun b => (b, r.2) else some (false, q.2)
theorem tst_chain2 {l r q : Expr} {op₁ op₂ : CmpOp} {pos : Pos} {f g h : St -> Option (PyData × St)} {o₁ o₂ : PyData -> PyData -> Option PyData} (hl : Ev W k sc cs l f) (hr : Ev W k sc cs r g) (hq : Ev W k sc cs q h)
    (h₁ : Op2 W (compareOp op₁) o₁) (h₂ : Op2 W (compareOp op₂) o₂) (hm : lastMarks [op₁, op₂] [r, q] = false) : Tst W k sc cs (.Compare l [op₁, op₂] [r, q] pos) (chain2 o₁ o₂ f g h) := by
  intro S b S' hh A cx vals cv gh s Q E R e1 e2 I K
  simp only [chain2, Option.bind_eq_some_iff, Prod.exists] at hh
  obtain ⟨a, S₁, x1, b₁, S₂, x2, c, x3, tc, x4, x5⟩ := hh
  refine isTrue_chain (hl _ _ _ x1 A cx vals cv gh s _ E R e1 e2 I fun va g₁ s₁ st₁ I₁ r₁ => ?_) hm
  refine test_link (hr _ _ _ x2 A cx vals cv g₁ s₁ _ E R e1 e2 I₁ fun vb g₂ s₂ st₂ I₂ r₂ => ?_)
  refine h₁ _ _ _ x3 A g₂ s₂ va vb _ E R.zero I₂.wok I₂.le (RD.le st₂.gg r₁) r₂ fun vc g₃ s₃ G₃ r₃ => ?_
  obtain ⟨st₃, I₃⟩ := I₂.grown G₃
  refine truthy_D x4 r₃ ?_
  cases tc with
  | false =>
    simp only [Bool.false_eq_true, if_false, Option.some.injEq, Prod.mk.injEq] at x5 ⊢
    obtain ⟨rfl, rfl⟩ := x5
    exact K _ _ ((st₁.trans st₂).trans st₃) I₃
  | true =>
    simp only [if_true, Option.bind_eq_some_iff, Option.map_eq_some_iff, Prod.exists, Prod.mk.injEq] at x5 ⊢
    obtain ⟨d, S₃, y1, c', y2, tb, y3, rfl, rfl⟩ := x5
    refine test_last (hq _ _ _ y1 A cx vals cv g₃ s₃ _ E R e1 e2 I₃ fun vd g₄ s₄ st₄ I₄ r₄ => ?_)
    refine h₂ _ _ _ y2 A g₄ s₄ vb vd _ E R.zero I₄.wok I₄.le (RD.le st₄.gg (RD.le st₃.gg r₂)) r₄ fun ve g₅ s₅ G₅ r₅ => ?_
    obtain ⟨st₅, I₅⟩ := I₄.grown G₅
    exact truthy_D y3 r₅ (K _ _ ((((st₁.trans st₂).trans st₃).trans st₄).trans st₅) I₅)
end
theorem Step.frz {fp fp' : Addr -> Prop} {g g' : Heap} {s s' : Shared} (x : Step fp g s fp' g' s') (k : Le g' s'.heap) {p : Addr -> Prop} (hp : ∀ a, p a -> s.heap.get? a = none) : Step fp g s fp' (addH g' s'.heap p) s' :=
  ⟨x.gg.trans (le_addH k), x.hh, fun a o ha hf e => addH_none (x.gn a o ha hf e) (not_new hp ha), x.ff, x.lv, x.os, x.gens⟩
theorem Inv.frz {W : Wd} {cx : Cx} {S : St} {vals cv : Nat -> Value} {g h : Heap} (I : Inv W cx S vals cv g h) {p : Addr -> Prop} (hp : ∀ a, p a -> ¬ Fp cx S vals a) : Inv W cx S vals cv (addH g h p) h :=
  I.change (le_addH I.le) addH_le (fun _ _ _ e => e) fun a hf => addH_none (I.there hf).2 fun q => hp a q hf
section
variable {W : Wd} {k : Nat} {sc : Scope} {cs : Option Scope}
noncomputable def ofO (f : St -> Option (List PyData × St)) (S : St) : Option (PyData × St) := (f S).map fun p => (.list p.1, p.2)
theorem ev_ofO {e : Expr} {f : St -> Option (List PyData × St)} (he : EvO W k sc cs e f) : Ev W k sc cs e (ofO f) := by
  intro S d S' h A cx vals cv g s Q E R e1 e2 I K
  simp only [ofO, Option.map_eq_some_iff, Prod.exists, Prod.mk.injEq] at h
  obtain ⟨l, S₁, h1, rfl, rfl⟩ := h
  refine he _ _ _ h1 A cx vals cv g s Q E R e1 e2 I fun a vs n g' s' st I' ha hg hr hn hf => ?_
  have hp : ∀ b, b = a -> s.heap.get? b = none := fun b q => q ▸ ha
  exact K _ _ _ (st.frz I'.le hp) (I'.frz fun b q => q ▸ hf) (RD.list (addH_get.mpr ⟨.inr rfl, hg⟩) (RDs.le (le_addH I'.le) hr))
noncomputable def EvL (W : Wd) (k : Nat) (sc : Scope) (cs : Option Scope) (es : List Expr) (f : St -> Option (List PyData × St)) : Prop :=
  ∀ S d S', f S = some (d, S') -> ∀ (pos : Pos) (A : Around) (cx : Cx) vals cv g s (Q : List Value -> Shared -> Prop) (E : Value -> Shared -> Prop), Room A k -> cx.sc = sc -> cx.cs = cs -> Inv W cx S vals cv g s.heap ->
    (∀ vs g' s', Step (Fp cx S vals) g s (Fp cx S' vals) g' s' -> Inv W cx S' vals cv g' s'.heap -> RDs g' vs d -> Q vs s') -> wpAny W.M A (spliced (backTo pos (starEach es cx.ev))) Q E s
noncomputable def nilL (S : St) : Option (List PyData × St) := some ([], S)
noncomputable def consL (f : St -> Option (PyData × St)) (g : St -> Option (List PyData × St)) (S : St) : Option (List PyData × St) := (f S).bind fun p => (g p.2).map fun q => (p.1 :: q.1, q.2)
theorem evL_nil : EvL W k sc cs [] nilL := by
  intro S d S' h pos A cx vals cv g s Q E R e1 e2 I K
  cases h
  exact spliced_nil (K _ _ _ Step.refl I .nil)
theorem evL_cons {e : Expr} {es : List Expr} {f : St -> Option (PyData × St)} {r : St -> Option (List PyData × St)} (he : Ev W k sc cs e f) (hr : EvL W k sc cs es r) (hs : ∀ env, starEach (e :: es) env = (false, eval e env) :: starEach es env) :
    EvL W k sc cs (e :: es) (consL f r) := by
  intro S d S' h pos A cx vals cv g s Q E R e1 e2 I K
  simp only [consL, Option.bind_eq_some_iff, Option.map_eq_some_iff, Prod.exists, Prod.mk.injEq] at h
  obtain ⟨a, S₁, h1, l, S₂, h2, rfl, rfl⟩ := h
  rw [hs]
  refine spliced_cons (he _ _ _ h1 A cx vals cv g s _ E R e1 e2 I fun v g₁ s₁ st₁ I₁ r₁ => ?_)
  exact hr _ _ _ h2 pos A cx vals cv g₁ s₁ _ E R e1 e2 I₁ fun vs g₂ s₂ st₂ I₂ r₂ => K _ _ _ (st₁.trans st₂) I₂ (RDs.cons (RD.le st₂.gg r₁) r₂)
noncomputable def tupF (f : St -> Option (List PyData × St)) (S : St) : Option (PyData × St) := (f S).bind fun p => if p.1.length ≤ 100 then some (.tuple p.1, p.2) else none
noncomputable def lstF (f : St -> Option (List PyData × St)) (S : St) : Option (List PyData × St) := (f S).bind fun p => if p.1.length ≤ 100 then some p else none
theorem tupF_some {f : St -> Option (List PyData × St)} {S d S'} (h : tupF f S = some (d, S')) : ∃ l, f S = some (l, S') ∧ l.length ≤ 100 ∧ d = .tuple l := by
  simp only [tupF, Option.bind_eq_some_iff, Prod.exists, Option.ite_none_right_eq_some, Option.some.injEq, Prod.mk.injEq] at h
  obtain ⟨l, S₁, h1, h2, rfl, rfl⟩ := h
  exact ⟨l, h1, h2, rfl⟩
theorem lstF_some {f : St -> Option (List PyData × St)} {S l S'} (h : lstF f S = some (l, S')) : f S = some (l, S') ∧ l.length ≤ 100 := by
  simp only [lstF, Option.bind_eq_some_iff, Prod.exists, Option.ite_none_right_eq_some, Option.some.injEq, Prod.mk.injEq] at h
  obtain ⟨l, S₁, h1, h2, rfl, rfl⟩ := h
  exact ⟨h1, h2⟩
theorem le_push {h : Heap} {o : Obj} : Le h (h.push o) := fun _ _ e => Heap.get?_push_of_some _ e
theorem size_none {h : Heap} : h.get? h.objs.size = none := by
  cases e : h.get? h.objs.size with
  | none => rfl
  | some o => exact absurd (Heap.lt_size e) (Nat.lt_irrefl _)
theorem grow_push {g : Heap} {s : Shared} {o : Obj} (k : Le g s.heap) (hf : o.isFreed = false) : ∃ g', Grow g s g' { s with heap := s.heap.push o } ∧ g'.get? s.heap.objs.size = some o :=
  ⟨_, Grow.add (s' := { s with heap := s.heap.push o }) (· = s.heap.objs.size) (fun a q => q ▸ size_none) k le_push rfl id, addH_get.mpr ⟨.inr rfl, Heap.get?_push_size _ hf⟩⟩
theorem grow_push0 {g : Heap} {s : Shared} {o : Obj} (k : Le g s.heap) : Grow g s g { s with heap := s.heap.push o } :=
  Grow.heap k le_push rfl id
theorem ev_tuple {es : List Expr} {kk : Nat} {pos : Pos} {f : St -> Option (List PyData × St)} (he : EvL W k sc cs es f) : Ev W k sc cs (.Tuple es kk pos) (tupF f) := by
  intro S d S' h A cx vals cv g s Q E R e1 e2 I K
  obtain ⟨l, h1, h2, rfl⟩ := tupF_some h
  refine wpAny_Tuple (he _ _ _ h1 pos A cx vals cv g s _ E R e1 e2 I fun vs g' s' st I' r => ⟨?_, ?_⟩)
  · rw [r.len]; exact Nat.le_trans h2 (by decide)
  · obtain ⟨g'', G, e⟩ := grow_push (s := s') (o := tupO vs.toArray 0) I'.le rfl
    obtain ⟨st', I''⟩ := I'.grown G
    exact K _ _ _ (st.trans st') I'' (RD.tuple e (by simpa using RDs.le G.gg r))
theorem evO_list {es : List Expr} {pos : Pos} {f : St -> Option (List PyData × St)} (he : EvL W k sc cs es f) : EvO W k sc cs (.List es pos) (lstF f) := by
  intro S d S' h A cx vals cv g s Q E R e1 e2 I K
  obtain ⟨h1, h2⟩ := lstF_some h
  refine wpAny_List (he _ _ _ h1 pos A cx vals cv g s _ E R e1 e2 I fun vs g' s' st I' r => ⟨?_, ?_⟩)
  · rw [r.len]; exact Nat.le_trans h2 (by decide)
  · obtain ⟨st', I''⟩ := I'.grown (grow_push0 (s := s') (o := listO vs.toArray 0) I'.le)
    exact K _ _ 0 _ _ (st.trans st') I'' (st.lv _ size_none) (Heap.get?_push_size _ rfl) (by simpa using r) (I'.le.none size_none) (I'.fresh size_none)
theorem add_raw {A : Around} {E : Value -> Shared -> Prop} {s : Shared} {l b : Addr} {its its2 : Array Value} {Q : Value -> Shared -> Prop} (hl : s.heap.IsList l its) (hb : s.heap.IsList b its2)
    (h : Q (.ref s.heap.objs.size) { s with heap := s.heap.push (listO (its ++ its2) 0) }) (hsz : its.size + its2.size ≤ sizeLine) : wpAny W.M A (binaryOp .Add (.ref l) (.ref b)) Q E s := by
  obtain ⟨⟨cls, dd, data, sl⟩, ho, hc, n, hd⟩ := id hl
  obtain ⟨⟨cls2, dd2, data2, sl2⟩, ho2, hc2, n2, hd2⟩ := id hb
  simp only at hc hd hc2 hd2
  subst hc hd hc2 hd2
  exact concat_meets ⟨_, ho, rfl⟩ ⟨_, ho2, rfl⟩ noFill_list_add seq_list_add PySem.F.slot_list_add PySem.F.entry_list_add (PySem.F.args_list_add_2 _ _) (list_addW l b its its2 n n2 dd dd2 sl sl2 hsz) ⟨ho, ho2, h⟩
noncomputable def addL (f g : St -> Option (PyData × St)) (S : St) : Option (List PyData × St) :=
  (f S).bind fun p => (g p.2).bind fun q => match p.1, q.1 with
    | .list a, .list b => if a.length + b.length ≤ 1000000 then some (a ++ b, q.2) else none
    | _, _ => none
theorem evO_add {l r : Expr} {pos : Pos} {f g : St -> Option (PyData × St)} (hl : Ev W k sc cs l f) (hr : Ev W k sc cs r g) : EvO W k sc cs (.BinOp l .Add r pos) (addL f g) := by
  intro S d S' h A cx vals cv gh s Q E R e1 e2 I K
  simp only [addL, Option.bind_eq_some_iff, Prod.exists] at h
  obtain ⟨a, S₁, h1, b, S₂, h2, h3⟩ := h
  split at h3
  · rename_i xs ys
    rw [Option.ite_none_right_eq_some] at h3
    obtain ⟨h3, h4⟩ := h3
    cases h4
    refine wpAny_BinOp (hl _ _ _ h1 A cx vals cv gh s _ E R e1 e2 I fun va g₁ s₁ st₁ I₁ r₁ => ?_)
    refine hr _ _ _ h2 A cx vals cv g₁ s₁ _ E R e1 e2 I₁ fun vb g₂ s₂ st₂ I₂ r₂ => ?_
    obtain ⟨a, vs, n, rfl, x1, x4⟩ := (RD.le st₂.gg r₁).of_list
    obtain ⟨b, ws, m, rfl, y1, y4⟩ := r₂.of_list
    have lx := x4.len
    have ly := y4.len
    rw [Array.length_toList] at lx ly
    refine add_raw (isList_of (I₂.le _ _ x1)) (isList_of (I₂.le _ _ y1)) ?_ (by have : sizeLine = 16777216 := rfl; lia)
    obtain ⟨st', I'⟩ := I₂.grown (grow_push0 (s := s₂) (o := listO (vs ++ ws) 0) I₂.le)
    have st₃ := st₁.trans st₂
    exact K _ _ 0 _ _ (st₃.trans st') I' (st₃.lv _ size_none) (Heap.get?_push_size _ rfl) (by simpa using x4.append y4) (I₂.le.none size_none) (I₂.fresh size_none)
  · cases h3
noncomputable def itemD : PyData -> PyData -> Option PyData
  | .list l, .int i => if -(2 ^ 62) < i ∧ i < 2 ^ 62 then (seqIndex? i l.length).bind fun j => l[j]? else none
  | .tuple l, .int i => if -(2 ^ 62) < i ∧ i < 2 ^ 62 then (seqIndex? i l.length).bind fun j => l[j]? else none
  | .str x, .int i => if -(2 ^ 62) < i ∧ i < 2 ^ 62 then ((seqIndex? i x.length).bind (x.cps[·]?)).map fun c => .str ⟨#[c]⟩ else none
  | _, _ => none
theorem list_item {A : Around} {E : Value -> Shared -> Prop} {s : Shared} {value slice : Expr} {a : Addr} {its : Array Value} {i : Int} {u : Tok} {j : Nat} {v : Value} {Q : Value -> Shared -> Prop} (hl : s.heap.IsList a its) (hi : -(2 ^ 62) < i ∧ i < 2 ^ 62)
    (hj : seqIndex? i its.size = some j) (hv : its[j]? = some v) (h : Q v s) (hs : ∀ o i, subscripted slice false o i = operate [o, i] (getItem o i)) : wpAny W.M A (subscriptTail value slice (.ref a) (.int i u)) Q E s := by
  refine tail_any hl.typeIs slot_list_getitem.lookup ?_ (hs _ _)
  unfold seqIndex? at hj
  by_cases h0 : i < 0
  · simp only [h0, if_true] at hj
    split at hj
    · rename_i hb
      cases hj
      simp only [Bool.and_eq_true, decide_eq_true_eq] at hb
      exact wpAny_getItem_list_neg hl h0 (by lia) (by lia) hv h
    · cases hj
  · simp only [h0, if_false] at hj
    split at hj
    · cases hj
      exact wpAny_getItem_list hl (by lia) (by lia) hv h
    · cases hj
theorem op2_item {value slice : Expr} (hs : ∀ o i, subscripted slice false o i = operate [o, i] (getItem o i)) : Op2 W (subscriptTail value slice) itemD := by
  intro a b d h A g s va vb Q E R ok le ra rb K
  unfold itemD at h
  split at h
  · rw [Option.ite_none_right_eq_some, Option.bind_eq_some_iff] at h
    obtain ⟨hi, j, hj, hx⟩ := h
    obtain ⟨u, rfl⟩ := rb.of_int
    obtain ⟨c, vs, n, rfl, x1, x4⟩ := ra.of_list
    obtain ⟨v, hv, hr⟩ := x4.get hx
    exact list_item (isList_of (le _ _ x1)) hi (by rw [<- Array.length_toList, x4.len]; exact hj) (by simpa using hv) (K _ _ _ (Grow.refl le) hr) hs
  · rw [Option.ite_none_right_eq_some, Option.bind_eq_some_iff] at h
    obtain ⟨hi, j, hj, hx⟩ := h
    obtain ⟨u, rfl⟩ := rb.of_int
    obtain ⟨c, vs, n, rfl, x1, x4⟩ := ra.of_tuple
    obtain ⟨v, hv, hr⟩ := x4.get hx
    exact item_tupleT (l := vs.toList) (isTup_of (le _ _ x1)) (by lia) (by lia) (by rw [x4.len]; exact hj) hv (K _ _ _ (Grow.refl le) hr) (hs _ _)
  · rw [Option.ite_none_right_eq_some, Option.map_eq_some_iff] at h
    obtain ⟨hi, c, hc, rfl⟩ := h
    obtain ⟨u, rfl⟩ := rb.of_int
    obtain ⟨t, rfl⟩ := ra.of_str
    refine tail_any (T := "str") rfl slot_str_getitem.lookup ?_ (hs _ _)
    exact PyProof.Rows.getItem_str (by simp; omega) hc (K _ _ _ (Grow.tok le _) (.str ..))
  · cases h
theorem ev_sub {v sl : Expr} {pos : Pos} {f g : St -> Option (PyData × St)} {o : PyData -> PyData -> Option PyData} (hv : Ev W k sc cs v f) (hs : Ev W k sc cs sl g) (ho : Op2 W (subscriptTail v sl) o) : Ev W k sc cs (.Subscript v sl pos) (bin2 o f g) := by
  intro S d S' h A cx vals cv gh s Q E R e1 e2 I K
  exact Subscript_ (two hv hs ho h R e1 e2 I K)
noncomputable def intOf : PyData -> Option Int
  | .int i => some i
  | _ => none
noncomputable def lstOf : PyData -> Option (List PyData)
  | .list l => some l
  | _ => none
noncomputable def strOf : PyData -> Option Str
  | .str x => some x
  | _ => none
theorem intOf_some {d : PyData} {i : Int} (h : intOf d = some i) : d = .int i := by cases d <;> simp_all [intOf]
theorem lstOf_some {d : PyData} {i} (h : lstOf d = some i) : d = .list i := by cases d <;> simp_all [lstOf]
theorem strOf_some {d : PyData} {i} (h : strOf d = some i) : d = .str i := by cases d <;> simp_all [strOf]
noncomputable def ownOf : Option (Option Loc) -> Option (List PyData)
  | some (some (.own l)) => some l
  | _ => none
theorem ownOf_some {d : Option (Option Loc)} {i} (h : ownOf d = some i) : d = some (some (.own i)) := by
  unfold ownOf at h
  split at h
  · cases h; rfl
  · cases h
noncomputable def subOwn (i : Nat) (g : St -> Option (PyData × St)) (S : St) : Option (PyData × St) :=
  S.loc[i]?.join.bind fun _ => (g S).bind fun p => (ownOf p.2.loc[i]?).bind fun l => (intOf p.1).bind fun j =>
    if -(2 ^ 62) < j ∧ j < 2 ^ 62 then ((seqIndex? j l.length).bind fun j => l[j]?).map (·, p.2) else none
theorem join_some {α : Type} {x : Option (Option α)} {a : α} (h : x.join = some a) : x = some (some a) := by cases x <;> simp_all [Option.join]
theorem ev_subOwn {x : Str} {np : Pos} {i : Nat} {sl : Expr} {pos : Pos} {g : St -> Option (PyData × St)} (hr : resolve sc cs x = some (.loc i)) (hs : Ev W k sc cs sl g) (hsl : ∀ o i, subscripted sl false o i = operate [o, i] (getItem o i)) :
    Ev W k sc cs (.Subscript (.Name x np) sl pos) (subOwn i g) := by
  intro S d S' h A cx vals cv gh s Q E R e1 e2 I K
  subst e1 e2
  simp only [subOwn, Option.bind_eq_some_iff, Option.ite_none_right_eq_some, Option.map_eq_some_iff, Prod.exists, Prod.mk.injEq] at h
  obtain ⟨l₀, h0, a, S₁, h1, l, hl, j, ha, hi, d', ⟨jn, hj, hx⟩, rfl, rfl⟩ := h
  have hl := ownOf_some hl
  obtain rfl := intOf_some ha
  refine Subscript_ (wpAny_Name (I.load hr (join_some h0) ?_) (resolve_debug hr))
  refine hs _ _ _ h1 A cx vals cv gh s _ E R rfl rfl I fun vb g₂ s₂ st₂ I₂ r₂ => ?_
  obtain ⟨u, rfl⟩ := r₂.of_int
  obtain ⟨c, vs, n, hv, x1, x2, x3⟩ := I₂.rep i _ hl
  obtain ⟨v, hv', hr'⟩ := x2.get hx
  rw [hv]
  exact list_item (isList_of x1) hi (by rw [<- Array.length_toList, x2.len]; exact hj) (by simpa using hv') (K _ _ _ st₂ I₂ hr') hsl
noncomputable def EvP (W : Wd) (k : Nat) (sc : Scope) (cs : Option Scope) (e : Option Expr) (f : St -> Option (Option Int × St)) : Prop :=
  ∀ S d S', f S = some (d, S') -> ∀ (A : Around) (cx : Cx) vals cv g s (Q : Value -> Shared -> Prop) (E : Value -> Shared -> Prop), Room A k -> cx.sc = sc -> cx.cs = cs -> Inv W cx S vals cv g s.heap ->
    (∀ v g' s', Step (Fp cx S vals) g s (Fp cx S' vals) g' s' -> Inv W cx S' vals cv g' s'.heap -> (∃ t, v = partValue (d.map (·, t))) -> Q v s') -> wpAny W.M A (evalPart e cx.ev) Q E s
theorem evP_none : EvP W k sc cs none (fun S => some (none, S)) := by
  intro S d S' h A cx vals cv g s Q E R e1 e2 I K
  cases h
  exact evalPart_none_step (K _ _ _ Step.refl I ⟨0, rfl⟩)
noncomputable def intP (f : St -> Option (PyData × St)) (S : St) : Option (Option Int × St) := (f S).bind fun p => (intOf p.1).map fun i => (some i, p.2)
theorem evP_some {e : Expr} {f : St -> Option (PyData × St)} (he : Ev W k sc cs e f) : EvP W k sc cs (some e) (intP f) := by
  intro S d S' h A cx vals cv g s Q E R e1 e2 I K
  simp only [intP, Option.bind_eq_some_iff, Option.map_eq_some_iff, Prod.exists, Prod.mk.injEq] at h
  obtain ⟨a, S₁, h1, i, ha, rfl, rfl⟩ := h
  obtain rfl := intOf_some ha
  refine evalPart_some_step (he _ _ _ h1 A cx vals cv g s Q E R e1 e2 I fun v g' s' st I' r => ?_)
  obtain ⟨t, rfl⟩ := r.of_int
  exact K _ _ _ st I' ⟨t, rfl⟩
noncomputable def cutS (x : Str) (lo hi : Option Int) : Option Str :=
  if hi = none ∧ (x.length : Int) ≤ lo.getD 0 then some Str.empty
  else if 0 ≤ lo.getD 0 ∧ lo.getD 0 ≤ hi.getD x.length ∧ hi.getD x.length ≤ x.length ∧ x.length ≤ 1000000 then some ⟨((x.cps.toList.drop (lo.getD 0).toNat).take ((hi.getD x.length) - lo.getD 0).toNat).toArray⟩ else none
theorem cut_picked {x y : Str} {lo hi : Option Int} (h : cutS x lo hi = some y) : (⟨((strSliceIndices lo hi 1 x.length).filterMap (x.cps[·]?)).toArray⟩ : Str) = y ∧ x.length ≤ 1000000 ∨ (y = Str.empty ∧ (strSliceIndices lo hi 1 x.length) = [] ) := by
  unfold cutS at h
  split at h
  · rename_i h0
    cases h
    right
    obtain ⟨rfl, h0⟩ := h0
    refine ⟨rfl, ?_⟩
    cases lo with
    | none =>
      have : x.length = 0 := by simp at h0; exact h0
      rw [this]; decide
    | some i =>
      rw [indices_beyond (by simpa using h0), StrLaws.sliceIdx_none_hi, StrLaws.strSliceIndices_plain (Nat.le_refl _) (Nat.le_refl _)]
      simp
  · rw [Option.ite_none_right_eq_some] at h
    obtain ⟨⟨h0, h1, h2, h3⟩, h4⟩ := h
    cases h4
    left
    refine ⟨?_, h3⟩
    have e1 : strSliceIndices lo hi 1 x.length = strSliceIndices (some (((lo.getD 0).toNat : Nat) : Int)) (some (((hi.getD x.length).toNat : Nat) : Int)) 1 x.length := by
      have a1 : (((lo.getD 0).toNat : Nat) : Int) = lo.getD 0 := by lia
      have a2 : (((hi.getD x.length).toNat : Nat) : Int) = hi.getD x.length := by lia
      rw [a1, a2]
      cases lo with
      | none =>
        cases hi with
        | none => rw [StrLaws.sliceIdx_none_lo, StrLaws.sliceIdx_none_hi]; rfl
        | some j => rw [StrLaws.sliceIdx_none_lo]; rfl
      | some i =>
        cases hi with
        | none => rw [StrLaws.sliceIdx_none_hi]; rfl
        | some j => rfl
    rw [e1, StrLaws.sliced_plain x (by grind) (by lia)]
    congr 3
    grind
end
noncomputable def FnAt (g : Heap) (a : Addr) (F : FnDef) : Prop :=
  ∃ o pm code doc, g.get? a = some o ∧ o.data = .func (docDef F.name F.params F.body F.scope pm code doc) ∧ g.CodeRec code F.name
noncomputable def OpN (W : Wd) (k : Nat) (t : List Value -> Sem Value) (o : List PyData -> Option PyData) : Prop :=
  ∀ ds d, o ds = some d -> ∀ (A : Around) g s vs (Q : Value -> Shared -> Prop) (E : Value -> Shared -> Prop), Room A k -> WOK W g -> Le g s.heap -> RDs g vs ds -> (∀ v g' s', Grow g s g' s' -> RD g' v d -> Q v s') -> wpAny W.M A (t vs) Q E s
theorem bindL_get {kindOf : Str -> Option NameKind} {x : Str} {v : Value} (hk : kindOf x = some .local) : ∀ (binds : List (Str × Value)) (m : Str -> Option Value), (binds.map (·.1)).Nodup -> ((x, v) ∈ binds ∨ (x ∉ binds.map (·.1) ∧ m x = some v)) -> bindL kindOf binds m x = some v
  | [], m, _, h => by rcases h with h | h; · cases h
                      · exact h.2
  | (n, u) :: r, m, nd, h => by
    unfold bindL
    rw [List.map_cons, List.nodup_cons] at nd
    refine bindL_get hk r _ nd.2 ?_
    rcases h with h | ⟨h1, h2⟩
    · cases h with
      | head => exact .inr ⟨nd.1, by simp [hk]⟩
      | tail _ h => exact .inl h
    · rw [List.map_cons, List.mem_cons, not_or] at h1
      refine .inr ⟨h1.2, ?_⟩
      split
      · simp only; rw [if_neg h1.1]; exact h2
      · exact h2
theorem bindC_get {kindOf : Str -> Option NameKind} {x : Str} {v : Value} (hk : kindOf x = some .cell) : ∀ (binds : List (Str × Value)) (m : Str -> Option Value), (binds.map (·.1)).Nodup -> ((x, v) ∈ binds ∨ (x ∉ binds.map (·.1) ∧ m x = some v)) -> bindC kindOf binds m x = some v
  | [], m, _, h => by rcases h with h | h; · cases h
                      · exact h.2
  | (n, u) :: r, m, nd, h => by
    unfold bindC
    rw [List.map_cons, List.nodup_cons] at nd
    refine bindC_get hk r _ nd.2 ?_
    rcases h with h | ⟨h1, h2⟩
    · cases h with
      | head => exact .inr ⟨nd.1, by simp [hk]⟩
      | tail _ h => exact .inl h
    · rw [List.map_cons, List.mem_cons, not_or] at h1
      refine .inr ⟨h1.2, ?_⟩
      split
      · exact h2
      · simp only; rw [if_neg h1.1]; exact h2
theorem lookup_of_get : ∀ {l : List (Str × NameKind)} {i : Nat} {x : Str} {k : NameKind}, (l.map (·.1)).Nodup -> l[i]? = some (x, k) -> l.lookup x = some k
  | [], _, _, _, _, h => by simp at h
  | (y, k') :: r, 0, x, k, nd, h => by simp at h; obtain ⟨rfl, rfl⟩ := h; simp [List.lookup_cons]
  | (y, k') :: r, i + 1, x, k, nd, h => by
    rw [List.map_cons, List.nodup_cons] at nd
    simp at h
    have hx : (x == y) = false := by
      rw [beq_eq_false_iff_ne]
      rintro rfl
      exact nd.1 (List.mem_map.mpr ⟨_, List.mem_of_getElem? h, rfl⟩)
    rw [List.lookup_cons, hx]
    exact lookup_of_get nd.2 h
theorem zip_mem {ps : List Str} {vs : List Value} {i : Nat} {x : Str} {v : Value} (h1 : ps[i]? = some x) (h2 : vs[i]? = some v) : (x, v) ∈ ps.zip vs :=
  List.mem_of_getElem? (i := i) (by rw [List.getElem?_zip_eq_some]; exact ⟨h1, h2⟩)
theorem cells_inj {cs : List (Str × Addr)} (h : cs.Pairwise fun x y => x.2 ≠ y.2) {x y : Str} {c : Addr} : cs.lookup x = some c -> cs.lookup y = some c -> x = y := by
  induction cs with
  | nil => intro h; cases h
  | cons p r ih =>
    obtain ⟨n, a⟩ := p
    rw [List.pairwise_cons] at h
    have key : ∀ z : Str, r.lookup z = some a -> False := fun z hz => by
      have : (z, a) ∈ r := by
        obtain ⟨q, hq, e⟩ := List.lookup_eq_some_iff.mp hz |> fun ⟨l₁, l₂, e, _⟩ => (⟨(z, a), by rw [e]; simp, rfl⟩ : ∃ q ∈ r, q = (z, a))
        rw [<- e]; exact hq
      exact h.1 _ this rfl
    intro h1 h2
    rw [List.lookup_cons] at h1 h2
    by_cases e1 : x == n <;> by_cases e2 : y == n <;> simp only [e1, e2] at h1 h2
    · rw [beq_iff_eq.mp e1, beq_iff_eq.mp e2]
    · cases h1; exact (key _ h2).elim
    · cases h2; exact (key _ h1).elim
    · exact ih h.2 h1 h2
theorem lookup_mem {cs : List (Str × Addr)} {x : Str} {c : Addr} (h : cs.lookup x = some c) : (x, c) ∈ cs := by
  obtain ⟨l₁, l₂, e, _⟩ := List.lookup_eq_some_iff.mp h
  rw [e]; simp
noncomputable def initL (n : Nat) (ds : List PyData) : List (Option Loc) := ds.map (fun d => some (.val d)) ++ List.replicate (n - ds.length) none
noncomputable def retOf : Fl × List (Option Loc) -> PyData
  | (.ret d, _) => d
  | (.next, _) => .none
noncomputable def fnF (n : Nat) (fB : List (Option Loc) -> Option (Fl × List (Option Loc))) (ds : List PyData) : Option PyData := (fB (initL n ds)).map retOf
noncomputable def fnA (n N : Nat) (fB : List (Option Loc) -> Option (Fl × List (Option Loc))) (ds : List PyData) : Option PyData := if ds.length = n then fnF N fB ds else none
theorem initL_get {n : Nat} {ds : List PyData} {i : Nat} {l : Loc} (h : (initL n ds)[i]? = some (some l)) : ∃ d, ds[i]? = some d ∧ l = .val d := by
  unfold initL at h
  by_cases q : i < ds.length
  · rw [List.getElem?_append_left (by simpa using q)] at h
    simp only [List.getElem?_map, Option.map_eq_some_iff, Option.some.injEq] at h
    obtain ⟨d, h1, rfl⟩ := h
    exact ⟨d, h1, rfl⟩
  · rw [List.getElem?_append_right (by simpa using q)] at h
    rw [List.getElem?_replicate] at h
    split at h <;> simp at h
theorem Room.deeper {A : Around} {k : Nat} (R : Room A (k + 1)) (env : Env) : Room (A.deeper env) k :=
  ⟨R.h, by have := R.d; show A.depth + 1 + k + 50 ≤ 1000; lia, by have := R.u; show A.units + 3 + 20 * k + 1000 ≤ 9900; lia, (by obtain ⟨fr, h⟩ := R.f; exact ⟨env :: fr, by show A.frames.map _ = _; rw [h]; rfl⟩)⟩
theorem len1 {α : Type} {P : List α -> Prop} (h : ∀ a0, P [a0]) : ∀ vs : List α, vs.length = 1 -> P vs
  | [a0], _ => h _
theorem len2 {α : Type} {P : List α -> Prop} (h : ∀ a0 a1, P [a0, a1]) : ∀ vs : List α, vs.length = 2 -> P vs
  | [a0, a1], _ => h _ _
theorem len3 {α : Type} {P : List α -> Prop} (h : ∀ a0 a1 a2, P [a0, a1, a2]) : ∀ vs : List α, vs.length = 3 -> P vs
  | [a0, a1, a2], _ => h _ _ _
theorem len4 {α : Type} {P : List α -> Prop} (h : ∀ a0 a1 a2 a3, P [a0, a1, a2, a3]) : ∀ vs : List α, vs.length = 4 -> P vs
  | [a0, a1, a2, a3], _ => h _ _ _ _
theorem len5 {α : Type} {P : List α -> Prop} (h : ∀ a0 a1 a2 a3 a4, P [a0, a1, a2, a3, a4]) : ∀ vs : List α, vs.length = 5 -> P vs
  | [a0, a1, a2, a3, a4], _ => h _ _ _ _ _
section
variable {W : Wd} {k : Nat} {sc : Scope} {cs : Option Scope}
noncomputable def callF (o : List PyData -> Option PyData) (f : St -> Option (List PyData × St)) (S : St) : Option (PyData × St) := (f S).bind fun p => (o p.1).map fun d => (d, p.2)
theorem callF_some {o f S d S'} (h : callF o f S = some (d, S')) : ∃ l, f S = some (l, S') ∧ o l = some d := by
  simp only [callF, Option.bind_eq_some_iff, Option.map_eq_some_iff, Prod.exists, Prod.mk.injEq] at h
  obtain ⟨l, S₁, h1, d', h2, rfl, rfl⟩ := h
  exact ⟨l, h1, h2⟩
theorem ev_call {x : Str} {np pos : Pos} {e : Expr} {es : List Expr} {f : St -> Option (List PyData × St)} {o : List PyData -> Option PyData} {a : Addr} {F : FnDef} (hr : resolve sc cs x = some .glob) (hg : (x, .ref a) ∈ W.globs) (hf : ∀ g, WOK W g -> FnAt g a F)
    (he : EvL W k sc cs (e :: es) f) (ho : OpN W k (fun vs => call (.ref a) vs) o) (hs : ∀ env, starEach (e :: es) env = (false, eval e env) :: starEach es env) : Ev W k sc cs (.Call (.Name x np) (e :: es) [] pos) (callF o f) := by
  intro S d S' h A cx vals cv g s Q E R e1 e2 I K
  obtain ⟨l, h1, h2⟩ := callF_some h
  subst e1 e2
  refine wpAny_Call_NameR (I.loadGlob hr hg ?_)
  obtain ⟨ob, pm, code, doc, f1, f2, _⟩ := hf g I.wok
  refine callWith_def f2 (he _ _ _ h1 pos A cx vals cv g s _ E R rfl rfl I fun vs g' s' st I' r => ⟨I'.le _ _ (st.gg _ _ f1), ?_⟩) (hs _)
  refine ho _ _ h2 A g' s' vs Q E R I'.wok I'.le r fun v g'' s'' G r' => ?_
  obtain ⟨st', I''⟩ := I'.grown G
  exact K _ _ _ (st.trans st') I'' r'
theorem ev_callB {x : Str} {np pos : Pos} {e : Expr} {es : List Expr} {f : St -> Option (List PyData × St)} {o : List PyData -> Option PyData} {id : String} (hr : resolve sc cs x = some .glob) (hg : (x, .builtin id) ∈ W.globs)
    (he : EvL W k sc cs (e :: es) f) (ho : OpN W 0 (fun vs => call (.builtin id) vs) o) (hs : ∀ env, starEach (e :: es) env = (false, eval e env) :: starEach es env) (hp : ∀ env pos, (backTo pos (starEach es env)).any (·.1) = false) : Ev W k sc cs (.Call (.Name x np) (e :: es) [] pos) (callF o f) := by
  intro S d S' h A cx vals cv g s Q E R e1 e2 I K
  obtain ⟨l, h1, h2⟩ := callF_some h
  subst e1 e2
  refine wpAny_Call_NameR (I.loadGlob hr hg ?_)
  refine PyProof.Rows.callWith_builtin1 (he _ _ _ h1 pos A cx vals cv g s _ E R rfl rfl I fun vs g' s' st I' r => ?_) (hs _) (hp _ _)
  refine ho _ _ h2 A g' s' vs Q E R.zero I'.wok I'.le r fun v g'' s'' G r' => ?_
  obtain ⟨st', I''⟩ := I'.grown G
  exact K _ _ _ (st.trans st') I'' r'
end
noncomputable def h0 : Heap := ⟨#[], {}⟩
theorem h0_get {a : Addr} : h0.get? a = none := rfl
noncomputable def allBut (h : Heap) (L : Addr) : List (Addr × Obj) := (List.range h.objs.size).filterMap fun a => if a = L then none else (h.get? a).map (a, ·)
theorem mem_allBut {h : Heap} {L a : Addr} {o : Obj} : (a, o) ∈ allBut h L ↔ a ≠ L ∧ h.get? a = some o := by
  unfold allBut
  rw [List.mem_filterMap]
  constructor
  · rintro ⟨b, _, hb⟩
    split at hb
    · cases hb
    · rename_i hne
      obtain ⟨o', h1, h2⟩ := Option.map_eq_some_iff.mp hb
      cases h2; exact ⟨hne, h1⟩
  · rintro ⟨h1, h2⟩
    exact ⟨a, List.mem_range.mpr (Heap.lt_size h2), by rw [if_neg h1, h2]; rfl⟩
theorem Inv.ne_locals {W : Wd} {cx : Cx} {S : St} {vals cv : Nat -> Value} {g h : Heap} (I : Inv W cx S vals cv g h) {a : Addr} (hf : (∃ x, cx.env.cells.lookup x = some a) ∨ (∃ i l, S.loc[i]? = some (some l) ∧ ownA l (vals i) = some a) ∨ (∃ cs cl, cx.cp = some (cs, cl, a))) : a ≠ cx.env.locals := by
  rcases hf with ⟨x, hx⟩ | ⟨i, l, hl, ha⟩ | ⟨cs, cl, hc⟩
  · exact (I.kC hx).ne I.kL (by decide)
  · exact (I.kO hl ha).ne I.kL (by decide)
  · exact (I.cmp cs cl _ hc).ne
theorem Inv.mut_ne {W : Wd} {cx : Cx} {S : St} {vals cv : Nat -> Value} {g h : Heap} (I : Inv W cx S vals cv g h) {a : Addr} (hm : cx.mt a) : a ≠ cx.env.locals := (I.kM hm).ne I.kL (by decide)
theorem Inv.change2 {W : Wd} {cx : Cx} {S : St} {vals cv : Nat -> Value} {g g' h h' : Heap} (I : Inv W cx S vals cv g h) (kg : Le g g') (kl : Le g' h')
    (hd : ∃ md, h'.Ns cx.env.locals md ∧ ∀ i x l, cx.sc.names[i]? = some (x, .local) -> S.loc[i]? = some (some l) -> md x = some (vals i))
    (kh : ∀ a, a ≠ cx.env.locals -> ∀ o, h.get? a = some o -> h'.get? a = some o) (kn : ∀ a, Fp cx S vals a -> g'.get? a = none) : Inv W cx S vals cv g' h' where
  le := kl
  wok := I.wok.le kg
  esc := I.esc
  nd := I.nd
  dict := hd
  gl := kn _ (.inl rfl)
  cell := fun i x hx => (by obtain ⟨c, v, h1, h2, h3⟩ := I.cell i x hx; exact ⟨c, v, h1, Heap.IsCell.of_get h2 (kh _ (I.ne_locals (.inl ⟨_, h1⟩))), h3⟩)
  gcell := fun x c hx => ⟨kn _ (.inr (.inl ⟨_, hx⟩)), (by obtain ⟨v, h⟩ := (I.gcell x c hx).2; exact ⟨v, Heap.IsCell.of_get h (kh _ (I.ne_locals (.inl ⟨_, hx⟩)))⟩)⟩
  cinj := I.cinj
  rep := fun i l hl => (I.rep i l hl).change kg fun a ha => ⟨kh a (I.ne_locals (.inr (.inl ⟨i, l, hl, ha⟩))), fun _ => kn a (.inr (.inr (.inl ⟨i, l, hl, ha⟩)))⟩
  sep := I.sep
  cmp := fun cs cl C hc =>
    let ⟨d, a, b, c, e, f, g⟩ := I.cmp cs cl C hc
    ⟨(by obtain ⟨md, p, q⟩ := d; exact ⟨md, Heap.Ns.of_get p (kh _ (I.ne_locals (.inr (.inr ⟨_, _, hc⟩)))), q⟩), kn _ (.inr (.inr (.inr (.inl ⟨_, _, hc⟩)))), b, fun i d h => (c i d h).le kg, e, f, g⟩
  mu := ⟨I.mu.1, fun a ha => ⟨kn a (.inr (.inr (.inr (.inr ha)))), (by obtain ⟨o, ws, e, d⟩ := (I.mu.2 a ha).2; exact ⟨o, ws, kh a (I.mut_ne ha) o e, d⟩)⟩⟩
theorem Inv.viaFr {W : Wd} {cx : Cx} {S : St} {vals cv : Nat -> Value} {g : Heap} {s : Shared} (I : Inv W cx S vals cv g s.heap) :
    ∃ md, Fr h0 cx.env.locals s.heap md ∧ News h0 cx.env.locals s.heap (allBut s.heap cx.env.locals) ∧
      ∀ (s' : Shared) (news : List (Addr × Obj)) (p : Addr -> Prop), Fr h0 cx.env.locals s'.heap md -> News h0 cx.env.locals s'.heap news -> (∀ q ∈ allBut s.heap cx.env.locals, q ∈ news) -> s'.os = s.os -> s'.gens = s.gens -> (∀ a, p a -> s.heap.get? a = none) ->
        Step (Fp cx S vals) g s (Fp cx S vals) (addH g s'.heap p) s' ∧ Inv W cx S vals cv (addH g s'.heap p) s'.heap := by
  obtain ⟨md, h1, h2⟩ := I.dict
  refine ⟨md, ⟨h1, (fun b o e => by rw [h0_get] at e; cases e), Nat.zero_le _⟩, fun q hq => ⟨(mem_allBut.mp hq).2, (mem_allBut.mp hq).1, h0_get⟩, fun s' news p F N hN os gens hp => ?_⟩
  have keep : ∀ b o, b ≠ cx.env.locals -> s.heap.get? b = some o -> s'.heap.get? b = some o := fun b o hb e => (N _ (hN _ (mem_allBut.mpr ⟨hb, e⟩))).1
  have gle : Le g s'.heap := fun b o e => keep b o (by rintro rfl; rw [I.gl] at e; cases e) (I.le _ _ e)
  have none' : ∀ a, Fp cx S vals a -> (addH g s'.heap p).get? a = none := fun a hf => by
    obtain ⟨⟨o, e⟩, n⟩ := I.there hf
    exact addH_none n (not_new hp e)
  obtain ⟨oL, _, _, hL, _⟩ := F.ns
  refine ⟨⟨le_addH gle, fun b o hb e => keep b o (fun q => hb (.inl q)) e, fun a o ha hf e => addH_none e (not_new hp ha), fun _ => .inl, fun a e => ?_, os, fun q => by rw [gens]; exact q⟩, I.change2 (le_addH gle) addH_le ⟨md, F.ns, h2⟩ (fun a ha o e => keep a o ha e) none'⟩
  cases q : s.heap.get? a with
  | none => rfl
  | some o =>
    by_cases hb : a = cx.env.locals
    · subst hb; rw [hL] at e; cases e
    · rw [keep a o hb q] at e; cases e
noncomputable def OpI (W : Wd) (k : Nat) (t : List Value -> Sem Value) (o : List PyData -> Option PyData) : Prop :=
  ∀ ds d, o ds = some d -> ∀ (A : Around) cx S vals cv g s vs (Q : Value -> Shared -> Prop) (E : Value -> Shared -> Prop), Room A k -> Inv W cx S vals cv g s.heap -> RDs g vs ds ->
    (∀ v g' s', Step (Fp cx S vals) g s (Fp cx S vals) g' s' -> Inv W cx S vals cv g' s'.heap -> RD g' v d -> Q v s') -> wpAny W.M A (t vs) Q E s
theorem OpN.I {W : Wd} {k : Nat} {t : List Value -> Sem Value} {o} (h : OpN W k t o) : OpI W k t o := fun ds d e A cx S vals cv g s vs Q E R I r K =>
  h ds d e A g s vs Q E R I.wok I.le r fun v g' s' G r' => K v g' s' (I.grown G).1 (I.grown G).2 r'
section
variable {W : Wd}
noncomputable def lenD : List PyData -> Option PyData
  | [.list l] => if l.length ≤ 1000000 then some (.int l.length) else none
  | [.str x] => if x.length ≤ 1000000 then some (.int x.length) else none
  | _ => none
theorem opN_len : OpN W 0 (fun vs => call (.builtin "len") vs) lenD := by
  intro ds d h A g s vs Q E R ok le r K
  unfold lenD at h
  split at h
  · rename_i l
    rw [Option.ite_none_right_eq_some] at h
    obtain ⟨hl, h⟩ := h
    cases h
    cases vs with
    | nil => have := r.len; simp at this
    | cons v vs =>
      rw [RDs.nil_iff r.uncons.2]
      obtain ⟨a, vs', n, rfl, h1, h4⟩ := r.uncons.1.of_list
      have e := h4.len
      rw [Array.length_toList] at e
      refine PyProof.Rows.len_list (isList_of (le _ _ h1)) (by omega) ?_
      rw [e]
      exact K _ _ _ (Grow.tok le _) (.int ..)
  · rename_i x
    rw [Option.ite_none_right_eq_some] at h
    obtain ⟨hl, h⟩ := h
    cases h
    cases vs with
    | nil => have := r.len; simp at this
    | cons v vs =>
      rw [RDs.nil_iff r.uncons.2]
      obtain ⟨t, rfl⟩ := r.uncons.1.of_str
      exact len_str (by lia) (K _ _ _ (Grow.tok le _) (.int ..))
  · cases h
noncomputable def intsOf : List PyData -> Option (List Int)
  | [] => some []
  | .int i :: r => (intsOf r).map (i :: ·)
  | _ => none
theorem ints_are {g : Heap} : ∀ {l : List PyData} {ns : List Int} {vs : List Value}, intsOf l = some ns -> RDs g vs l -> IntsAre vs ns
  | [], ns, vs, h, r => by cases h; rw [r.nil_iff]; exact .nil
  | .int i :: l, ns, vs, h, r => by
    simp only [intsOf, Option.map_eq_some_iff] at h
    obtain ⟨ys, hy, rfl⟩ := h
    cases r with
    | cons a b => obtain ⟨t, rfl⟩ := a.of_int; exact .cons _ _ (ints_are hy b)
theorem ints_items : ∀ {vs : List Value} {ns : List Int}, IntsAre vs ns -> ∃ xs : List (Int × Tok), vs = xs.map (fun p => Value.int p.1 p.2) ∧ xs.map (·.1) = ns
  | _, _, .nil => ⟨[], rfl, rfl⟩
  | _, _, .cons n t r => (by obtain ⟨xs, a, b⟩ := ints_items r; exact ⟨(n, t) :: xs, by rw [List.map_cons, <- a], by rw [List.map_cons, <- b]⟩)
theorem preSum_take (xs : List (Int × Tok)) : ∀ k, preSum (numAt xs.toArray) k = ((xs.map (·.1)).take k).sum
  | 0 => rfl
  | k + 1 => by
    show preSum (numAt xs.toArray) k + numAt xs.toArray k = _
    rw [preSum_take xs k, List.take_add_one, List.sum_append]
    congr 1
    unfold numAt
    simp only [List.getElem?_toArray, List.getElem?_map]
    cases xs[k]? <;> simp
theorem sum_bound : ∀ (ns : List Int), (∀ i ∈ ns, 0 ≤ i ∧ i ≤ 1000) -> 0 ≤ ns.sum ∧ ns.sum ≤ 1000 * ns.length
  | [], _ => by simp
  | i :: r, h => by
    have h1 := h i (.head _)
    have h2 := sum_bound r fun j hj => h j (.tail _ hj)
    simp only [List.sum_cons, List.length_cons]
    omega
noncomputable def sumD : List PyData -> Option PyData
  | [.list l] => (intsOf l).bind fun ns => if ns.all (fun i => decide (0 ≤ i ∧ i ≤ 1000)) && decide (ns.length ≤ 1000) then some (.int ns.sum) else none
  | _ => none
theorem opN_sum : OpN W 0 (fun vs => call (.builtin "sum") vs) sumD := by
  intro ds d h A g s vs Q E R ok le r K
  unfold sumD at h
  split at h
  · simp only [Option.bind_eq_some_iff, Option.ite_none_right_eq_some, Bool.and_eq_true, List.all_eq_true, decide_eq_true_eq, Option.some.injEq] at h
    obtain ⟨ns, hn, ⟨hb, hl⟩, rfl⟩ := h
    obtain ⟨v, rfl, r₁⟩ := r.one
    obtain ⟨a, vs', n, rfl, h1, h4⟩ := r₁.of_list
    obtain ⟨xs, e, e'⟩ := ints_items (ints_are hn h4)
    have bd : ∀ k, InLong (((xs.map (·.1)).take k).sum) := fun k => by
      rw [e']
      have := sum_bound (ns.take k) fun i hi => hb i (List.mem_of_mem_take hi)
      have l2 : (ns.take k).length ≤ ns.length := by rw [List.length_take]; lia
      unfold InLong
      lia
    have il : s.heap.IsList a (intItems xs.toArray) := by
      have : intItems xs.toArray = vs' := by
        obtain ⟨vs'⟩ := vs'
        simp only at e
        subst e
        simp [intItems]
      rw [this]; exact isList_of (le _ _ h1)
    refine sum_intList R.h il (fun j hj => ⟨?_, ?_⟩) fun h' tk t' hk => ?_
    · have hx : xs[j]? = some xs[j] := List.getElem?_eq_getElem (by simpa using hj)
      have := hb xs[j].1 (by rw [<- e']; exact List.mem_map.mpr ⟨_, List.getElem_mem _, rfl⟩)
      unfold numAt InLong
      simp only [List.getElem?_toArray, hx, Option.map_some, Option.getD_some]
      omega
    · rw [preSum_take]; exact bd _
    · rw [preSum_take]
      have : ((xs.map (·.1)).take xs.toArray.size).sum = ns.sum := by rw [e']; congr 1; rw [List.take_of_length_le]; rw [<- e']; simp
      rw [this]
      exact K _ _ _ (Grow.heap le hk rfl id) (.int ..)
  · cases h
noncomputable def maxD : List PyData -> Option PyData
  | [.list l] => (intsOf l).bind fun ns => ns.max?.map .int
  | _ => none
theorem opI_max : OpI W 0 (fun vs => call (.builtin "max") vs) maxD := by
  intro ds d h A cx S vals cv g s vs Q E R I r K
  unfold maxD at h
  split at h
  · simp only [Option.bind_eq_some_iff, Option.map_eq_some_iff] at h
    obtain ⟨ns, hn, m, hm, rfl⟩ := h
    obtain ⟨v, rfl, r₁⟩ := r.one
    obtain ⟨a, vs', n, rfl, h1, h4⟩ := r₁.of_list
    obtain ⟨md, F, N, back⟩ := I.viaFr
    obtain ⟨m1, m2⟩ := List.max?_eq_some_iff.mp hm
    have hne : 0 < ns.length := List.length_pos_of_mem m1
    refine max_list_N (vs := vs'.toList) (ns := ns) R.h F N (isList_of (I.le _ _ h1)) (ints_are hn h4) hne fun h' M t tk F' N' a1 a2 => ?_
    obtain ⟨st, I'⟩ := back { s with heap := h', toks := tk } _ (fun _ => False) F' N' (fun q hq => hq) rfl rfl fun _ q => q.elim
    have : M = m := Int.le_antisymm (m2 _ a1) (a2 _ m1)
    subst this
    exact K _ _ _ st I' (.int ..)
  · cases h
noncomputable def isStrD : PyData -> Bool
  | .str _ => true
  | _ => false
noncomputable def isLstD : PyData -> Bool
  | .list _ => true
  | _ => false
end
section
variable {W : Wd} {k : Nat} {sc : Scope} {cs : Option Scope}
noncomputable def methF (p : PyData -> Bool) (o : List PyData -> Option PyData) (f : St -> Option (PyData × St)) (g : St -> Option (List PyData × St)) (S : St) : Option (PyData × St) :=
  (f S).bind fun a => if p a.1 then (g a.2).bind fun b => (o (a.1 :: b.1)).map fun d => (d, b.2) else none
theorem ev_meth {ob : Expr} {name : Str} {apos pos : Pos} {e : Expr} {es : List Expr} {T id : String} {p : PyData -> Bool} {f : St -> Option (PyData × St)} {g : St -> Option (List PyData × St)} {o : List PyData -> Option PyData}
    (hbase : ∀ env, attributeBase ob name env (eval ob env) = eval ob env)
    (hfew : ∀ env, ((backTo pos (starEach (e :: es) env)).all (fun x => !x.1) && (backToKw pos (keywordEach [] env)).all (fun x => x.1.isSome) && decide ((e :: es).length + ([] : List Keyword).length + (if ([] : List Keyword).isEmpty then 0 else 1) < 30)) = true)
    (hline : (apos.endLine == pos.line) = true) (hs : ∀ env, starEach (e :: es) env = (false, eval e env) :: starEach es env) (hp : ∀ env pos, (backTo pos (starEach es env)).any (·.1) = false)
    (pa : PlainAttrs T) (slot : Slot T name id) (hty : typeOf (.builtin id) = pure (.type "method_descriptor"))
    (hT : ∀ g s v d, p d = true -> Le g s.heap -> RD g v d -> Shared.TypeIs s v T ∧ ∀ a, v = .ref a -> ∃ ob, s.heap.get? a = some ob ∧ ob.dict = none)
    (ho : Ev W k sc cs ob f) (he : EvL W k sc cs (e :: es) g) (hop : OpI W 0 (fun vs => call (.builtin id) vs) o) : Ev W k sc cs (.Call (.Attribute ob name apos) (e :: es) [] pos) (methF p o f g) := by
  intro S d S' h A cx vals cv gh s Q E R e1 e2 I K
  simp only [methF, Option.bind_eq_some_iff, Option.map_eq_some_iff, Option.ite_none_right_eq_some, Prod.exists, Prod.mk.injEq] at h
  obtain ⟨a, S₁, h1, hpa, l, S₂, h2, d', h3, rfl, rfl⟩ := h
  refine wpAny_Call_method (hbase _) (hfew _) hline pa slot hty (ho _ _ _ h1 A cx vals cv gh s _ E R e1 e2 I fun v g₁ s₁ st₁ I₁ r₁ => ?_)
  obtain ⟨t1, t2⟩ := hT g₁ s₁ v a hpa I₁.le r₁
  refine ⟨t1, t2, ?_⟩
  refine PySem.Calls.callWith_builtin (by rw [hs]; show (false || (backTo pos (starEach es cx.ev)).any (·.1)) = false; rw [hp]; rfl) ?_
  rw [hs]
  refine PySem.Calls.evalArgs_plain ?_
  show wpAny _ _ (spliced (backTo pos ((false, eval e cx.ev) :: starEach es cx.ev))) _ _ _
  rw [<- hs]
  refine he _ _ _ h2 pos A cx vals cv g₁ s₁ _ E R e1 e2 I₁ fun vs g₂ s₂ st₂ I₂ r₂ => ?_
  exact hop _ _ h3 A cx _ vals cv g₂ s₂ (v :: vs) Q E R.zero I₂ (.cons (RD.le st₂.gg r₁) r₂) fun u g₃ s₃ st₃ I₃ r₃ => K _ _ _ ((st₁.trans st₂).trans st₃) I₃ r₃
theorem ty_str : ∀ (g : Heap) (s : Shared) v d, isStrD d = true -> Le g s.heap -> RD g v d -> Shared.TypeIs s v "str" ∧ ∀ a, v = .ref a -> ∃ ob, s.heap.get? a = some ob ∧ ob.dict = none := by
  intro g s v d h le r
  cases d <;> simp [isStrD] at h
  obtain ⟨t, rfl⟩ := r.of_str
  exact ⟨rfl, fun a e => by cases e⟩
theorem ty_list : ∀ (g : Heap) (s : Shared) v d, isLstD d = true -> Le g s.heap -> RD g v d -> Shared.TypeIs s v "list" ∧ ∀ a, v = .ref a -> ∃ ob, s.heap.get? a = some ob ∧ ob.dict = none := by
  intro g s v d h le r
  cases d <;> simp [isLstD] at h
  obtain ⟨a, vs, n, rfl, h1, _⟩ := r.of_list
  exact ⟨⟨_, le _ _ h1, rfl⟩, fun a e => by cases e; exact ⟨_, le _ _ h1, rfl⟩⟩
theorem strs_are {g : Heap} : ∀ {l : List PyData} {xs : List Str} {vs : List Value}, isStrs l = some xs -> RDs g vs l -> StrsAre vs xs
  | [], xs, vs, h, r => by cases h; rw [r.nil_iff]; exact .nil
  | .str x :: l, xs, vs, h, r => by
    simp only [isStrs, Option.map_eq_some_iff] at h
    obtain ⟨ys, hy, rfl⟩ := h
    cases r with
    | cons a b => obtain ⟨t, rfl⟩ := a.of_str; exact .cons _ _ (strs_are hy b)
noncomputable def joinD : List PyData -> Option PyData
  | [.str x, .list l] => (isStrs l).bind fun xs => if x.length = 0 ∧ (xs.map (·.length)).sum ≤ 16777216 then some (.str ⟨(xs.map fun y => y.cps.toList).flatten.toArray⟩) else none
  | _ => none
theorem join_nil {x : Str} (hx : x.length = 0) (xs : List Str) : Txt.join x xs = ⟨(xs.map fun y => y.cps.toList).flatten.toArray⟩ := by
  have e : x.cps = #[] := Array.eq_empty_of_size_eq_zero hx
  have key : ∀ (l : List Str) (a : Array Nat), l.foldl (fun acc p => acc ++ x.cps ++ p.cps) a = (a.toList ++ (l.map fun y => y.cps.toList).flatten).toArray := by
    intro l
    induction l with
    | nil => intro a; simp
    | cons y l ih => intro a; rw [List.foldl_cons, ih, e]; simp
  unfold Txt.join glued
  cases xs with
  | nil => simp [Str.empty]
  | cons y l => rw [key]; simp
theorem opI_join : OpI W 0 (fun vs => call (.builtin "str.join") vs) joinD := by
  refine OpN.I fun ds d h A g s vs Q E R ok le r K => ?_
  unfold joinD at h
  split at h
  · simp only [Option.bind_eq_some_iff, Option.ite_none_right_eq_some, Option.some.injEq] at h
    obtain ⟨xs, hn, ⟨hb, hl⟩, rfl⟩ := h
    obtain ⟨v, u, rfl, r₁, r₂⟩ := r.two
    obtain ⟨t, rfl⟩ := r₁.of_str
    obtain ⟨a, vs', n, rfl, h1, h4⟩ := r₂.of_list
    refine join_list (isList_of (le _ _ h1)) (strs_are hn h4) (by rw [hb]; omega) fun t' tk => ?_
    rw [join_nil hb]
    exact K _ _ _ (Grow.tok le _) (.str ..)
  · cases h
noncomputable def lstripD : List PyData -> Option PyData
  | [.str x, .str y] => if x.length ≤ 1000000 then some (.str (Txt.lstripChars x y)) else none
  | _ => none
theorem opI_lstrip : OpI W 0 (fun vs => call (.builtin "str.lstrip") vs) lstripD := by
  refine OpN.I fun ds d h A g s vs Q E R ok le r K => ?_
  unfold lstripD at h
  split at h
  · rw [Option.ite_none_right_eq_some] at h
    obtain ⟨hl, h⟩ := h
    cases h
    obtain ⟨v, u, rfl, r₁, r₂⟩ := r.two
    obtain ⟨t, rfl⟩ := r₁.of_str
    obtain ⟨t', rfl⟩ := r₂.of_str
    exact SC.lstripChars (fun t' tk => K _ _ _ (Grow.tok le _) (.str ..)) (by have : sizeLine = 16777216 := rfl; lia)
  · cases h
noncomputable def splitD : List PyData -> Option PyData
  | [.str x, .str y] => if y.length ≠ 0 ∧ x.length ≤ 1000000 then some (.list ((Txt.split x y).map .str)) else none
  | _ => none
theorem strVals_rd {g : Heap} : ∀ (l : List (Str × Tok)), RDs g (strValues l) ((l.map (·.1)).map .str)
  | [] => .nil
  | p :: l => .cons (.str ..) (strVals_rd l)
theorem opI_split : OpI W 0 (fun vs => call (.builtin "str.split") vs) splitD := by
  intro ds d h A cx S vals cv g s vs Q E R I r K
  unfold splitD at h
  split at h
  · rw [Option.ite_none_right_eq_some] at h
    obtain ⟨⟨hy, hl⟩, h⟩ := h
    cases h
    obtain ⟨v, u, rfl, r₁, r₂⟩ := r.two
    obtain ⟨t, rfl⟩ := r₁.of_str
    obtain ⟨t', rfl⟩ := r₂.of_str
    obtain ⟨md, F, N, back⟩ := I.viaFr
    refine splitN1 F N (by simpa using hy) (fun l h' k e F' N' => ?_) (by have : sizeLine = 16777216 := rfl; lia)
    obtain ⟨st, I'⟩ := back { s with heap := h', toks := k } _ (· = s.heap.objs.size) F' N' (fun q hq => .tail _ hq) rfl rfl fun a q => q ▸ size_none
    refine K _ _ _ st I' ?_
    rw [<- e]
    exact .list (vs := (strValues l).toArray) (n := 0) (addH_get.mpr ⟨.inr rfl, (N' _ (.head _)).1⟩) (strVals_rd l)
  · cases h
noncomputable def indexD : List PyData -> Option PyData
  | [.list l, .str x] => (isStrs l).bind fun xs => if x ∈ xs ∧ xs.length ≤ 1000000 then some (.int (xs.idxOf x)) else none
  | _ => none
end
theorem idxOf_ne {x : Str} : ∀ {xs : List Str} {j : Nat}, j < xs.idxOf x -> ∀ h : j < xs.length, (xs[j] == x) = false
  | [], _, h, _ => by simp at h
  | y :: ys, j, h, hl => by
    rw [List.idxOf_cons] at h
    by_cases q : (y == x) = true
    · rw [q] at h; simp at h
    · have q' : (y == x) = false := by simpa using q
      rw [q'] at h
      cases j with
      | zero => simpa using q
      | succ j => exact idxOf_ne (Nat.lt_of_succ_lt_succ h) (Nat.lt_of_succ_lt_succ hl)
section
variable {W : Wd}
theorem opI_index : OpI W 0 (fun vs => call (.builtin "list.index") vs) indexD := by
  refine OpN.I fun ds d h A g s vs Q E R ok le r K => ?_
  unfold indexD at h
  split at h
  · rename_i l x
    simp only [Option.bind_eq_some_iff, Option.ite_none_right_eq_some, Option.some.injEq] at h
    obtain ⟨xs, hn, ⟨hb, hl⟩, rfl⟩ := h
    obtain ⟨v, u, rfl, r₁, r₂⟩ := r.two
    obtain ⟨t, rfl⟩ := r₂.of_str
    obtain ⟨a, vs', n, rfl, h1, h4⟩ := r₁.of_list
    obtain ⟨ts, e, ht⟩ := strs_vals hn h4
    have hj : xs.idxOf x < xs.length := List.idxOf_lt_length_iff.mpr hb
    have sz : vs'.size = xs.length := by rw [<- Array.length_toList, e]; simp [ht]
    have at_ : ∀ j (hj : j < vs'.size), strEq x vs'[j] = (xs[j]'(by lia) == x) := fun j hj => by
      have : vs'[j] = vs'.toList[j]'(by simpa using hj) := by simp
      rw [this]
      simp only [e, List.getElem_zipWith, strEq]
    refine call_meets PySem.F.slot_list_index ⟨_, le _ _ h1, rfl⟩ PySem.F.entry_list_index (PySem.F.args_list_index_2 _ _)
      (MeetsSeq.list_index a vs' n (.str x t) (strEq x) (fun y hy => ?_) (xs.idxOf x) (by lia) (by lia) ?_ ?_) ⟨le _ _ h1, K _ _ _ (Grow.tok le _) (.int ..)⟩
    · rw [<- Array.mem_toList_iff, e] at hy
      obtain ⟨i, hi, rfl⟩ := List.getElem_of_mem hy
      simp only [List.getElem_zipWith, strEq]
      exact eqGives_str _ _ _ _
    · rw [at_ _ (by lia)]; simp
    · intro m hm hlt
      rw [at_ _ hm]
      exact idxOf_ne hlt _
  · cases h
end
theorem fp_set {cx : Cx} {S : List (Option Loc)} {cm : List (Option PyData)} {vals : Nat -> Value} {i : Nat} {l : Loc} {v : Value} {a : Addr} (h : Fp cx ⟨setL S i l, cm⟩ (upd vals i v) a) : Fp cx ⟨S, cm⟩ vals a ∨ ownA l v = some a := by
  rcases h with h | h | ⟨j, l', hj, ha⟩ | h
  · exact .inl (.inl h)
  · exact .inl (.inr (.inl h))
  · rcases setL_get hj with ⟨rfl, rfl, _⟩ | ⟨hne, hj⟩
    · simp only [upd, if_true] at ha; exact .inr ha
    · simp only [upd, if_neg hne] at ha; exact .inl (.inr (.inr (.inl ⟨j, l', hj, ha⟩)))
  · exact .inl (.inr (.inr (.inr h)))
theorem names_ne {l : List (Str × NameKind)} (nd : (l.map (·.1)).Nodup) {i j : Nat} {x y : Str} {k k' : NameKind} (h1 : l[i]? = some (x, k)) (h2 : l[j]? = some (y, k')) (hne : j ≠ i) : y ≠ x := by
  rintro rfl
  obtain ⟨hi, e1⟩ := List.getElem?_eq_some_iff.mp h1
  obtain ⟨hj, e2⟩ := List.getElem?_eq_some_iff.mp h2
  have P := List.pairwise_iff_getElem.mp nd
  rcases Nat.lt_or_gt_of_ne hne with q | q
  · exact P j i (by simpa using hj) (by simpa using hi) q (by simp [e1, e2])
  · exact P i j (by simpa using hi) (by simpa using hj) q (by simp [e1, e2])
theorem Inv.drop {W : Wd} {cx : Cx} {S : List (Option Loc)} {cm : List (Option PyData)} {vals cv : Nat -> Value} {g h : Heap} (I : Inv W cx ⟨S, cm⟩ vals cv g h) (i : Nat) (v : Value) : Inv W cx ⟨S.set i none, cm⟩ (upd vals i v) cv g h := by
  have get : ∀ {j l}, (S.set i none)[j]? = some (some l) -> j ≠ i ∧ S[j]? = some (some l) := fun {j l} h => by
    by_cases q : i = j
    · subst q
      rw [List.getElem?_set] at h
      simp only [if_true] at h
      split at h <;> cases h
    · rw [List.getElem?_set_ne q] at h; exact ⟨Ne.symm q, h⟩
  have ev : ∀ {j}, j ≠ i -> upd vals i v j = vals j := fun q => if_neg q
  exact { le := I.le, wok := I.wok, esc := I.esc, nd := I.nd, gl := I.gl, gcell := I.gcell, cinj := I.cinj, mu := I.mu
          dict := (by obtain ⟨md, a, b⟩ := I.dict; exact ⟨md, a, fun j x l hx hj => (b j x l hx (get hj).2).trans (by rw [ev (get hj).1])⟩)
          cell := fun j x hx => (by obtain ⟨c, v, a, b, d⟩ := I.cell j x hx; exact ⟨c, v, a, b, fun l hj => (d l (get hj).2).trans (by rw [ev (get hj).1])⟩)
          rep := fun j l hj => by rw [ev (get hj).1]; exact I.rep j l (get hj).2
          sep := fun j k lj lk a hj hk e1 e2 => I.sep j k lj lk a (get hj).2 (get hk).2 (by rw [ev (get hj).1] at e1; exact e1) (by rw [ev (get hk).1] at e2; exact e2)
          cmp := fun cs cl C hc => let ⟨a, b, c, d, e, f, g⟩ := I.cmp cs cl C hc; ⟨a, b, c, d, e, f, g⟩ }
theorem Inv.chC {W : Wd} {cx : Cx} {S : St} {vals cv : Nat -> Value} {g h h' : Heap} (I : Inv W cx S vals cv g h) {i : Nat} {x : Str} {c : Addr} {v : Value} (hx : cx.sc.names[i]? = some (x, .cell)) (hS : ∀ l, S.loc[i]? ≠ some (some l)) (hc : cx.env.cells.lookup x = some c) (hn : h'.IsCell c (some v))
    (kh : ∀ a, a ≠ c -> ∀ o, h.get? a = some o -> h'.get? a = some o) : Inv W cx S vals cv g h' where
  le := fun a o e => kh a (fun q => by rw [q, (I.gcell x c hc).1] at e; cases e) o (I.le a o e)
  wok := I.wok
  esc := I.esc
  nd := I.nd
  dict := (by obtain ⟨md, a, b⟩ := I.dict; exact ⟨md, Heap.Ns.of_get a (kh _ (I.kL.ne (I.kC hc) (by decide))), b⟩)
  gl := I.gl
  cell := fun j y hy => let ⟨c', v', h1, h2, h3⟩ := I.cell j y hy
    if q : c' = c then ⟨c, some v, q ▸ h1, hn, fun l hl => absurd hl (by
      have e : x = y := I.cinj x y c hc (q ▸ h1)
      rw [show j = i from Classical.byContradiction fun w => names_ne I.nd hx hy w e.symm]
      exact hS l)⟩
    else ⟨c', v', h1, Heap.IsCell.of_get h2 (kh _ q), h3⟩
  gcell := fun y c' hy => ⟨(I.gcell y c' hy).1, if q : c' = c then ⟨_, q ▸ hn⟩ else (by obtain ⟨v, h⟩ := (I.gcell y c' hy).2; exact ⟨v, Heap.IsCell.of_get h (kh _ q)⟩)⟩
  cinj := I.cinj
  rep := fun j l hl => (I.rep j l hl).change Le.refl fun a ha => ⟨kh a ((I.kO hl ha).ne (I.kC hc) (by decide)), id⟩
  sep := I.sep
  cmp := fun cs cl C hp =>
    let ⟨d, a, b, c, e, f, g⟩ := I.cmp cs cl C hp
    ⟨(by obtain ⟨md, p, q⟩ := d; exact ⟨md, Heap.Ns.of_get p (kh _ ((I.kP hp).ne (I.kC hc) (by decide))), q⟩), a, b, c, e, f, g⟩
  mu := ⟨I.mu.1, fun a ha => ⟨(I.mu.2 a ha).1, (by obtain ⟨o, ws, e, d⟩ := (I.mu.2 a ha).2; exact ⟨o, ws, kh a ((I.kM ha).ne (I.kC hc) (by decide)) o e, d⟩)⟩⟩
theorem setL_drop {S : List (Option Loc)} {i : Nat} {l : Loc} : setL (S.set i none) i l = setL S i l := List.set_set ..
theorem drop_get {S : List (Option Loc)} {i : Nat} (l : Loc) : (S.set i none)[i]? ≠ some (some l) := by
  rw [List.getElem?_set]
  simp only [if_true]
  split <;> exact nofun
theorem drop_ne {S : List (Option Loc)} {i j : Nat} {l : Loc} (h : (S.set i none)[j]? = some (some l)) : j ≠ i := fun q => drop_get l (q ▸ h)
theorem drop_sub {S : List (Option Loc)} {i j : Nat} {l : Loc} (h : (S.set i none)[j]? = some (some l)) : S[j]? = some (some l) := by
  rw [List.getElem?_set_ne (Ne.symm (drop_ne h))] at h; exact h
theorem Inv.stored {W : Wd} {cx : Cx} {S : List (Option Loc)} {cm : List (Option PyData)} {vals cv : Nat -> Value} {g g₀ : Heap} {s s₀ s' : Shared} {f₀ : Addr -> Prop} (I : Inv W cx ⟨S, cm⟩ vals cv g s.heap) (st : Step f₀ g₀ s₀ (Fp cx ⟨S, cm⟩ vals) g s) {i : Nat} {l : Loc} {v : Value}
    (hv : LocRep W g s.heap l v) (hown : ∀ a, ownA l v = some a -> s₀.heap.get? a = none ∧ ¬ Fp cx ⟨S, cm⟩ vals a) {b : Addr} {kk : Nat} (hb : Fp cx ⟨S, cm⟩ vals b) (kb : KAt s.heap b kk) (k2 : kk ≠ 2) (keep : ∀ a, a ≠ b -> ∀ o, s.heap.get? a = some o -> s'.heap.get? a = some o) (hn : ∃ o, s'.heap.get? b = some o) (os : s'.os = s.os) (gens : s'.gens = s.gens)
    (I₁ : Inv W cx ⟨S.set i none, cm⟩ (upd vals i v) cv g s'.heap) (hd : ∀ x, cx.sc.names[i]? = some (x, .local) -> ∀ md, s'.heap.Ns cx.env.locals md -> md x = some v) (hc : ∀ x, cx.sc.names[i]? = some (x, .cell) -> ∀ c u, cx.env.cells.lookup x = some c -> s'.heap.IsCell c u -> u = some v) :
    Step f₀ g₀ s₀ (Fp cx ⟨setL S i l, cm⟩ (upd vals i v)) g s' ∧ Inv W cx ⟨setL S i l, cm⟩ (upd vals i v) cv g s'.heap := by
  have eu : upd vals i v i = v := if_pos rfl
  refine ⟨⟨st.gg, fun a o ha e => keep a (fun q => st.off e ha (q ▸ hb)) o (st.hh a o ha e), st.gn, fun a ha => (fp_set ha).elim (st.ff a) fun h => .inr (hown a h).1, fun a e => st.lv a ?_, os.trans st.os, fun q => by rw [gens]; exact st.gens q⟩, ?_⟩
  · cases q : s.heap.get? a with
    | none => rfl
    | some o =>
      by_cases hab : a = b
      · obtain ⟨o', e'⟩ := hn
        rw [hab, e'] at e; cases e
      · rw [keep a hab o q] at e; cases e
  · have I₂ := I₁.put (i := i) (l := l) (fun x hx md hm => by rw [eu]; exact hd x hx md hm) (fun x hx c u h1 h2 => by rw [eu]; exact hc x hx c u h1 h2)
      (by rw [eu]; exact hv.change Le.refl fun a ha => ⟨keep a ((hv.kO ha).1.ne kb k2.symm), id⟩)
      (fun c hc j lj hj hl q => by
        rw [eu] at hc
        refine (hown c hc).2 (.inr (.inr (.inl ⟨j, lj, drop_sub hl, ?_⟩)))
        rw [show upd vals i v j = vals j from if_neg hj] at q
        exact q)
    rw [setL_drop] at I₂
    exact I₂
theorem Inv.store3 {W : Wd} {cx : Cx} {S : List (Option Loc)} {cm : List (Option PyData)} {vals cv : Nat -> Value} {g g₀ : Heap} {s s₀ : Shared} {f₀ : Addr -> Prop} {A : Around} {E : Value -> Shared -> Prop} {Q : Unit -> Shared -> Prop}
    (I : Inv W cx ⟨S, cm⟩ vals cv g s.heap) (st : Step f₀ g₀ s₀ (Fp cx ⟨S, cm⟩ vals) g s) {i : Nat} {x : Str} (hcp : cx.cp = none) (hr : resolve cx.sc none x = some (.loc i)) (l : Loc) (v : Value) (hv : LocRep W g s.heap l v)
    (hown : ∀ a, ownA l v = some a -> s₀.heap.get? a = none ∧ ¬ Fp cx ⟨S, cm⟩ vals a)
    (K : ∀ s', Step f₀ g₀ s₀ (Fp cx ⟨setL S i l, cm⟩ (upd vals i v)) g s' -> Inv W cx ⟨setL S i l, cm⟩ (upd vals i v) cv g s'.heap -> (∀ b o, ¬ Fp cx ⟨S, cm⟩ vals b -> s.heap.get? b = some o -> s'.heap.get? b = some o) -> Q () s') : wpAny W.M A (storeName cx.env x v) Q E s := by
  have e1 : cx.env.scope = cx.sc := I.esc.1
  have e2 : cx.sc.kind = .function := I.esc.2.1
  obtain ⟨_, j, k, hf, q⟩ := resolve_none hr
  obtain ⟨h2, h3⟩ := find1_at hf
  rcases q with ⟨q, hk⟩ | ⟨q, _⟩
  · obtain rfl := NR.loc.inj q
    have kd : cx.env.kindOf x = some k := by unfold Env.kindOf; rw [e1]; exact h3
    rcases hk with rfl | rfl
    · obtain ⟨md, hm, _⟩ := I.dict
      refine wpAny_storeName_local kd hm (fun h' hn hs => ?_) (by rw [e1, e2]; rfl)
      have keep : ∀ a, a ≠ cx.env.locals -> ∀ o, s.heap.get? a = some o -> h'.get? a = some o := fun a hne o e => hs.extBut a o hne e
      have I₀ := I.drop i v
      have I₁ : Inv W cx ⟨S.set i none, cm⟩ (upd vals i v) cv g h' := I₀.change2 Le.refl (fun a o e => keep a (fun q => by rw [q, I.gl] at e; cases e) o (I.le a o e))
        ⟨_, hn, fun j y l' hy hj => (if_neg (names_ne I.nd h2 hy (drop_ne hj))).trans (I₀.dict_at hy hj hm)⟩ keep fun a ha => (I₀.there ha).2
      have P := I.stored st hv hown (s' := { s with heap := h', toks := s.toks + 1 }) (.inl rfl) I.kL (by decide) keep (KAt.ns hn).there rfl rfl I₁
        (fun y hy md' hm' => by rw [Heap.Ns.eq_nsMap hm', <- Heap.Ns.eq_nsMap hn]; rw [h2] at hy; cases hy; exact if_pos rfl) (fun y hy => by rw [h2] at hy; cases hy)
      exact K _ P.1 P.2 fun b o hb e => keep b (fun q => hb (.inl q)) o e
    · obtain ⟨c, v₀, c1, c2, _⟩ := I.cell i x h2
      refine wpAny_storeName_cell (by rw [e1]; exact e2) kd c1 c2 fun h' hn hs => ?_
      have keep : ∀ a, a ≠ c -> ∀ o, s.heap.get? a = some o -> h'.get? a = some o := fun a hne o e => hs.extBut a o hne e
      have P := I.stored st hv hown (s' := { s with heap := h' }) (.inr (.inl ⟨x, c1⟩)) (I.kC c1) (by decide) keep (KAt.cell hn).there rfl rfl ((I.drop i v).chC h2 drop_get c1 hn keep)
        (fun y hy => by rw [h2] at hy; cases hy) (fun y hy c' u q1 q2 => by
          rw [h2] at hy; cases hy
          rw [c1] at q1; cases q1
          obtain ⟨o, a1, a2⟩ := hn
          obtain ⟨o', b1, b2⟩ := q2
          obtain rfl := Option.some.inj (a1.symm.trans b1)
          exact Data.cell.inj (b2.symm.trans a2))
      exact K _ P.1 P.2 fun b o hb e => keep b (fun q => hb (.inr (.inl ⟨x, q ▸ c1⟩))) o e
  · cases q
theorem Inv.store {W : Wd} {cx : Cx} {S : List (Option Loc)} {cm : List (Option PyData)} {vals cv : Nat -> Value} {g g₀ : Heap} {s s₀ : Shared} {f₀ : Addr -> Prop} {A : Around} {E : Value -> Shared -> Prop} {Q : Unit -> Shared -> Prop}
    (I : Inv W cx ⟨S, cm⟩ vals cv g s.heap) (st : Step f₀ g₀ s₀ (Fp cx ⟨S, cm⟩ vals) g s) {i : Nat} {x : Str} (hcp : cx.cp = none) (hr : resolve cx.sc none x = some (.loc i)) (l : Loc) (v : Value) (hv : LocRep W g s.heap l v)
    (hown : ∀ a, ownA l v = some a -> s₀.heap.get? a = none ∧ ¬ Fp cx ⟨S, cm⟩ vals a)
    (K : ∀ s', Step f₀ g₀ s₀ (Fp cx ⟨setL S i l, cm⟩ (upd vals i v)) g s' -> Inv W cx ⟨setL S i l, cm⟩ (upd vals i v) cv g s'.heap -> Q () s') : wpAny W.M A (storeName cx.env x v) Q E s :=
  I.store3 st hcp hr l v hv hown fun s' a b _ => K s' a b
theorem Inv.mut {W : Wd} {cx : Cx} {S : St} {vals cv : Nat -> Value} {g : Heap} {s s' : Shared} (I : Inv W cx S vals cv g s.heap) {i : Nat} {l l' : Loc} {a : Addr} (hi : S.loc[i]? = some (some l)) (h1 : ownA l (vals i) = some a)
    (h2 : ownA l' (vals i) = some a) (hs : Heap.SameBut a s.heap s'.heap) (hr : LocRep W g s'.heap l' (vals i)) (os : s'.os = s.os) (gens : AllBare s.gens -> AllBare s'.gens) :
    Step (Fp cx S vals) g s (Fp cx ⟨setL S.loc i l', S.cmp⟩ vals) g s' ∧ Inv W cx ⟨setL S.loc i l', S.cmp⟩ vals cv g s'.heap := by
  have hfa : Fp cx S vals a := .inr (.inr (.inl ⟨i, l, hi, h1⟩))
  have I₁ := I.hid hi
  have nfa := I.hid_out hi h1
  have keep : ∀ b, b ≠ a -> ∀ o, s.heap.get? b = some o -> s'.heap.get? b = some o := fun b hb o e => hs.extBut b o hb e
  have gle : Le g s'.heap := fun b o e => keep b (fun q => by rw [q, (I.there hfa).2] at e; cases e) o (I.le _ _ e)
  have I₂ := I₁.change Le.refl gle (fun b hb => keep b fun q => nfa (q ▸ hb)) fun b hb => (I₁.there hb).2
  have own : ∀ b, ownA l' (vals i) = some b -> b = a := fun b q => Option.some.inj (q.symm.trans h2)
  have I₃ := I₂.slot (setL_self hi) hr fun b hb j lj hj hl q => nfa (.inr (.inr (.inl ⟨j, lj, hl, by rw [q, own b hb]⟩)))
  rw [setL_setL] at I₃
  refine ⟨⟨Le.refl, fun b o hb e => keep b (fun q => hb (q ▸ hfa)) o e, fun _ _ _ _ e => e, fun b hb => .inl (I.sub_slot hi h1 own hb), fun b e => ?_, os, gens⟩, I₃⟩
  cases q : s.heap.get? b with
  | none => rfl
  | some o =>
    by_cases hb : b = a
    · obtain ⟨o', e'⟩ := (hr.kO h2).1.there
      rw [hb, e'] at e; cases e
    · rw [keep b hb o q] at e; cases e
section
variable {W : Wd} {k : Nat} {sc : Scope} {cs : Option Scope}
theorem list_upd {s : Shared} {a : Addr} {vs : Array Value} {n : Nat} {f : Array Value -> Array Value} (h : s.heap.get? a = some (listO vs n)) :
    ∃ n', (s.heap.update a (Obj.mapSeq f)).get? a = some (listO (f vs) n') ∧ Heap.SameBut a s.heap (s.heap.update a (Obj.mapSeq f)) :=
  ⟨_, Heap.get?_update_self _ h rfl, Heap.SameBut.update ..⟩
theorem own_at {cx : Cx} {S : St} {vals cv : Nat -> Value} {g : Heap} {s : Shared} (I : Inv W cx S vals cv g s.heap) {i : Nat} {l : List PyData} (hi : S.loc[i]? = some (some (.own l))) :
    OwnR g s.heap l (vals i) := I.rep i _ hi
theorem own_back {cx : Cx} {S : St} {vals cv : Nat -> Value} {g : Heap} {s : Shared} (I : Inv W cx S vals cv g s.heap) {i : Nat} {l l' : List PyData} {a : Addr} {vs : Array Value} {n : Nat} {f : Array Value -> Array Value} (hi : S.loc[i]? = some (some (.own l)))
    (hv : vals i = .ref a) (ha : s.heap.get? a = some (listO vs n)) (hg : g.get? a = none) (hr : RDs g (f vs).toList l') (tk : Nat) :
    Step (Fp cx S vals) g s (Fp cx ⟨setL S.loc i (.own l'), S.cmp⟩ vals) g { s with heap := s.heap.update a (Obj.mapSeq f), toks := tk } ∧ Inv W cx ⟨setL S.loc i (.own l'), S.cmp⟩ vals cv g (s.heap.update a (Obj.mapSeq f)) := by
  obtain ⟨n', h1, h2⟩ := list_upd (f := f) ha
  exact I.mut (s' := { s with heap := s.heap.update a (Obj.mapSeq f), toks := tk }) hi (by rw [hv]; rfl) (l' := .own l') (by rw [hv]; rfl) h2 ⟨a, _, n', hv, h1, hr, hg⟩ rfl id
theorem method_own {x : Str} {np apos pos : Pos} {name : Str} {id : String} {args : List Expr} {i : Nat} (hr : resolve sc cs x = some (.loc i))
    (hfew : ∀ env, ((backTo pos (starEach args env)).all (fun x => !x.1) && (backToKw pos (keywordEach [] env)).all (fun x => x.1.isSome) && decide (args.length + ([] : List Keyword).length + (if ([] : List Keyword).isEmpty then 0 else 1) < 30)) = true)
    (hline : (apos.endLine == pos.line) = true) (slot : Slot "list" name id) (hty : typeOf (.builtin id) = pure (.type "method_descriptor")) (hn : (x == ("super" : Str)) = false)
    {A : Around} {cx : Cx} {S : St} {vals cv : Nat -> Value} {g : Heap} {s : Shared} {Q : Value -> Shared -> Prop} {E : Value -> Shared -> Prop} (e1 : cx.sc = sc) (e2 : cx.cs = cs) (I : Inv W cx S vals cv g s.heap) {l : List PyData} (hi : S.loc[i]? = some (some (.own l)))
    (h : wpAny W.M A (callWith pos (.builtin id) [vals i] (backTo pos (starEach args cx.ev)) []) Q E s) : wpAny W.M A (eval (.Call (.Attribute (.Name x np) name apos) args [] pos) cx.ev) Q E s := by
  subst e1 e2
  obtain ⟨a, vs, n, hv, ha, _, _⟩ := own_at I hi
  refine wpAny_Call_method rfl (hfew _) hline PySem.F.plainAttrs_list slot hty (wpAny_Name (I.load hr hi ?_) (resolve_debug hr))
  rw [hv] at h ⊢
  exact ⟨⟨_, ha, rfl⟩, fun b e => by cases e; exact ⟨_, ha, rfl⟩, h⟩
noncomputable def appF (i : Nat) (f : St -> Option (PyData × St)) (S : St) : Option (PyData × St) :=
  (ownOf S.loc[i]?).bind fun _ => (f S).bind fun p => (ownOf p.2.loc[i]?).bind fun l => if l.length ≤ 100000 then some (.none, ⟨setL p.2.loc i (.own (l ++ [p.1])), p.2.cmp⟩) else none
theorem ev_append {x : Str} {np apos pos : Pos} {e : Expr} {i : Nat} {f : St -> Option (PyData × St)} (hr : resolve sc cs x = some (.loc i)) (hline : (apos.endLine == pos.line) = true) (hn : (x == ("super" : Str)) = false)
    (hs : ∀ env, starEach [e] env = [(false, eval e env)]) (he : Ev W k sc cs e f) : Ev W k sc cs (.Call (.Attribute (.Name x np) "append" apos) [e] [] pos) (appF i f) := by
  intro S d S' h A cx vals cv gh s Q E R e1 e2 I K
  simp only [appF, Option.bind_eq_some_iff, Option.ite_none_right_eq_some, Option.some.injEq, Prod.exists, Prod.mk.injEq] at h
  obtain ⟨l₀, h0, a, S₁, h1, l, hl, hz, rfl, rfl⟩ := h
  refine method_own hr (fun env => by rw [hs]; rfl) hline PySem.F.slot_list_append PySem.F.type_list_append hn e1 e2 I (ownOf_some h0) ?_
  obtain ⟨D, _, _, hv, _⟩ := own_at I (ownOf_some h0)
  rw [hs, hv]
  refine PySem.P.append_list (he _ _ _ h1 A cx vals cv gh s _ E R e1 e2 I fun v g₁ s₁ st₁ I₁ r₁ => ?_)
  obtain ⟨D', vs, n, hv', ha, hrd, hg⟩ := own_at I₁ (ownOf_some hl)
  rw [hv] at hv'; cases hv'
  have hsz := hrd.len
  rw [Array.length_toList] at hsz
  refine ⟨vs, n, by have : sizeLine = 16777216 := rfl; lia, ha, ?_⟩
  obtain ⟨st₂, I₂⟩ := own_back (f := fun xs => xs.push v) I₁ (ownOf_some hl) hv ha hg (by simpa using hrd.append (.cons r₁ .nil)) s₁.toks
  exact K _ _ _ (st₁.trans st₂) I₂ .none
noncomputable def popF (i : Nat) (S : St) : Option (PyData × St) :=
  (ownOf S.loc[i]?).bind fun l => l.getLast?.bind fun d => if l.length ≤ 100000 then some (d, ⟨setL S.loc i (.own l.dropLast), S.cmp⟩) else none
theorem RDs.split_last {g : Heap} {vs l d} (x : RDs g vs l) (h : l.getLast? = some d) : ∃ v, vs[vs.length - 1]? = some v ∧ RD g v d ∧ RDs g vs.dropLast l.dropLast := by
  have e : l[l.length - 1]? = some d := by rw [<- List.getLast?_eq_getElem?]; exact h
  obtain ⟨v, hv, hr⟩ := x.get e
  rw [<- x.len] at hv
  refine ⟨v, hv, hr, ?_⟩
  rw [List.dropLast_eq_take, List.dropLast_eq_take, x.len]
  exact x.take _
theorem ev_popOwn {x : Str} {np apos pos : Pos} {i : Nat} (hr : resolve sc cs x = some (.loc i)) (hline : (apos.endLine == pos.line) = true) (hn : (x == ("super" : Str)) = false) :
    Ev W k sc cs (.Call (.Attribute (.Name x np) "pop" apos) [] [] pos) (popF i) := by
  intro S d S' h A cx vals cv gh s Q E R e1 e2 I K
  simp only [popF, Option.bind_eq_some_iff, Option.ite_none_right_eq_some, Option.some.injEq, Prod.mk.injEq] at h
  obtain ⟨l, hl, d', hd, hz, rfl, rfl⟩ := h
  refine method_own hr (fun env => rfl) hline PySem.F.slot_list_pop PySem.F.type_list_pop hn e1 e2 I (ownOf_some hl) ?_
  obtain ⟨D, vs, n, hv, ha, hrd, hg⟩ := own_at I (ownOf_some hl)
  obtain ⟨v, hv', hr', hrd'⟩ := hrd.split_last hd
  have hsz := hrd.len
  rw [Array.length_toList] at hsz hv'
  rw [hv]
  refine PySem.P.pop_list (y := v) ha (by simpa using hv') ?_ (by have : sizeLine = 16777216 := rfl; lia)
  obtain ⟨st₂, I₂⟩ := own_back (f := fun xs => xs.eraseIdxIfInBounds (vs.size - 1)) I (ownOf_some hl) hv ha hg (l' := l.dropLast) (by
    have : (vs.eraseIdxIfInBounds (vs.size - 1)).toList = vs.toList.dropLast := by
      rw [Array.toList_eraseIdxIfInBounds, List.dropLast_eq_take, List.eraseIdx_eq_take_drop_succ]
      have hne : 0 < vs.size := by
        rw [hsz]; cases l with
        | nil => simp at hd
        | cons => simp
      rw [List.drop_of_length_le (by simp; omega)]; simp
    rw [this]; exact hrd') s.toks
  exact K _ _ _ st₂ I₂ hr'
noncomputable def insAt (l : List PyData) (j : Nat) (d : PyData) : List PyData := l.take j ++ d :: l.drop j
noncomputable def insF (i : Nat) (f : St -> Option (List PyData × St)) (S : St) : Option (PyData × St) :=
  (ownOf S.loc[i]?).bind fun _ => (f S).bind fun p => (ownOf p.2.loc[i]?).bind fun l => match p.1 with
    | [.int j, d] => if 0 ≤ j ∧ j ≤ l.length ∧ l.length ≤ 100000 then some (.none, ⟨setL p.2.loc i (.own (insAt l j.toNat d)), p.2.cmp⟩) else none
    | _ => none
theorem ev_insert {x : Str} {np apos pos : Pos} {e e' : Expr} {i : Nat} {f : St -> Option (List PyData × St)} (hr : resolve sc cs x = some (.loc i)) (hline : (apos.endLine == pos.line) = true) (hn : (x == ("super" : Str)) = false)
    (hs : ∀ env, starEach [e, e'] env = [(false, eval e env), (false, eval e' env)]) (he : EvL W k sc cs [e, e'] f) : Ev W k sc cs (.Call (.Attribute (.Name x np) "insert" apos) [e, e'] [] pos) (insF i f) := by
  intro S d S' h A cx vals cv gh s Q E R e1 e2 I K
  simp only [insF, Option.bind_eq_some_iff, Prod.exists] at h
  obtain ⟨l₀, h0, ds, S₁, h1, l, hl, h2⟩ := h
  split at h2
  · rename_i j d'
    rw [Option.ite_none_right_eq_some] at h2
    obtain ⟨⟨hj0, hjl, hz⟩, h2⟩ := h2
    cases h2
    refine method_own hr (fun env => by rw [hs]; rfl) hline PySem.F.slot_list_insert PySem.F.type_list_insert hn e1 e2 I (ownOf_some h0) ?_
    obtain ⟨D, _, _, hv, _⟩ := own_at I (ownOf_some h0)
    rw [hs, hv]
    refine PySem.Calls.callWith_builtin rfl (PySem.Calls.evalArgs_plain (x := eval e cx.ev) (rest := [(false, eval e' cx.ev)]) ?_)
    rw [show [(false, eval e cx.ev), (false, eval e' cx.ev)] = backTo pos (starEach [e, e'] cx.ev) from by rw [hs]; rfl]
    refine he _ _ _ h1 pos A cx vals cv gh s _ E R e1 e2 I fun vs g₁ s₁ st₁ I₁ r₁ => ?_
    obtain ⟨v, u, rfl, ra, rb⟩ := r₁.two
    obtain ⟨t, rfl⟩ := ra.of_int
    obtain ⟨D', ws, n, hv', ha, hrd, hg⟩ := own_at I₁ (ownOf_some hl)
    rw [hv] at hv'; cases hv'
    have hsz := hrd.len
    rw [Array.length_toList] at hsz
    refine call_meets PySem.F.slot_list_insert ⟨_, ha, rfl⟩ PySem.F.entry_list_insert (PySem.F.args_list_insert_3 _ _ _)
      (AutoSeq1.list_insert_list_int_val_1 D ws n j t u (by unfold Builtin.List.listFitsIndex; simp; lia) (by have : sizeLine = 16777216 := rfl; lia)) ⟨ha, ?_⟩
    obtain ⟨st₂, I₂⟩ := own_back (l' := insAt l j.toNat d') (f := fun xs => have k := if j < 0 then (j + (xs.size : Int)).toNat else min j.toNat xs.size; (xs.extract 0 k).push u ++ xs.extract k) I₁ (ownOf_some hl) hv ha hg (by
      have : ¬ j < 0 := by lia
      simp only [this, if_false]
      have hm : min j.toNat ws.size = j.toNat := by grind
      rw [hm]
      unfold insAt
      have e1 : ((ws.extract 0 j.toNat).push u ++ ws.extract j.toNat).toList = ws.toList.take j.toNat ++ u :: ws.toList.drop j.toNat := by
        simp only [Array.toList_append, Array.toList_push, Array.toList_extract, List.append_assoc, List.cons_append, List.nil_append]
        simp [List.extract_eq_drop_take, List.take_of_length_le]
      rw [e1]
      exact (hrd.take _).append (.cons rb (hrd.drop _))) s₁.toks
    exact K _ _ _ (st₁.trans st₂) I₂ .none
  · cases h2
noncomputable def lenOwn (i : Nat) (S : St) : Option (PyData × St) := (ownOf S.loc[i]?).bind fun l => if l.length ≤ 1000000 then some (.int l.length, S) else none
theorem ev_lenOwn {x f : Str} {np p pos : Pos} {i : Nat} (hf : resolve sc cs f = some .glob) (hg : (f, .builtin "len") ∈ W.globs) (hr : resolve sc cs x = some (.loc i)) : Ev W k sc cs (.Call (.Name f p) [.Name x np] [] pos) (lenOwn i) := by
  intro S d S' h A cx vals cv gh s Q E R e1 e2 I K
  subst e1 e2
  simp only [lenOwn, Option.bind_eq_some_iff, Option.ite_none_right_eq_some, Option.some.injEq, Prod.mk.injEq] at h
  obtain ⟨l, hl, hz, rfl, rfl⟩ := h
  refine wpAny_Call_NameR (I.loadGlob hf hg ?_)
  refine PyProof.Rows.callWith_builtin1 (spliced_cons (wpAny_Name (I.load hr (ownOf_some hl) (spliced_nil ?_)) (resolve_debug hr)))
  obtain ⟨D, vs, n, hv, ha, hrd, hg⟩ := own_at I (ownOf_some hl)
  have hsz := hrd.len
  rw [Array.length_toList] at hsz
  rw [hv]
  refine PyProof.Rows.len_list (isList_of ha) (by omega) ?_
  rw [hsz]
  exact K _ _ _ (I.toks _).1 (I.toks _).2 (.int ..)
end
section
variable {W : Wd} {k : Nat} {sc : Scope}
noncomputable abbrev L := List (Option Loc)
noncomputable def nextF (S : L) : Option (Fl × L) := some (.next, S)
noncomputable def seqF (f g : L -> Option (Fl × L)) (S : L) : Option (Fl × L) := (f S).bind fun p => match p with
  | (.next, S₁) => g S₁
  | p => some p
theorem exs_nil : Exs W k sc [] nextF := by
  intro S fl S' h A cx vals cv g s Q E R e1 e2 I K
  cases h
  exact wpAny_execs_nil (K _ vals _ _ Step.refl I rfl)
theorem exs_cons {st : Stmt} {rest : List Stmt} {f g : L -> Option (Fl × L)} (hf : Ex W k sc st f) (hg : Exs W k sc rest g) : Exs W k sc (st :: rest) (seqF f g) := by
  intro S fl S' h A cx vals cv gh s Q E R e1 e2 I K
  simp only [seqF, Option.bind_eq_some_iff, Prod.exists] at h
  obtain ⟨fl₁, S₁, h1, h2⟩ := h
  refine wpAny_execs_cons (hf _ _ _ h1 A cx vals cv gh s _ E R e1 e2 I fun flow vals' g' s' st' I' fr => ?_)
  cases fl₁ with
  | next =>
    simp only [FlRep] at fr
    subst fr
    exact hg _ _ _ h2 A cx vals' cv g' s' Q E R e1 e2 I' fun flow v g'' s'' st'' I'' fr' => K _ _ _ _ (st'.trans st'') I'' fr'
  | ret d =>
    obtain ⟨v, rfl, hv⟩ := fr
    simp only [Option.some.injEq, Prod.mk.injEq] at h2
    obtain ⟨rfl, rfl⟩ := h2
    exact K _ _ _ _ st' I' ⟨v, rfl, hv⟩
noncomputable def retF (f : St -> Option (PyData × St)) (S : L) : Option (Fl × L) := (f ⟨S, []⟩).map fun p => (.ret p.1, p.2.loc)
theorem Inv.irr {cx : Cx} {S : St} {vals cv : Nat -> Value} {g h : Heap} (I : Inv W cx S vals cv g h) (hcp : cx.cp = none) (cm : List (Option PyData)) : Inv W cx ⟨S.loc, cm⟩ vals cv g h :=
  ⟨I.le, I.wok, I.esc, I.nd, I.dict, I.gl, I.cell, I.gcell, I.cinj, I.rep, I.sep, fun _ _ _ q => (by rw [hcp] at q; cases q), I.mu⟩
theorem Cx.ev_fn {cx : Cx} (h : cx.cp = none) : cx.ev = cx.env := by unfold Cx.ev; rw [h]
theorem Cx.cs_fn {cx : Cx} (h : cx.cp = none) : cx.cs = none := by unfold Cx.cs; rw [h]; rfl
theorem Ev.fn {e : Expr} {f : St -> Option (PyData × St)} (he : Ev W k sc none e f) {S : L} {d : PyData} {S' : St} (h : f ⟨S, []⟩ = some (d, S')) {A : Around} {cx : Cx} {vals cv : Nat -> Value} {g : Heap} {s : Shared} {Q : Value -> Shared -> Prop} {E : Value -> Shared -> Prop}
    (R : Room A k) (e1 : cx.sc = sc) (e2 : cx.cp = none) (I : Inv W cx ⟨S, []⟩ vals cv g s.heap)
    (K : ∀ v g' s', Step (Fp cx ⟨S, []⟩ vals) g s (Fp cx ⟨S'.loc, []⟩ vals) g' s' -> Inv W cx ⟨S'.loc, []⟩ vals cv g' s'.heap -> RD g' v d -> Q v s') : wpAny W.M A (eval e cx.env) Q E s := by
  have := he _ _ _ h A cx vals cv g s Q E R e1 (Cx.cs_fn e2) I fun v g' s' st I' r => K v g' s' st (I'.irr e2 []) r
  rwa [Cx.ev_fn e2] at this
theorem EvO.fn {e : Expr} {f : St -> Option (List PyData × St)} (he : EvO W k sc none e f) {S : L} {d : List PyData} {S' : St} (h : f ⟨S, []⟩ = some (d, S')) {A : Around} {cx : Cx} {vals cv : Nat -> Value} {g : Heap} {s : Shared} {Q : Value -> Shared -> Prop} {E : Value -> Shared -> Prop}
    (R : Room A k) (e1 : cx.sc = sc) (e2 : cx.cp = none) (I : Inv W cx ⟨S, []⟩ vals cv g s.heap)
    (K : ∀ a vs n g' s', Step (Fp cx ⟨S, []⟩ vals) g s (Fp cx ⟨S'.loc, []⟩ vals) g' s' -> Inv W cx ⟨S'.loc, []⟩ vals cv g' s'.heap -> s.heap.get? a = none -> s'.heap.get? a = some (listO vs n) -> RDs g' vs.toList d -> g'.get? a = none -> ¬ Fp cx ⟨S'.loc, []⟩ vals a -> Q (.ref a) s') : wpAny W.M A (eval e cx.env) Q E s := by
  have := he _ _ _ h A cx vals cv g s Q E R e1 (Cx.cs_fn e2) I fun a vs n g' s' st I' x1 x2 x3 x4 x5 => K a vs n g' s' st (I'.irr e2 []) x1 x2 x3 x4 x5
  rwa [Cx.ev_fn e2] at this
theorem Tst.fn {e : Expr} {f : St -> Option (Bool × St)} (he : Tst W k sc none e f) {S : L} {d : Bool} {S' : St} (h : f ⟨S, []⟩ = some (d, S')) {A : Around} {cx : Cx} {vals cv : Nat -> Value} {g : Heap} {s : Shared} {Q : Bool -> Shared -> Prop} {E : Value -> Shared -> Prop}
    (R : Room A k) (e1 : cx.sc = sc) (e2 : cx.cp = none) (I : Inv W cx ⟨S, []⟩ vals cv g s.heap)
    (K : ∀ g' s', Step (Fp cx ⟨S, []⟩ vals) g s (Fp cx ⟨S'.loc, []⟩ vals) g' s' -> Inv W cx ⟨S'.loc, []⟩ vals cv g' s'.heap -> Q d s') : wpAny W.M A (isTrue e cx.env (eval e cx.env)) Q E s := by
  have := he _ _ _ h A cx vals cv g s Q E R e1 (Cx.cs_fn e2) I fun g' s' st I' => K g' s' st (I'.irr e2 [])
  rwa [Cx.ev_fn e2] at this
theorem ex_return {e : Expr} {pos : Pos} {f : St -> Option (PyData × St)} (he : Ev W k sc none e f) : Ex W k sc (.Return (some e) pos) (retF f) := by
  intro S fl S' h A cx vals cv g s Q E R e1 e2 I K
  simp only [retF, Option.map_eq_some_iff, Prod.exists, Prod.mk.injEq] at h
  obtain ⟨d, S₁, h1, rfl, rfl⟩ := h
  exact wpAny_Return_some (he.fn h1 R e1 e2 I fun v g' s' st I' r => K _ vals _ _ st I' ⟨v, rfl, r⟩)
noncomputable def condF (t : St -> Option (Bool × St)) (f g : L -> Option (Fl × L)) (S : L) : Option (Fl × L) := (t ⟨S, []⟩).bind fun p => if p.1 then f p.2.loc else g p.2.loc
theorem ex_if {t : Expr} {b o : List Stmt} {pos : Pos} {ft : St -> Option (Bool × St)} {f g : L -> Option (Fl × L)} (ht : Tst W k sc none t ft) (hb : Exs W k sc b f) (ho : Exs W k sc o g) : Ex W k sc (.If t b o pos) (condF ft f g) := by
  intro S fl S' h A cx vals cv gh s Q E R e1 e2 I K
  simp only [condF, Option.bind_eq_some_iff, Prod.exists] at h
  obtain ⟨c, S₁, h1, h2⟩ := h
  refine wpAny_If (ht.fn h1 R e1 e2 I fun g' s' st I' => ?_)
  cases c with
  | true => simp only [if_true] at h2 ⊢; exact hb _ _ _ h2 A cx vals cv g' s' Q E R e1 e2 I' fun flow v g'' s'' st' I'' fr => K _ _ _ _ (st.trans st') I'' fr
  | false => simp only [Bool.false_eq_true, if_false] at h2 ⊢; exact ho _ _ _ h2 A cx vals cv g' s' Q E R e1 e2 I' fun flow v g'' s'' st' I'' fr => K _ _ _ _ (st.trans st') I'' fr
noncomputable def isNone : PyData -> Option Unit
  | .none => some ()
  | _ => none
noncomputable def exprF (f : St -> Option (PyData × St)) (S : L) : Option (Fl × L) := (f ⟨S, []⟩).bind fun p => (isNone p.1).map fun _ => (.next, p.2.loc)
theorem ex_expr {e : Expr} {pos : Pos} {f : St -> Option (PyData × St)} (he : Ev W k sc none e f) (hs : ∀ env, swapsWith e none pos.line env = pure false) : Ex W k sc (.Expr e pos) (exprF f) := by
  intro S fl S' h A cx vals cv g s Q E R e1 e2 I K
  simp only [exprF, Option.bind_eq_some_iff, Option.map_eq_some_iff, Prod.exists, Prod.mk.injEq] at h
  obtain ⟨d, S₁, h1, _, hd, rfl, rfl⟩ := h
  have hd : d = .none := by cases d <;> simp_all [isNone]
  subst hd
  have hi : interactive cx.env = false := by unfold interactive; rw [I.esc.1, I.esc.2.1]; rfl
  refine wpAny_Expr (he.fn h1 R e1 e2 I fun v g' s' st I' r => ?_) hi (hs _)
  rw [r.of_none]
  exact K _ vals _ _ st I' rfl
noncomputable def asgF (i : Nat) (f : St -> Option (PyData × St)) (S : L) : Option (Fl × L) := (f ⟨S, []⟩).map fun p => (.next, setL p.2.loc i (.val p.1))
theorem ex_assign {x : Str} {np pos : Pos} {e : Expr} {i : Nat} {f : St -> Option (PyData × St)} (hr : resolve sc none x = some (.loc i)) (he : Ev W k sc none e f) (hs : ∀ env, env.scope = sc -> swapsWith e (some (.Name x np)) pos.line env = pure false) : Ex W k sc (.Assign [.Name x np] e pos) (asgF i f) := by
  intro S fl S' h A cx vals cv g s Q E R e1 e2 I K
  simp only [asgF, Option.map_eq_some_iff, Prod.exists, Prod.mk.injEq] at h
  obtain ⟨d, S₁, h1, rfl, rfl⟩ := h
  refine wpAny_Assign_Name (he.fn h1 R e1 e2 I fun v g' s' st I' r => ?_) (hs _ (I.esc.1.trans e1))
  exact I'.store st e2 (e1 ▸ hr) (.val d) v r (fun a q => by simp [ownA] at q) fun s'' st'' I'' => K _ _ _ _ st'' I'' rfl
noncomputable def asgO (i : Nat) (f : St -> Option (List PyData × St)) (S : L) : Option (Fl × L) := (f ⟨S, []⟩).map fun p => (.next, setL p.2.loc i (.own p.1))
theorem ex_assignO {x : Str} {np pos : Pos} {e : Expr} {i : Nat} {f : St -> Option (List PyData × St)} (hr : resolve sc none x = some (.loc i)) (he : EvO W k sc none e f) (hs : ∀ env, env.scope = sc -> swapsWith e (some (.Name x np)) pos.line env = pure false) : Ex W k sc (.Assign [.Name x np] e pos) (asgO i f) := by
  intro S fl S' h A cx vals cv g s Q E R e1 e2 I K
  simp only [asgO, Option.map_eq_some_iff, Prod.exists, Prod.mk.injEq] at h
  obtain ⟨d, S₁, h1, rfl, rfl⟩ := h
  refine wpAny_Assign_Name (he.fn h1 R e1 e2 I fun a vs n g' s' st I' x1 x2 x3 x4 x5 => ?_) (hs _ (I.esc.1.trans e1))
  exact I'.store st e2 (e1 ▸ hr) (.own d) (.ref a) ⟨a, vs, n, rfl, x2, x3, x4⟩ (fun b q => by cases q; exact ⟨x1, x5⟩) fun s'' st'' I'' => K _ _ _ _ st'' I'' rfl
end
section
variable {W : Wd} {k : Nat} {sc : Scope}
noncomputable def valOf : Option (Option Loc) -> Option PyData
  | some (some (.val d)) => some d
  | _ => none
theorem valOf_some {d : Option (Option Loc)} {i} (h : valOf d = some i) : d = some (some (.val i)) := by
  unfold valOf at h
  split at h
  · cases h; rfl
  · cases h
theorem Inv.loadFn {cx : Cx} {S : St} {vals cv : Nat -> Value} {g : Heap} {s : Shared} {A : Around} {E : Value -> Shared -> Prop} {Q : Value -> Shared -> Prop} (I : Inv W cx S vals cv g s.heap) (e2 : cx.cp = none) {i : Nat} {x : Str} {l : Loc}
    (hr : resolve cx.sc none x = some (.loc i)) (hi : S.loc[i]? = some (some l)) (h : Q (vals i) s) : wpAny W.M A (loadName cx.env x) Q E s := by
  have := I.load (A := A) (E := E) (Q := Q) (x := x) (by rw [Cx.cs_fn e2]; exact hr) hi h
  rwa [Cx.ev_fn e2] at this
noncomputable def augF (i : Nat) (o : Int -> Int -> Int) (f : St -> Option (PyData × St)) (S : L) : Option (Fl × L) :=
  (valOf S[i]?).bind fun a₀ => (intOf a₀).bind fun a => (f ⟨S, []⟩).bind fun p => (intOf p.1).map fun b => (.next, setL p.2.loc i (.val (.int (o a b))))
theorem ex_aug {x : Str} {np pos : Pos} {op : Operator} {e : Expr} {i : Nat} {f : St -> Option (PyData × St)} (o : Int -> Int -> Int)
    (ho : ∀ (A : Around) a t b u (Q : Value -> Shared -> Prop) (E : Value -> Shared -> Prop) s, Q (.int (o a b) s.toks) { s with toks := s.toks + 1 } -> wpAny W.M A (inplaceOp op (.int a t) (.int b u)) Q E s)
    (hr : resolve sc none x = some (.loc i)) (he : Ev W k sc none e f) : Ex W k sc (.AugAssign (.Name x np) op e pos) (augF i o f) := by
  intro S fl S' h A cx vals cv g s Q E R e1 e2 I K
  simp only [augF, Option.bind_eq_some_iff, Option.map_eq_some_iff, Prod.exists, Prod.mk.injEq] at h
  obtain ⟨a₀, h0, a, ha, d, S₁, h1, b, hb, rfl, rfl⟩ := h
  have h0 := valOf_some h0
  obtain rfl := intOf_some ha
  obtain rfl := intOf_some hb
  subst e1
  refine wpAny_AugAssign_Name (I.loadFn e2 hr h0 ?_)
  refine he.fn h1 R rfl e2 I fun v g' s' st I' r => ?_
  obtain ⟨t, ht⟩ := (show RD g (vals i) _ from I.rep i _ h0).of_int
  obtain ⟨u, rfl⟩ := r.of_int
  rw [ht]
  refine ho _ _ _ _ _ _ _ _ ?_
  obtain ⟨st2, I2⟩ := I'.toks (s'.toks + 1)
  exact I2.store (st.trans st2) e2 hr (.val (.int (o a b))) _ (.int ..) (fun a q => by simp [ownA] at q) fun s'' st'' I'' => K _ _ _ _ st'' I'' rfl
noncomputable def setitF (i : Nat) (fv fi : St -> Option (PyData × St)) (S : L) : Option (Fl × L) := (fv ⟨S, []⟩).bind fun p => (ownOf p.2.loc[i]?).bind fun _ => (fi ⟨p.2.loc, []⟩).bind fun q => (intOf q.1).bind fun j => (ownOf q.2.loc[i]?).bind fun l =>
  if 0 ≤ j ∧ j < l.length ∧ l.length ≤ 100000 then some (.next, setL q.2.loc i (.own (l.set j.toNat p.1))) else none
theorem RDs.set {g : Heap} {vs ds} (x : RDs g vs ds) {v d} (r : RD g v d) : ∀ i, RDs g (vs.set i v) (ds.set i d) := by
  induction ds generalizing vs with
  | nil => intro i; rw [RDs.nil_iff x]; exact .nil
  | cons d' ds ih =>
    cases vs with
    | nil => have := x.len; simp at this
    | cons v' vs => intro i; cases i with
      | zero => exact .cons r x.uncons.2
      | succ i => exact .cons x.uncons.1 (ih x.uncons.2 i)
theorem ex_setit {x : Str} {np sp pos : Pos} {e ie : Expr} {i : Nat} {fv fi : St -> Option (PyData × St)} (hr : resolve sc none x = some (.loc i)) (hv : Ev W k sc none e fv) (hi : Ev W k sc none ie fi)
    (hs : ∀ env, swapsWith e (some (.Subscript (.Name x np) ie sp)) pos.line env = pure false) : Ex W k sc (.Assign [.Subscript (.Name x np) ie sp] e pos) (setitF i fv fi) := by
  intro S fl S' h A cx vals cv g s Q E R e1 e2 I K
  simp only [setitF, Option.bind_eq_some_iff, Option.ite_none_right_eq_some, Option.some.injEq, Prod.exists, Prod.mk.injEq] at h
  obtain ⟨d, S₁, h1, l₀, h0, d', S₂, h2, j, hj, l, hl, ⟨hj0, hj1, hz⟩, rfl, rfl⟩ := h
  obtain rfl := intOf_some hj
  subst e1
  refine wpAny_Assign_Subscript (hv.fn h1 R rfl e2 I fun v g₁ s₁ st₁ I₁ r₁ => ?_) (hs _)
  refine wpAny_Name (I₁.loadFn e2 hr (ownOf_some h0) ?_) (resolve_debug hr)
  refine hi.fn h2 R rfl e2 I₁ fun u g₂ s₂ st₂ I₂ r₂ => ?_
  obtain ⟨t, rfl⟩ := r₂.of_int
  obtain ⟨a, vs, n, hva, ha, hrd, hg⟩ := own_at I₂ (ownOf_some hl)
  have hsz := hrd.len
  rw [Array.length_toList] at hsz
  rw [hva]
  refine ki_setAt ha hj0 (by lia) (by omega) ?_
  obtain ⟨st₃, I₃⟩ := own_back (f := fun xs => xs.setIfInBounds j.toNat v) I₂ (ownOf_some hl) hva ha hg (l' := l.set j.toNat d) (by simpa using hrd.set (RD.le st₂.gg r₁) j.toNat) s₂.toks
  exact K _ vals _ _ ((st₁.trans st₂).trans st₃) I₃ rfl
structure Pend (W : Wd) (g h : Heap) (fp : Addr -> Prop) (s₀ : Heap) (ps : List (Loc × Value)) : Prop where
  rep : ∀ p ∈ ps, LocRep W g h p.1 p.2
  new : ∀ p ∈ ps, ∀ a, ownA p.1 p.2 = some a -> s₀.get? a = none ∧ ¬ fp a
  pw : ps.Pairwise fun p q => ∀ a, ownA p.1 p.2 = some a -> ownA q.1 q.2 ≠ some a
theorem LocRep.own_in {g h l v a} (x : LocRep W g h l v) (e : ownA l v = some a) : (∃ o, h.get? a = some o) ∧ g.get? a = none := by
  cases l with
  | hid => simp [ownA] at e
  | val d => simp [ownA] at e
  | own l => obtain ⟨b, vs, n, rfl, h1, h2, h3⟩ := x; cases e; exact ⟨⟨_, h1⟩, h3⟩
  | acc f l => obtain ⟨b, dx, vs, n, rfl, h1, h2, h3, h4⟩ := x; cases e; exact ⟨⟨_, h1⟩, h4⟩
theorem LocRep.step {g g' : Heap} {s s' : Shared} {fp fp' : Addr -> Prop} {l v} (x : LocRep W g s.heap l v) (st : Step fp g s fp' g' s') (hn : ∀ a, ownA l v = some a -> ¬ fp a) : LocRep W g' s'.heap l v :=
  x.change st.gg fun a ha => ⟨fun o e => st.hh a o (hn a ha) e, fun e => by obtain ⟨⟨o, h1⟩, h2⟩ := x.own_in ha; exact st.gn a o h1 (hn a ha) h2⟩
theorem Pend.step {g g' : Heap} {s s' : Shared} {fp fp' : Addr -> Prop} {s₀ : Heap} {ps} (x : Pend W g s.heap fp s₀ ps) (st : Step fp g s fp' g' s') : Pend W g' s'.heap fp' s₀ ps :=
  ⟨fun p hp => (x.rep p hp).step st fun a ha => (x.new p hp a ha).2, fun p hp a ha => ⟨(x.new p hp a ha).1, by obtain ⟨⟨o, h1⟩, _⟩ := (x.rep p hp).own_in ha; exact st.off h1 (x.new p hp a ha).2⟩, x.pw⟩
theorem Pend.rev {g h : Heap} {fp : Addr -> Prop} {s₀ : Heap} {ps} (x : Pend W g h fp s₀ ps) : Pend W g h fp s₀ ps.reverse :=
  ⟨fun p hp => x.rep p (List.mem_reverse.mp hp), fun p hp => x.new p (List.mem_reverse.mp hp), List.pairwise_reverse.mpr (x.pw.imp fun h a h1 h2 => h a h2 h1)⟩
noncomputable def EvX (W : Wd) (k : Nat) (sc : Scope) (e : Expr) (f : L -> Option (Loc × L)) : Prop :=
  ∀ S l S', f S = some (l, S') -> ∀ (A : Around) (cx : Cx) vals cv g s (Q : Value -> Shared -> Prop) (E : Value -> Shared -> Prop), Room A k -> cx.sc = sc -> cx.cp = none -> Inv W cx ⟨S, []⟩ vals cv g s.heap ->
    (∀ v g' s', Step (Fp cx ⟨S, []⟩ vals) g s (Fp cx ⟨S', []⟩ vals) g' s' -> Inv W cx ⟨S', []⟩ vals cv g' s'.heap -> LocRep W g' s'.heap l v -> (∀ a, ownA l v = some a -> s.heap.get? a = none ∧ ¬ Fp cx ⟨S', []⟩ vals a) -> Q v s') -> wpAny W.M A (eval e cx.env) Q E s
noncomputable def valX (f : St -> Option (PyData × St)) (S : L) : Option (Loc × L) := (f ⟨S, []⟩).map fun p => (.val p.1, p.2.loc)
noncomputable def ownX (f : St -> Option (List PyData × St)) (S : L) : Option (Loc × L) := (f ⟨S, []⟩).map fun p => (.own p.1, p.2.loc)
theorem evX_val {e : Expr} {f : St -> Option (PyData × St)} (he : Ev W k sc none e f) : EvX W k sc e (valX f) := by
  intro S l S' h A cx vals cv g s Q E R e1 e2 I K
  simp only [valX, Option.map_eq_some_iff, Prod.exists, Prod.mk.injEq] at h
  obtain ⟨d, S₁, h1, rfl, rfl⟩ := h
  exact he.fn h1 R e1 e2 I fun v g' s' st I' r => K v g' s' st I' r fun a q => by simp [ownA] at q
theorem evX_own {e : Expr} {f : St -> Option (List PyData × St)} (he : EvO W k sc none e f) : EvX W k sc e (ownX f) := by
  intro S l S' h A cx vals cv g s Q E R e1 e2 I K
  simp only [ownX, Option.map_eq_some_iff, Prod.exists, Prod.mk.injEq] at h
  obtain ⟨d, S₁, h1, rfl, rfl⟩ := h
  exact he.fn h1 R e1 e2 I fun a vs n g' s' st I' x1 x2 x3 x4 x5 => K _ g' s' st I' ⟨a, vs, n, rfl, x2, x3, x4⟩ fun b q => by cases q; exact ⟨x1, x5⟩
noncomputable def EvXs (W : Wd) (k : Nat) (sc : Scope) (es : List Expr) (f : L -> Option (List Loc × L)) : Prop :=
  ∀ S ls S', f S = some (ls, S') -> ∀ (pos : Pos) (A : Around) (cx : Cx) vals cv g s (Q : List Value -> Shared -> Prop) (E : Value -> Shared -> Prop), Room A k -> cx.sc = sc -> cx.cp = none -> Inv W cx ⟨S, []⟩ vals cv g s.heap ->
    (∀ ps g' s', ps.map (·.1) = ls -> Step (Fp cx ⟨S, []⟩ vals) g s (Fp cx ⟨S', []⟩ vals) g' s' -> Inv W cx ⟨S', []⟩ vals cv g' s'.heap -> Pend W g' s'.heap (Fp cx ⟨S', []⟩ vals) s.heap ps -> Q (ps.map (·.2)) s') -> wpAny W.M A (spliced (backTo pos (starEach es cx.env))) Q E s
noncomputable def nilX (S : L) : Option (List Loc × L) := some ([], S)
noncomputable def consX (f : L -> Option (Loc × L)) (g : L -> Option (List Loc × L)) (S : L) : Option (List Loc × L) := (f S).bind fun p => (g p.2).map fun q => (p.1 :: q.1, q.2)
theorem evXs_nil : EvXs W k sc [] nilX := by
  intro S d S' h pos A cx vals cv g s Q E R e1 e2 I K
  cases h
  exact spliced_nil (K [] _ _ rfl Step.refl I ⟨fun _ h => (List.not_mem_nil h).elim, fun _ h => (List.not_mem_nil h).elim, List.Pairwise.nil⟩)
theorem evXs_cons {e : Expr} {es : List Expr} {f : L -> Option (Loc × L)} {r : L -> Option (List Loc × L)} (he : EvX W k sc e f) (hr : EvXs W k sc es r) (hs : ∀ env, starEach (e :: es) env = (false, eval e env) :: starEach es env) :
    EvXs W k sc (e :: es) (consX f r) := by
  intro S d S' h pos A cx vals cv g s Q E R e1 e2 I K
  simp only [consX, Option.bind_eq_some_iff, Option.map_eq_some_iff, Prod.exists, Prod.mk.injEq] at h
  obtain ⟨l, S₁, h1, ls, S₂, h2, rfl, rfl⟩ := h
  rw [hs]
  refine spliced_cons (he _ _ _ h1 A cx vals cv g s _ E R e1 e2 I fun v g₁ s₁ st₁ I₁ r₁ n₁ => ?_)
  refine hr _ _ _ h2 pos A cx vals cv g₁ s₁ _ E R e1 e2 I₁ fun ps g₂ s₂ hps st₂ I₂ P => ?_
  refine K ((l, v) :: ps) g₂ s₂ (by simp [hps]) (st₁.trans st₂) I₂ ⟨?_, ?_, ?_⟩
  · intro p hp
    rcases List.mem_cons.mp hp with rfl | hp
    · exact r₁.step st₂ fun a ha => (n₁ a ha).2
    · exact P.rep p hp
  · intro p hp a ha
    rcases List.mem_cons.mp hp with rfl | hp
    · obtain ⟨⟨o, h1⟩, _⟩ := r₁.own_in ha
      exact ⟨(n₁ a ha).1, st₂.off h1 (n₁ a ha).2⟩
    · exact ⟨st₁.lv _ (P.new p hp a ha).1, (P.new p hp a ha).2⟩
  · refine List.pairwise_cons.mpr ⟨fun q hq a ha hb => ?_, P.pw⟩
    obtain ⟨⟨o, h1⟩, _⟩ := r₁.own_in ha
    rw [(P.new q hq a hb).1] at h1; cases h1
noncomputable def setAll : L -> List Nat -> List Loc -> L
  | S, i :: is, l :: ls => setAll (setL S i l) is ls
  | S, _, _ => S
inductive StoreTs (M : Model) (env : Env) : List (Value -> Sem Unit) -> List (Str × Nat) -> Prop
  | nil : StoreTs M env [] []
  | cons {t ts x xs} : (∀ (A : Around) v (Q : Unit -> Shared -> Prop) (E : Value -> Shared -> Prop) s, wpAny M A (storeName env x.1 v) Q E s -> wpAny M A (t v) Q E s) -> StoreTs M env ts xs -> StoreTs M env (t :: ts) (x :: xs)
theorem store_all {cx : Cx} {cv : Nat -> Value} {A : Around} {E : Value -> Shared -> Prop} {g g₀ : Heap} {s₀ : Shared} {f₀ : Addr -> Prop} (hcp : cx.cp = none) : ∀ (xs : List (Str × Nat)) (ts : List (Value -> Sem Unit)) (ps : List (Loc × Value)) (S : L) (vals : Nat -> Value) (s : Shared) (Q : Unit -> Shared -> Prop),
    StoreTs W.M cx.env ts xs -> (∀ x ∈ xs, resolve cx.sc none x.1 = some (.loc x.2)) -> ps.length = xs.length -> Inv W cx ⟨S, []⟩ vals cv g s.heap -> Step f₀ g₀ s₀ (Fp cx ⟨S, []⟩ vals) g s -> Pend W g s.heap (Fp cx ⟨S, []⟩ vals) s₀.heap ps ->
    (∀ vals' s', Step f₀ g₀ s₀ (Fp cx ⟨setAll S (xs.map (·.2)) (ps.map (·.1)), []⟩ vals') g s' -> Inv W cx ⟨setAll S (xs.map (·.2)) (ps.map (·.1)), []⟩ vals' cv g s'.heap -> Q () s') -> wpAny W.M A (assignInOrder ts (ps.map (·.2))) Q E s
  | [], ts, ps, S, vals, s, Q, T, hr, hl, I, st, P, K => by
    cases T
    have : ps = [] := List.eq_nil_of_length_eq_zero hl
    subst this
    exact wpAny_assignInOrder_none (K vals s st I)
  | x :: xs, ts, [], S, vals, s, Q, T, hr, hl, I, st, P, K => by simp at hl
  | x :: xs, ts, p :: ps, S, vals, s, Q, T, hr, hl, I, st, P, K => by
    cases T with
    | cons h1 h2 =>
      refine wpAny_assignInOrder_more (h1 _ _ _ _ _ ?_)
      refine I.store3 st hcp (hr x (.head _)) p.1 p.2 (P.rep p (.head _)) (P.new p (.head _)) fun s' st' I' keep => ?_
      refine store_all hcp xs _ ps _ _ s' Q h2 (fun y hy => hr y (.tail _ hy)) (by simpa using hl) I' st' ⟨fun q hq => ?_, fun q hq a ha => ⟨(P.new q (.tail _ hq) a ha).1, fun hf => ?_⟩, (List.pairwise_cons.mp P.pw).2⟩ K
      · refine (P.rep q (.tail _ hq)).change Le.refl fun a ha => ⟨fun o e => keep a o (P.new q (.tail _ hq) a ha).2 e, id⟩
      · rcases fp_set hf with hf | hf
        · exact (P.new q (.tail _ hq) a ha).2 hf
        · exact (List.pairwise_cons.mp P.pw).1 q hq a hf ha
theorem ext_le {h h' : Heap} (x : Heap.ExtBut h.objs.size h h') : Le h h' := fun b o e => x b o (by rintro rfl; rw [size_none] at e; cases e) e
noncomputable def tupR (is : List Nat) (f : L -> Option (List Loc × L)) (S : L) : Option (Fl × L) := (f S).bind fun p => if p.1.length = is.length ∧ is.length ≤ 10 then some (.next, setAll p.2 is.reverse p.1.reverse) else none
noncomputable def tupL (is : List Nat) (f : L -> Option (List Loc × L)) (S : L) : Option (Fl × L) := (f S).bind fun p => if p.1.length = is.length ∧ is.length ≤ 10 then some (.next, setAll p.2 is p.1) else none
theorem ex_tupR {elts es : List Expr} {kk kk' : Nat} {tp vp pos : Pos} {f : L -> Option (List Loc × L)} (xs : List (Str × Nat)) (he : EvXs W k sc es f) (hr : ∀ x ∈ xs, resolve sc none x.1 = some (.loc x.2))
    (hs : ∀ env, env.scope = sc -> swapsWithSole [.Tuple elts kk tp] (.Tuple es kk' vp) pos.line env = pure false) (hw : ∀ env, env.scope = sc -> swappedStores [.Tuple elts kk tp] (.Tuple es kk' vp) env = pure (some (xs.map (·.1)))) :
    Ex W k sc (.Assign [.Tuple elts kk tp] (.Tuple es kk' vp) pos) (tupR (xs.map (·.2)) f) := by
  intro S fl S' h A cx vals cv g s Q E R e1 e2 I K
  simp only [tupR, Option.bind_eq_some_iff, Option.ite_none_right_eq_some, Option.some.injEq, Prod.exists, Prod.mk.injEq] at h
  obtain ⟨ls, S₁, h1, ⟨hl, hz⟩, rfl, rfl⟩ := h
  subst e1
  refine Assign_Tuple_swapped (wpAny_Tuple (he _ _ _ h1 vp A cx vals cv g s _ E R rfl e2 I fun ps g₁ s₁ hps st₁ I₁ P => ⟨?_, ?_⟩)) (hs _ I.esc.1) (hw _ I.esc.1)
  · rw [List.length_map, <- List.length_map (f := fun p : Loc × Value => p.1), hps, hl]; exact Nat.le_trans hz (by decide)
  have hlen : ps.length = xs.length := by rw [<- List.length_map (f := fun p : Loc × Value => p.1), hps, hl, List.length_map]
  have T : IsTup (s₁.heap.push (tupO (ps.map (·.2)).toArray 0)) s₁.heap.objs.size (ps.map (·.2)).toArray := isTup_of (Heap.get?_push_size _ rfl)
  obtain ⟨st₂, I₂⟩ := I₁.grown (grow_push0 (s := s₁) (o := tupO (ps.map (·.2)).toArray 0) I₁.le)
  have := @unpackItems_tuple W.prog W.w A E { s₁ with heap := s₁.heap.push (tupO (ps.map (·.2)).toArray 0) } s₁.heap.objs.size (ps.map (·.2)).toArray (fun items s₂ => wpAny W.M A (assignInOrder ((xs.map (·.1)).reverse.map fun n => bindName cx.env n) items.reverse) (fun _ => Q .next) E s₂) R.h T fun h' x => by
    obtain ⟨st₃, I₃⟩ := I₂.grown (Grow.heap (s := { s₁ with heap := s₁.heap.push (tupO (ps.map (·.2)).toArray 0) }) (s' := { s₁ with heap := h' }) I₂.le (ext_le x) rfl id)
    have P₃ := ((P.step st₂).step st₃).rev
    simp only [List.toList_toArray, <- List.map_reverse]
    refine store_all e2 xs.reverse _ ps.reverse S₁ vals _ _ ?_ (fun x hx => hr x (List.mem_reverse.mp hx)) (by simp [hlen]) I₃ ((st₁.trans st₂).trans st₃) P₃ fun vals' s' st' I' => ?_
    · rw [List.map_map]
      generalize xs.reverse = ys
      induction ys with
      | nil => exact .nil
      | cons y ys ih => exact .cons (fun A v Q E s h => bindName_ h) ih
    · refine K .next vals' g₁ s' ?_ ?_ rfl
      · simpa only [<- List.map_reverse, <- hps] using st'
      · simpa only [<- List.map_reverse, <- hps] using I'
  rw [show ((xs.map (·.1)).length) = (ps.map (·.2)).toArray.size from by simp [hlen]]
  exact this
inductive Names (env : Env) : List Expr -> List (Str × Nat) -> Prop
  | nil : Names env [] []
  | cons {x p i es xs} : Names env es xs -> Names env (.Name x p :: es) ((x, i) :: xs)
theorem Names.ts {M : Model} {env : Env} {es xs} (h : Names env es xs) : StoreTs M env ((assignEach es env).map (·.2)) xs ∧ (assignEach es env).findIdx? (·.1) = none ∧ (assignEach es env).length = xs.length := by
  induction h with
  | nil => exact ⟨.nil, rfl, rfl⟩
  | cons h ih =>
    obtain ⟨h1, h2, h3⟩ := ih
    refine ⟨.cons (fun A v Q E s h => PyProof.Rows.assign_Name h) h1, ?_, ?_⟩
    · show List.findIdx? _ ((false, _) :: assignEach _ env) = none
      rw [List.findIdx?_cons, h2]; rfl
    · show ((false, _) :: assignEach _ env).length = _
      rw [List.length_cons, List.length_cons, h3]
theorem assign_names {cx : Cx} {cv : Nat -> Value} {A : Around} {E : Value -> Shared -> Prop} {k : Nat} {g g₀ : Heap} {s₀ : Shared} {f₀ : Addr -> Prop} (R : Room A k) (hcp : cx.cp = none) {elts : List Expr} {kk : Nat} {tp : Pos} (xs : List (Str × Nat)) (hn : Names cx.env elts xs) (hr : ∀ x ∈ xs, resolve cx.sc none x.1 = some (.loc x.2))
    {ps : List (Loc × Value)} {S : L} {vals : Nat -> Value} {s : Shared} {Q : Unit -> Shared -> Prop} (hl : ps.length = xs.length) (I : Inv W cx ⟨S, []⟩ vals cv g s.heap) (st : Step f₀ g₀ s₀ (Fp cx ⟨S, []⟩ vals) g s) (P : Pend W g s.heap (Fp cx ⟨S, []⟩ vals) s₀.heap ps)
    {t : Addr} (ht : IsTup s.heap t (ps.map (·.2)).toArray)
    (K : ∀ vals' s', Step f₀ g₀ s₀ (Fp cx ⟨setAll S (xs.map (·.2)) (ps.map (·.1)), []⟩ vals') g s' -> Inv W cx ⟨setAll S (xs.map (·.2)) (ps.map (·.1)), []⟩ vals' cv g s'.heap -> Q () s') : wpAny W.M A (assign (.Tuple elts kk tp) cx.env (.ref t)) Q E s := by
  obtain ⟨T, h1, h2⟩ := hn.ts (M := W.M)
  refine assign_Tuple_tuple R.h ht (by simp [h2, hl]) h1 fun h' x => ?_
  obtain ⟨st₃, I₃⟩ := I.grown (Grow.heap (s := s) (s' := { s with heap := h' }) I.le (ext_le x) rfl id)
  have P₃ := P.step st₃
  simp only [List.toList_toArray]
  exact store_all hcp xs _ ps S vals _ _ T hr hl I₃ (st.trans st₃) P₃ K
theorem ex_tupL {elts es : List Expr} {kk kk' : Nat} {tp vp pos : Pos} {f : L -> Option (List Loc × L)} (xs : List (Str × Nat)) (he : EvXs W k sc es f) (hn : ∀ env, Names env elts xs) (hr : ∀ x ∈ xs, resolve sc none x.1 = some (.loc x.2))
    (hs : ∀ env, env.scope = sc -> swapsWithSole [.Tuple elts kk tp] (.Tuple es kk' vp) pos.line env = pure false) (hw : ∀ env, env.scope = sc -> swappedStores [.Tuple elts kk tp] (.Tuple es kk' vp) env = pure none) :
    Ex W k sc (.Assign [.Tuple elts kk tp] (.Tuple es kk' vp) pos) (tupL (xs.map (·.2)) f) := by
  intro S fl S' h A cx vals cv g s Q E R e1 e2 I K
  simp only [tupL, Option.bind_eq_some_iff, Option.ite_none_right_eq_some, Option.some.injEq, Prod.exists, Prod.mk.injEq] at h
  obtain ⟨ls, S₁, h1, ⟨hl, hz⟩, rfl, rfl⟩ := h
  subst e1
  refine Assign_Tuple (wpAny_Tuple (he _ _ _ h1 vp A cx vals cv g s _ E R rfl e2 I fun ps g₁ s₁ hps st₁ I₁ P => ⟨?_, ?_⟩)) (hs _ I.esc.1) (hw _ I.esc.1)
  · rw [List.length_map, <- List.length_map (f := fun p : Loc × Value => p.1), hps, hl]; exact Nat.le_trans hz (by decide)
  have hlen : ps.length = xs.length := by rw [<- List.length_map (f := fun p : Loc × Value => p.1), hps, hl, List.length_map]
  obtain ⟨st₂, I₂⟩ := I₁.grown (grow_push0 (s := s₁) (o := tupO (ps.map (·.2)).toArray 0) I₁.le)
  refine assign_names (s := { s₁ with heap := s₁.heap.push (tupO (ps.map (·.2)).toArray 0) }) R e2 xs (hn _) hr hlen I₂ (st₁.trans st₂) (P.step st₂) (isTup_of (Heap.get?_push_size _ rfl)) fun vals' s' st' I' => ?_
  exact K .next vals' g₁ s' (by simpa only [<- hps] using st') (by simpa only [<- hps] using I') rfl
noncomputable def tupOf : PyData -> Option (List PyData)
  | .tuple l => some l
  | _ => none
theorem tupOf_some {d : PyData} {i} (h : tupOf d = some i) : d = .tuple i := by cases d <;> simp_all [tupOf]
noncomputable def tupD (is : List Nat) (f : St -> Option (PyData × St)) (S : L) : Option (Fl × L) := (f ⟨S, []⟩).bind fun p => (tupOf p.1).bind fun l => if l.length = is.length then some (.next, setAll p.2.loc is (l.map .val)) else none
theorem pend_vals {g h : Heap} {fp : Addr -> Prop} {s₀ : Heap} : ∀ {vs : List Value} {ds : List PyData}, RDs g vs ds -> ∃ ps : List (Loc × Value), ps.map (·.2) = vs ∧ ps.map (·.1) = ds.map .val ∧ Pend W g h fp s₀ ps
  | vs, [], r => by rw [r.nil_iff]; exact ⟨[], rfl, rfl, ⟨fun _ h => (List.not_mem_nil h).elim, fun _ h => (List.not_mem_nil h).elim, List.Pairwise.nil⟩⟩
  | [], d :: ds, r => by have := r.len; simp at this
  | v :: vs, d :: ds, r => by
    obtain ⟨ps, h1, h2, P⟩ := pend_vals (h := h) (fp := fp) (s₀ := s₀) r.uncons.2
    refine ⟨(.val d, v) :: ps, by simp [h1], by simp [h2], ⟨fun p hp => ?_, fun p hp a ha => ?_, List.pairwise_cons.mpr ⟨fun q hq a ha => by simp [ownA] at ha, P.pw⟩⟩⟩
    · rcases List.mem_cons.mp hp with rfl | hp
      · exact r.uncons.1
      · exact P.rep p hp
    · rcases List.mem_cons.mp hp with rfl | hp
      · simp [ownA] at ha
      · exact P.new p hp a ha
theorem ex_tupD {elts : List Expr} {e : Expr} {kk : Nat} {tp pos : Pos} {f : St -> Option (PyData × St)} (xs : List (Str × Nat)) (he : Ev W k sc none e f) (hn : ∀ env, Names env elts xs) (hr : ∀ x ∈ xs, resolve sc none x.1 = some (.loc x.2))
    (hs : ∀ env, env.scope = sc -> swapsWithSole [.Tuple elts kk tp] e pos.line env = pure false) (hw : ∀ env, env.scope = sc -> swappedStores [.Tuple elts kk tp] e env = pure none) :
    Ex W k sc (.Assign [.Tuple elts kk tp] e pos) (tupD (xs.map (·.2)) f) := by
  intro S fl S' h A cx vals cv g s Q E R e1 e2 I K
  simp only [tupD, Option.bind_eq_some_iff, Option.ite_none_right_eq_some, Option.some.injEq, Prod.exists, Prod.mk.injEq] at h
  obtain ⟨d, S₁, h1, l, hd, hl, rfl, rfl⟩ := h
  obtain rfl := tupOf_some hd
  subst e1
  refine Assign_Tuple (he.fn h1 R rfl e2 I fun v g₁ s₁ st₁ I₁ r₁ => ?_) (hs _ I.esc.1) (hw _ I.esc.1)
  obtain ⟨a, vs, n, rfl, x1, x4⟩ := r₁.of_tuple
  obtain ⟨ps, p1, p2, P⟩ := pend_vals (W := W) (h := s₁.heap) (fp := Fp cx ⟨S₁.loc, []⟩ vals) (s₀ := s.heap) x4
  have hlen : ps.length = xs.length := by rw [<- List.length_map (f := fun p : Loc × Value => p.1), p2, List.length_map, hl, List.length_map]
  refine assign_names R e2 xs (hn _) hr hlen I₁ st₁ P (by rw [p1]; exact isTup_of (I₁.le _ _ x1)) fun vals' s' st' I' => ?_
  exact K .next vals' g₁ s' (by simpa only [<- p2] using st') (by simpa only [<- p2] using I') rfl
end
structure IStep (p : Addr -> Prop) (g : Heap) (s : Shared) (g' : Heap) (s' : Shared) : Prop where
  gg : Le g g'
  hh : ∀ b o, ¬ p b -> s.heap.get? b = some o -> s'.heap.get? b = some o
  gn : ∀ a o, s.heap.get? a = some o -> g.get? a = none -> g'.get? a = none
  lv : ∀ a, ¬ p a -> s'.heap.get? a = none -> s.heap.get? a = none
  le : Le g' s'.heap
  os : s'.os = s.os
  gens : AllBare s.gens -> AllBare s'.gens
theorem Step.side {f₀ f p : Addr -> Prop} {g₀ g g' : Heap} {s₀ s s' : Shared} (x : Step f₀ g₀ s₀ f g s) (y : IStep p g s g' s') (hp : ∀ a, p a -> s₀.heap.get? a = none) : Step f₀ g₀ s₀ f g' s' where
  gg := x.gg.trans y.gg
  hh := fun b o hb e => y.hh b o (fun q => by rw [hp b q] at e; cases e) (x.hh b o hb e)
  gn := fun a o ha hf e => y.gn a o (x.hh a o hf ha) (x.gn a o ha hf e)
  ff := x.ff
  lv := fun a e => by
    by_cases q : p a
    · exact hp a q
    · exact x.lv a (y.lv a q e)
  os := y.os.trans x.os
  gens := y.gens ∘ x.gens
theorem Inv.side {W : Wd} {cx : Cx} {S : St} {vals cv : Nat -> Value} {g g' : Heap} {s s' : Shared} {p : Addr -> Prop} (I : Inv W cx S vals cv g s.heap) (y : IStep p g s g' s') (hp : ∀ a, p a -> ¬ Fp cx S vals a) : Inv W cx S vals cv g' s'.heap :=
  I.change y.gg y.le (fun a hf o e => y.hh a o (fun q => hp a q hf) e) fun a hf => by obtain ⟨⟨o, e⟩, n⟩ := I.there hf; exact y.gn a o e n
structure Src (W : Wd) (p q : Addr -> Prop) (target : Expr) (it : Value) (T : List PyData -> Heap -> Heap -> Prop) : Prop where
  frame : ∀ ds g h g' h', T ds g h -> Le g g' -> (∀ a o, p a ∨ q a -> h.get? a = some o -> h'.get? a = some o) -> T ds g' h'
  live : ∀ ds g h, T ds g h -> ∀ a, p a ∨ q a -> ∃ o, h.get? a = some o
  iter : ∀ ds g s, T ds g s.heap -> ∀ (A : Around) (Q : Value -> Shared -> Prop) (E : Value -> Shared -> Prop), Q it s -> wpAny W.M A (pyIter it) Q E s
  next : ∀ d ds g s, T (d :: ds) g s.heap -> Le g s.heap -> (∀ a, p a -> g.get? a = none) -> ∀ (A : Around) (Q : Value -> Shared -> Prop) (E : Value -> Shared -> Prop), A.handled = none ->
    (∀ v g' s', IStep p g s g' s' -> T ds g' s'.heap -> RD g' v d -> Q v s') -> wpAny W.M A (pyNext it) (fun r s₁ => ∃ v, r = some v ∧ wpAny W.M A (letOwnedTupleGo target it v) (fun _ s₂ => Q v s₂) E s₁) E s
  done : ∀ g s, T [] g s.heap -> Le g s.heap -> (∀ a, p a -> g.get? a = none) -> ∀ (A : Around) (Q : Option Value -> Shared -> Prop) (E : Value -> Shared -> Prop), A.handled = none ->
    (∀ g' s', IStep p g s g' s' -> Q none s') -> wpAny W.M A (pyNext it) Q E s
theorem istep_but {p : Addr -> Prop} {g : Heap} {s : Shared} {h' : Heap} {it tk : Nat} (hp : p it) (le : Le g s.heap) (gp : ∀ a, p a -> g.get? a = none) (x : Heap.ExtBut it s.heap h') : IStep p g s g { s with heap := h', toks := tk } where
  gg := Le.refl
  hh := fun b o hb e => x b o (fun q => hb (q ▸ hp)) e
  gn := fun _ _ _ e => e
  lv := fun a ha e => by
    cases q : s.heap.get? a with
    | none => rfl
    | some o => rw [show h'.get? a = some o from x a o (fun q => ha (q ▸ hp)) q] at e; cases e
  le := fun b o e => x b o (by rintro rfl; rw [gp _ hp] at e; cases e) (le _ _ e)
  os := rfl
  gens := id
section
variable {W : Wd} {k : Nat} {sc : Scope} {cs : Option Scope}
theorem drop_uncons {α : Type} {l : List α} {i : Nat} {d : α} {ds : List α} (h : l.drop i = d :: ds) : l[i]? = some d ∧ l.drop (i + 1) = ds := by
  refine ⟨?_, ?_⟩
  · have := congrArg (·[0]?) h; simpa using this
  · have := congrArg List.tail h; simpa using this
theorem src_list {x : Str} {px : Pos} {it l : Addr} {vs : Array Value} {n : Nat} {l₀ : List PyData} (hne : l ≠ it) : Src W (· = it) (fun _ => False) (.Name x px) (.ref it) (fun ds g h => ∃ i, h.IsListIter it l i ∧ g.get? l = some (listO vs n) ∧ RDs g vs.toList l₀ ∧ ds = l₀.drop i) where
  frame := fun ds g h g' h' ⟨i, a, b, c, d⟩ kg kh => ⟨i, by obtain ⟨o, e, r⟩ := a; exact ⟨o, kh it o (.inl rfl) e, r⟩, kg _ _ b, RDs.le kg c, d⟩
  live := fun ds g h ⟨i, ⟨o, e, _⟩, _⟩ a ha => ha.elim (fun ha => ⟨o, by rw [ha]; exact e⟩) False.elim
  iter := fun ds g s ⟨i, a, _⟩ A Q E h => wpAny_pyIter_listiter a h
  next := fun d ds g s ⟨i, a, b, c, e⟩ le gp A Q E hh K => by
    obtain ⟨e1, e2⟩ := drop_uncons e.symm
    obtain ⟨v, hv, hr⟩ := c.get e1
    refine wpAny_pyNext_list_item a (isList_of (le _ _ b)) (by simpa using hv) fun h' a' x => ⟨v, rfl, ?_⟩
    have y := istep_but (p := (· = it)) (tk := s.toks) rfl le gp (Heap.SameBut.extBut x)
    exact wpAny_pure (K v g _ y ⟨i + 1, a', b, c, e2.symm⟩ hr)
  done := fun g s ⟨i, a, b, c, e⟩ le gp A Q E hh K => by
    have : l₀.length ≤ i := by simpa using e.symm
    refine wpAny_pyNext_list_end hh a (isList_of (le _ _ b)) (by simp; rw [<- Array.length_toList, c.len]; exact this) fun h' x => ?_
    exact K g _ (istep_but (p := (· = it)) (tk := s.toks) rfl le gp x)
theorem src_tuple {x : Str} {px : Pos} {it l : Addr} {vs : Array Value} {n : Nat} {l₀ : List PyData} (hne : l ≠ it) : Src W (· = it) (fun _ => False) (.Name x px) (.ref it) (fun ds g h => ∃ i, h.IsTupleIter it l i ∧ g.get? l = some (tupO vs n) ∧ RDs g vs.toList l₀ ∧ ds = l₀.drop i) where
  frame := fun ds g h g' h' ⟨i, a, b, c, d⟩ kg kh => ⟨i, by obtain ⟨o, e, r⟩ := a; exact ⟨o, kh it o (.inl rfl) e, r⟩, kg _ _ b, RDs.le kg c, d⟩
  live := fun ds g h ⟨i, ⟨o, e, _⟩, _⟩ a ha => ha.elim (fun ha => ⟨o, by rw [ha]; exact e⟩) False.elim
  iter := fun ds g s ⟨i, a, _⟩ A Q E h => wpAny_pyIter_tupleiter a h
  next := fun d ds g s ⟨i, a, b, c, e⟩ le gp A Q E hh K => by
    obtain ⟨e1, e2⟩ := drop_uncons e.symm
    obtain ⟨v, hv, hr⟩ := c.get e1
    refine wpAny_pyNext_tuple_item a ⟨_, le _ _ b, rfl, n, rfl⟩ (by simpa using hv) fun h' a' x => ⟨v, rfl, ?_⟩
    have y := istep_but (p := (· = it)) (tk := s.toks) rfl le gp (Heap.SameBut.extBut x)
    exact wpAny_pure (K v g _ y ⟨i + 1, a', b, c, e2.symm⟩ hr)
  done := fun g s ⟨i, a, b, c, e⟩ le gp A Q E hh K => by
    have : l₀.length ≤ i := by simpa using e.symm
    refine wpAny_pyNext_tuple_end (items := vs) hh a ⟨_, le _ _ b, rfl, n, rfl⟩ (by simp; rw [<- Array.length_toList, c.len]; exact this) fun h' x => ?_
    exact K g _ (istep_but (p := (· = it)) (tk := s.toks) rfl le gp x)
noncomputable def charsD (x : Str) : List PyData := x.cps.toList.map fun c => .str ⟨#[c]⟩
theorem src_str {x : Str} {px : Pos} {it : Addr} {z : Str} {t : Tok} : Src W (· = it) (fun _ => False) (.Name x px) (.ref it) (fun ds g h => ∃ i, h.IsStrIter it "str_ascii_iterator" z t i ∧ ds = (charsD z).drop i) where
  frame := fun ds g h g' h' ⟨i, a, d⟩ kg kh => ⟨i, by obtain ⟨o, e, r⟩ := a; exact ⟨o, kh it o (.inl rfl) e, r⟩, d⟩
  live := fun ds g h ⟨i, ⟨o, e, _⟩, _⟩ a ha => ha.elim (fun ha => ⟨o, by rw [ha]; exact e⟩) False.elim
  iter := fun ds g s ⟨i, a, _⟩ A Q E h => wpAny_pyIter_striter_ascii a h
  next := fun d ds g s ⟨i, a, e⟩ le gp A Q E hh K => by
    obtain ⟨e1, e2⟩ := drop_uncons e.symm
    simp only [charsD, List.getElem?_map, Option.map_eq_some_iff] at e1
    obtain ⟨c, hc, rfl⟩ := e1
    refine wpAny_pyNext_ascii_item a (by simpa using hc) fun h' a' x => ⟨_, rfl, ?_⟩
    have y := istep_but (p := (· = it)) (tk := s.toks + 1) rfl le gp (Heap.SameBut.extBut x)
    exact wpAny_pure (K _ g _ y ⟨i + 1, a', e2.symm⟩ (.str ..))
  done := fun g s ⟨i, a, e⟩ le gp A Q E hh K => by
    have : (charsD z).length ≤ i := by simpa using e.symm
    refine wpAny_pyNext_ascii_end hh a (by simp; simpa [charsD] using this) fun h' x => ?_
    exact K g _ (istep_but (p := (· = it)) (tk := s.toks) rfl le gp x)
noncomputable def upFrom (a : Int) : Nat -> List PyData
  | 0 => []
  | n + 1 => .int a :: upFrom (a + 1) n
theorem src_range {x : Str} {px : Pos} {it : Addr} : Src W (· = it) (fun _ => False) (.Name x px) (.ref it) (fun ds g h => ∃ a n, IsRangeIter h it a ((n : Nat) : Int) 1 ∧ ds = upFrom a n) where
  frame := fun ds g h g' h' ⟨a, n, x, d⟩ kg kh => ⟨a, n, kh it _ (.inl rfl) x, d⟩
  live := fun ds g h ⟨_, n, x, d⟩ a ha => ha.elim (fun ha => by rw [ha]; exact ⟨_, x⟩) False.elim
  iter := fun ds g s ⟨i, n, a, _⟩ A Q E h => wpAny_pyIter_rangeiter a h
  next := fun d ds g s ⟨i, n, a, e⟩ le gp A Q E hh K => by
    cases n with
    | zero => cases e
    | succ n =>
      simp only [upFrom, List.cons.injEq] at e
      obtain ⟨rfl, rfl⟩ := e
      refine wpAny_pyNext_range_item a (by omega) fun h' a' x => ⟨_, rfl, ?_⟩
      have y := istep_but (p := (· = it)) (tk := s.toks + 1) rfl le gp (Heap.SameBut.extBut x)
      exact wpAny_pure (K _ g _ y ⟨i + 1, n, by simpa using a', rfl⟩ (.int ..))
  done := fun g s ⟨i, n, a, e⟩ le gp A Q E hh K => by
    cases n with
    | succ n => cases e
    | zero =>
      refine wpAny_pyNext_range_end hh a (by decide) fun h' x => ?_
      exact K g _ (istep_but (p := (· = it)) (tk := s.toks) rfl le gp x)
noncomputable def enumD : Nat -> List PyData -> List PyData
  | _, [] => []
  | i, d :: ds => .tuple [.int i, d] :: enumD (i + 1) ds
theorem src_enum {elts : List Expr} {kk : Nat} {tp : Pos} {e it l : Addr} {vs : Array Value} {n : Nat} {l₀ : List PyData} (hne : e ≠ it) :
    Src W (fun a => a = e ∨ a = it) (fun _ => False) (.Tuple elts kk tp) (.ref e) (fun ds g h => ∃ i old, IsEnum h e it ((i : Nat) : Int) old ∧ h.IsListIter it l i ∧ g.get? l = some (listO vs n) ∧ RDs g vs.toList l₀ ∧ ds = enumD i (l₀.drop i)) where
  frame := fun ds g h g' h' ⟨i, old, x, a, b, c, d⟩ kg kh => ⟨i, old, kh e _ (.inl (.inl rfl)) x, by obtain ⟨o, e, r⟩ := a; exact ⟨o, kh it o (.inl (.inr rfl)) e, r⟩, kg _ _ b, RDs.le kg c, d⟩
  live := fun ds g h ⟨i, old, x, ⟨o, ho, _⟩, _⟩ a ha => ha.elim (fun ha => ha.elim (fun q => by rw [q]; exact ⟨_, x⟩) fun q => by rw [q]; exact ⟨_, ho⟩) False.elim
  iter := fun ds g s ⟨i, old, x, _⟩ A Q E h => wpAny_pyIter_enum x h
  next := fun d ds g s ⟨i, old, x, a, b, c, e1⟩ le gp A Q E hh K => by
    cases hq : l₀.drop i with
    | nil => rw [hq] at e1; cases e1
    | cons d' ds' =>
      rw [hq] at e1
      simp only [enumD, List.cons.injEq] at e1
      obtain ⟨rfl, rfl⟩ := e1
      obtain ⟨e1, rfl⟩ := drop_uncons hq
      obtain ⟨v, hv, hr⟩ := c.get e1
      refine wpAny_pyNext_enum_item x a (isList_of (le _ _ b)) (by simpa using hv) hne fun h₁ x₁ a₁ t₁ z₁ k₁ => ⟨_, rfl, ?_⟩
      refine wpAny_letOwnedTupleGo_enum x₁ fun h₂ x₂ sb => ?_
      replace sb : Heap.SameBut e h₁ h₂ := sb
      have eH : e < s.heap.objs.size := Heap.lt_size x
      have iH : it < s.heap.objs.size := by obtain ⟨o, ho, _⟩ := a; exact Heap.lt_size ho
      have new : h₂.get? s.heap.objs.size = some (tupO #[.int i s.toks, v] 0) := sb.extBut _ _ (Nat.ne_of_gt eH) t₁
      have keep : ∀ b o, ¬ (b = e ∨ b = it) -> s.heap.get? b = some o -> h₂.get? b = some o := fun b o hb e' => by
        rw [not_or] at hb; exact sb.extBut b o hb.1 (k₁ b o hb.1 hb.2 e')
      have le₂ : Le g h₂ := fun b o e' => keep b o (fun q => by rw [gp b q] at e'; cases e') (le _ _ e')
      have hnew : ∀ a, a = s.heap.objs.size -> s.heap.get? a = none := fun a q => q ▸ size_none
      refine K _ (addH g h₂ (· = s.heap.objs.size)) _ ⟨le_addH le₂, keep, fun a o ha e' => addH_none e' (not_new hnew ha), fun a ha e' => ?_, addH_le, rfl, id⟩ ⟨i + 1, v, by push_cast; exact x₂, ?_, le_addH le₂ _ _ b, RDs.le (le_addH le₂) c, rfl⟩ (RD.tuple (addH_get.mpr ⟨.inr rfl, new⟩) (by simpa using RDs.cons (.int ..) (.cons (RD.le (le_addH le₂) hr) .nil)))
      · cases q : s.heap.get? a with
        | none => rfl
        | some o => rw [show h₂.get? a = some o from keep a o ha q] at e'; cases e'
      · obtain ⟨o, ho, r⟩ := a₁; exact ⟨o, sb.extBut it o (Ne.symm hne) ho, r⟩
  done := fun g s ⟨i, old, x, a, b, c, e1⟩ le gp A Q E hh K => by
    have hq : l₀.length ≤ i := by
      cases hq : l₀.drop i with
      | nil => simpa using hq
      | cons d' ds' => rw [hq] at e1; cases e1
    refine wpAny_pyNext_enum_end hh x a (isList_of (le _ _ b)) (by simp; rw [<- Array.length_toList, c.len]; exact hq) fun h' y => ?_
    have eH : e < s.heap.objs.size := Heap.lt_size x
    refine K g { s with heap := h' } ⟨Le.refl, fun b o hb e' => y b o (fun q => hb (.inr q)) e', fun _ _ _ e => e, fun a ha e' => ?_, fun b o e' => y b o (by rintro rfl; rw [gp _ (.inr rfl)] at e'; cases e') (le _ _ e'), rfl, id⟩
    cases q : s.heap.get? a with
    | none => rfl
    | some o => rw [show h'.get? a = some o from y a o (fun q => ha (.inr q)) q] at e'; cases e'
end
section
variable {W : Wd} {k : Nat} {sc : Scope} {cs : Option Scope}
noncomputable def EvIt (W : Wd) (k : Nat) (sc : Scope) (cs : Option Scope) (target e : Expr) (f : St -> Option (List PyData × St)) : Prop :=
  ∀ S ds S', f S = some (ds, S') -> ∀ (A : Around) (cx : Cx) vals cv g s (Q : Value -> Shared -> Prop) (E : Value -> Shared -> Prop), Room A k -> cx.sc = sc -> cx.cs = cs -> Inv W cx S vals cv g s.heap ->
    (∀ it p T g' s', Src W p (fun _ => False) target it T -> T ds g' s'.heap -> Step (Fp cx S vals) g s (Fp cx S' vals) g' s' -> Inv W cx S' vals cv g' s'.heap -> (∀ a, p a -> s.heap.get? a = none ∧ g'.get? a = none ∧ ¬ Fp cx S' vals a) -> Q it s') ->
    wpAny W.M A (eval e cx.ev) (fun v s₁ => wpAny W.M A (pyIter v) Q E s₁) E s
noncomputable def asciiS (x : Str) : Bool := x.cps.all (· < 128)
noncomputable def itemsD : PyData -> Option (List PyData)
  | .list l => some l
  | .tuple l => some l
  | .str x => if asciiS x then some (charsD x) else none
  | _ => none
noncomputable def itF (f : St -> Option (PyData × St)) (S : St) : Option (List PyData × St) := (f S).bind fun p => (itemsD p.1).map fun l => (l, p.2)
theorem evIt_val {x : Str} {px : Pos} {e : Expr} {f : St -> Option (PyData × St)} (he : Ev W k sc cs e f) : EvIt W k sc cs (.Name x px) e (itF f) := by
  intro S ds S' h A cx vals cv g s Q E R e1 e2 I K
  simp only [itF, Option.bind_eq_some_iff, Option.map_eq_some_iff, Prod.exists, Prod.mk.injEq] at h
  obtain ⟨d, S₁, h1, l, hl, rfl, rfl⟩ := h
  refine he _ _ _ h1 A cx vals cv g s _ E R e1 e2 I fun v g₁ s₁ st₁ I₁ r₁ => ?_
  have fresh : ∀ a, a = s₁.heap.objs.size -> s.heap.get? a = none ∧ g₁.get? a = none ∧ ¬ Fp cx S₁ vals a := fun a q => by
    subst q; exact ⟨st₁.lv _ size_none, I₁.le.none size_none, I₁.fresh size_none⟩
  unfold itemsD at hl
  split at hl
  · cases hl
    obtain ⟨a, vs, n, rfl, x1, x4⟩ := r₁.of_list
    refine wpAny_pyIter_list (isList_of (I₁.le _ _ x1)) ?_
    obtain ⟨st₂, I₂⟩ := I₁.grown (grow_push0 (s := s₁) (o := { cls := .type "list_iterator", data := .fields #[.ref a, .int 0 0] }) I₁.le)
    exact K _ _ _ _ _ (src_list (by rintro rfl; have := I₁.le _ _ x1; rw [size_none] at this; cases this)) ⟨0, ⟨_, Heap.get?_push_size _ rfl, rfl, rfl⟩, x1, x4, by simp⟩ (st₁.trans st₂) I₂ fresh
  · cases hl
    obtain ⟨a, vs, n, rfl, x1, x4⟩ := r₁.of_tuple
    refine wpAny_pyIter_tuple ⟨_, I₁.le _ _ x1, rfl, n, rfl⟩ ?_
    obtain ⟨st₂, I₂⟩ := I₁.grown (grow_push0 (s := s₁) (o := { cls := .type "tuple_iterator", data := .fields #[.ref a, .int 0 0] }) I₁.le)
    exact K _ _ _ _ _ (src_tuple (by rintro rfl; have := I₁.le _ _ x1; rw [size_none] at this; cases this)) ⟨0, ⟨_, Heap.get?_push_size _ rfl, rfl, rfl⟩, x1, x4, by simp⟩ (st₁.trans st₂) I₂ fresh
  · rw [Option.ite_none_right_eq_some] at hl
    obtain ⟨ha, hl⟩ := hl
    cases hl
    obtain ⟨t, rfl⟩ := r₁.of_str
    refine wpAny_pyIter_ascii ha ?_
    obtain ⟨st₂, I₂⟩ := I₁.grown (grow_push0 (s := s₁) (o := { cls := .type "str_ascii_iterator", data := .fields #[.str _ t, .int 0 0] }) I₁.le)
    exact K _ _ _ _ _ src_str ⟨0, ⟨_, Heap.get?_push_size _ rfl, rfl, rfl⟩, by simp⟩ (st₁.trans st₂) I₂ fresh
  · cases hl
noncomputable def rangeD : List PyData -> Option (Int × Int)
  | [.int n] => some (0, n)
  | [.int a, .int n] => some (a, n)
  | _ => none
noncomputable def rngF (f : St -> Option (List PyData × St)) (S : St) : Option (List PyData × St) := (f S).bind fun p => (rangeD p.1).bind fun r => if -(2 ^ 40) < r.1 ∧ r.1 < 2 ^ 40 ∧ -(2 ^ 40) < r.2 ∧ r.2 < 2 ^ 40 then some (upFrom r.1 (r.2 - r.1).toNat, p.2) else none
theorem range_size {a b : Int} : Builtin.Range.rangeSize a b 1 = (((b - a).toNat : Nat) : Int) := by
  unfold Builtin.Range.rangeSize
  simp
  split <;> grind
theorem range_small {a b : Int} (h : -(2 ^ 40) < a ∧ a < 2 ^ 40 ∧ -(2 ^ 40) < b ∧ b < 2 ^ 40) : Builtin.Range.small a b 1 = true := by
  unfold Builtin.Range.small Builtin.Range.rangeFitsLong
  rw [range_size]
  simp
  omega
theorem evIt_range {x f : Str} {px np pos : Pos} {e : Expr} {es : List Expr} {g : St -> Option (List PyData × St)} (hr : resolve sc cs f = some .glob) (hg : (f, .type "range") ∈ W.globs)
    (he : EvL W k sc cs (e :: es) g) (hs : ∀ env, starEach (e :: es) env = (false, eval e env) :: starEach es env) (hp : ∀ env pos, (backTo pos (starEach es env)).any (·.1) = false) : EvIt W k sc cs (.Name x px) (.Call (.Name f np) (e :: es) [] pos) (rngF g) := by
  intro S ds S' h A cx vals cv gh s Q E R e1 e2 I K
  simp only [rngF, Option.bind_eq_some_iff, Option.ite_none_right_eq_some, Option.some.injEq, Prod.exists, Prod.mk.injEq] at h
  obtain ⟨l, S₁, h1, a, b, hd, hb, rfl, rfl⟩ := h
  subst e1 e2
  refine wpAny_Call_NameR (I.loadGlob hr hg ?_)
  refine PyProof.Rows.callWith_type1 (he _ _ _ h1 pos A cx vals cv gh s _ E R rfl rfl I fun vs g₁ s₁ st₁ I₁ r => ?_) (hs _) (hp _ _)
  have key : ∀ (t u v : Tok) (tk : Nat), wpAny W.M A (pyIter (.ref s₁.heap.objs.size)) Q E { s₁ with heap := s₁.heap.push { cls := .type "range", data := .fields #[.int a t, .int b u, .int 1 v] }, toks := tk } := fun t u v tk => by
    obtain ⟨st₂, I₂⟩ := I₁.grown (grow_push0 (s := s₁) (o := { cls := .type "range", data := .fields #[.int a t, .int b u, .int 1 v] }) I₁.le)
    obtain ⟨st₃, I₃⟩ := I₂.toks tk
    refine wpAny_pyIter_range (r := s₁.heap.objs.size) (a := a) (b := b) (c := 1) (t := t) (u := u) (v := v) (Heap.get?_push_size _ rfl) (range_small hb) ?_
    obtain ⟨st₄, I₄⟩ := I₃.grown (grow_push0 (s := { s₁ with heap := s₁.heap.push { cls := .type "range", data := .fields #[.int a t, .int b u, .int 1 v] }, toks := tk }) (o := { cls := .type "range_iterator", data := .fields #[rawInt a, rawInt (Builtin.Range.rangeSize a b 1), rawInt 1] }) I₃.le)
    have stt := (st₁.trans st₂).trans st₃
    exact K _ _ _ _ _ src_range ⟨a, (b - a).toNat, by rw [<- range_size]; exact Heap.get?_push_size _ rfl, rfl⟩ (stt.trans st₄) I₄ fun c q => by
      subst q; exact ⟨stt.lv _ size_none, I₃.le.none size_none, I₃.fresh size_none⟩
  unfold rangeD at hd
  split at hd
  · cases hd
    obtain ⟨v, rfl, r'⟩ := r.one
    obtain ⟨t, rfl⟩ := r'.of_int
    exact call_range_1 (key _ _ _ _)
  · cases hd
    obtain ⟨v, u, rfl, r', r''⟩ := r.two
    obtain ⟨t, rfl⟩ := r'.of_int
    obtain ⟨t', rfl⟩ := r''.of_int
    exact call_range_2 (key _ _ _ _)
  · cases hd
noncomputable def enmF (f : St -> Option (List PyData × St)) (S : St) : Option (List PyData × St) := (f S).bind fun p => match p.1 with | [.list l] => some (enumD 0 l, p.2) | _ => none
theorem evIt_enum {elts : List Expr} {kk : Nat} {tp : Pos} {f : Str} {np pos : Pos} {e : Expr} {g : St -> Option (List PyData × St)} (hr : resolve sc cs f = some .glob) (hg : (f, .type "enumerate") ∈ W.globs)
    (he : EvL W k sc cs [e] g) (hs : ∀ env, starEach [e] env = [(false, eval e env)]) : EvIt W k sc cs (.Tuple elts kk tp) (.Call (.Name f np) [e] [] pos) (enmF g) := by
  intro S ds S' h A cx vals cv gh s Q E R e1 e2 I K
  simp only [enmF, Option.bind_eq_some_iff, Prod.exists] at h
  obtain ⟨l, S₁, h1, h2⟩ := h
  subst e1 e2
  split at h2
  · rename_i l' hl'
    cases h2
    refine wpAny_Call_NameR (I.loadGlob hr hg ?_)
    refine PyProof.Rows.callWith_type1 (he _ _ _ h1 pos A cx vals cv gh s _ E R rfl rfl I fun vs g₁ s₁ st₁ I₁ r => ?_) (by rw [hs]; rfl) rfl
    obtain ⟨v, rfl, r'⟩ := r.one
    obtain ⟨a, vs, n, rfl, x1, x4⟩ := r'.of_list
    refine call_enumerate_list (isList_of (I₁.le _ _ x1)) fun h' en li sz kp => ?_
    refine wpAny_pyIter_enum en ?_
    obtain ⟨st₂, I₂⟩ := I₁.grown (Grow.heap (s := s₁) (s' := { s₁ with heap := h' }) I₁.le kp rfl id)
    refine K _ _ _ _ _ (src_enum (Nat.succ_ne_self _)) ⟨0, .none, en, li, x1, x4, by simp⟩ (st₁.trans st₂) I₂ fun c q => ?_
    have hc : s₁.heap.get? c = none := by
      cases e : s₁.heap.get? c with
      | none => rfl
      | some o =>
        have := Heap.lt_size e
        rcases q with rfl | rfl
        · exact (Nat.not_succ_lt_self this).elim
        · exact (Nat.lt_irrefl _ this).elim
    exact ⟨st₁.lv _ hc, I₁.le.none hc, I₁.fresh hc⟩
  · cases h2
noncomputable def Asg (W : Wd) (sc : Scope) (target : Expr) (tf : PyData -> L -> Option L) : Prop :=
  ∀ d S S', tf d S = some S' -> ∀ (A : Around) k (cx : Cx) vals cv g s g₀ s₀ f₀ v (Q : Unit -> Shared -> Prop) (E : Value -> Shared -> Prop), Room A k -> cx.sc = sc -> cx.cp = none -> Inv W cx ⟨S, []⟩ vals cv g s.heap -> Step f₀ g₀ s₀ (Fp cx ⟨S, []⟩ vals) g s -> RD g v d ->
    (∀ vals' g' s', Step f₀ g₀ s₀ (Fp cx ⟨S', []⟩ vals') g' s' -> Inv W cx ⟨S', []⟩ vals' cv g' s'.heap -> Q () s') -> wpAny W.M A (assign target cx.env v) Q E s
noncomputable def tgtN (i : Nat) (d : PyData) (S : L) : Option L := some (setL S i (.val d))
theorem asg_name {x : Str} {px : Pos} {i : Nat} (hr : resolve sc none x = some (.loc i)) : Asg W sc (.Name x px) (tgtN i) := by
  intro d S S' h A k cx vals cv g s g₀ s₀ f₀ v Q E R e1 e2 I st r K
  cases h
  subst e1
  exact PyProof.Rows.assign_Name (I.store st e2 hr (.val d) v r (fun a q => by simp [ownA] at q) fun s' st' I' => K _ _ _ st' I')
noncomputable def tgtT (is : List Nat) (d : PyData) (S : L) : Option L := (tupOf d).bind fun l => if l.length = is.length then some (setAll S is (l.map .val)) else none
theorem asg_tup {elts : List Expr} {kk : Nat} {tp : Pos} (xs : List (Str × Nat)) (hn : ∀ env, Names env elts xs) (hr : ∀ x ∈ xs, resolve sc none x.1 = some (.loc x.2)) : Asg W sc (.Tuple elts kk tp) (tgtT (xs.map (·.2))) := by
  intro d S S' h A k cx vals cv g s g₀ s₀ f₀ v Q E R e1 e2 I st r K
  simp only [tgtT, Option.bind_eq_some_iff, Option.ite_none_right_eq_some, Option.some.injEq] at h
  obtain ⟨l, hd, hl, rfl⟩ := h
  obtain rfl := tupOf_some hd
  subst e1
  obtain ⟨a, vs, n, rfl, x1, x4⟩ := r.of_tuple
  obtain ⟨ps, p1, p2, P⟩ := pend_vals (W := W) (h := s.heap) (fp := Fp cx ⟨S, []⟩ vals) (s₀ := s₀.heap) x4
  have hlen : ps.length = xs.length := by rw [<- List.length_map (f := fun p : Loc × Value => p.1), p2, List.length_map, hl, List.length_map]
  refine assign_names R e2 xs (hn _) hr hlen I st P (by rw [p1]; exact isTup_of (I.le _ _ x1)) fun vals' s' st' I' => ?_
  exact K vals' g s' (by simpa only [<- p2] using st') (by simpa only [<- p2] using I')
noncomputable def forL (tf : PyData -> L -> Option L) (fb : L -> Option (Fl × L)) : List PyData -> L -> Option (Fl × L)
  | [], S => some (.next, S)
  | d :: ds, S => (tf d S).bind fun S₁ => (fb S₁).bind fun p => match p with
    | (.next, S₂) => forL tf fb ds S₂
    | (.ret d, S₂) => some (.ret d, S₂)
noncomputable def forF (fi : St -> Option (List PyData × St)) (tf : PyData -> L -> Option L) (fb : L -> Option (Fl × L)) (S : L) : Option (Fl × L) := (fi ⟨S, []⟩).bind fun p => forL tf fb p.1 p.2.loc
inductive FTurn (W : Wd) (tf : PyData -> L -> Option L) (fb : L -> Option (Fl × L)) (fl : Fl) (S' : L) (cx : Cx) (cv : Nat -> Value) (T : List PyData -> Heap -> Heap -> Prop) (f₀ : Addr -> Prop) (g : Heap) (s : Shared) (p : Addr -> Prop) (n : Nat) (s' : Shared) : Prop
  | mk (ds : List PyData) (S₂ : L) (vals₂ : Nat -> Value) (g₂ : Heap) (hn : n = ds.length) (h : forL tf fb ds S₂ = some (fl, S')) (st : Step f₀ g s (Fp cx ⟨S₂, []⟩ vals₂) g₂ s') (I : Inv W cx ⟨S₂, []⟩ vals₂ cv g₂ s'.heap) (hT : T ds g₂ s'.heap) (fr : ∀ a, p a -> g₂.get? a = none ∧ ¬ Fp cx ⟨S₂, []⟩ vals₂ a)
theorem ex_for {target iter : Expr} {body : List Stmt} {pos : Pos} {fi : St -> Option (List PyData × St)} {tf : PyData -> L -> Option L} {fb : L -> Option (Fl × L)} (hi : EvIt W k sc none target iter fi) (ha : Asg W sc target tf) (hb : Exs W k sc body fb)
    (hs : ∀ env x, foldedSetIterable iter env x = pure x) : Ex W k sc (.For target iter body [] pos) (forF fi tf fb) := by
  intro S fl S' h A cx vals cv g s Q E R e1 e2 I K
  simp only [forF, Option.bind_eq_some_iff, Prod.exists] at h
  obtain ⟨ds, S₁, h1, h2⟩ := h
  have X := hi _ _ _ h1 A cx vals cv g s (fun it s₂ => codeAny W.M A (.forLoop target it body [] cx.env) (fun r s' => match r with | .ok f => Q f s' | .error e => cameBackBy W.M A cx.env E e s') s₂) E R e1 (Cx.cs_fn e2) I fun it p T g₁ s₁ sr ht st₁ I₁ fr => ?_
  · rw [Cx.ev_fn e2] at X
    exact wpAny_For X (hs _)
  replace I₁ := I₁.irr e2 []
  replace st₁ : Step (Fp cx ⟨S, []⟩ vals) g s (Fp cx ⟨S₁.loc, []⟩ vals) g₁ s₁ := st₁
  have fr' : ∀ a, p a -> s.heap.get? a = none ∧ g₁.get? a = none ∧ ¬ Fp cx ⟨S₁.loc, []⟩ vals a := fr
  refine codeAny_forLoop_any (FTurn W tf fb fl S' cx cv T (Fp cx ⟨S, []⟩ vals) g s p) ?_ ds.length ⟨ds, S₁.loc, vals, g₁, rfl, h2, st₁, I₁, ht, fun a ha => (fr' a ha).2⟩
  rintro n s₂ ⟨ds, S₂, vals₂, g₂, rfl, h2, st₂, I₂, ht₂, fr₂⟩
  have new := fun a ha => (fr' a ha).1
  cases ds with
  | nil =>
    simp only [forL, Option.some.injEq, Prod.mk.injEq] at h2
    obtain ⟨rfl, rfl⟩ := h2
    refine sr.done g₂ s₂ ht₂ I₂.le (fun a ha => (fr₂ a ha).1) A _ _ R.h fun g₃ s₃ y => ?_
    exact wpAny_execs_nil (K _ vals₂ _ _ (st₂.side y new) (I₂.side y fun a ha => (fr₂ a ha).2) rfl)
  | cons d ds =>
    simp only [forL, Option.bind_eq_some_iff, Prod.exists] at h2
    obtain ⟨S₃, h3, fl₁, S₄, h4, h5⟩ := h2
    refine wpAny_mono (sr.next d ds g₂ s₂ ht₂ I₂.le (fun a ha => (fr₂ a ha).1) A (fun v s₃ => wpAny W.M A (assign target cx.env v) (fun _ s₄ => wpAny W.M A (execs body cx.env) _ _ s₄) _ s₃) (notedBy W.M A cx.env fun e s' => cameBackBy W.M A cx.env E e s') R.h fun v g₃ s₃ y ht₃ r₃ => ?_)
      (fun r s₁ h => by obtain ⟨v, rfl, h⟩ := h; exact h) fun _ _ x => x
    have st₃ := st₂.side y new
    have I₃ := I₂.side y fun a ha => (fr₂ a ha).2
    have gn₃ : ∀ a, p a -> g₃.get? a = none := fun a ha => by obtain ⟨o, ho⟩ := sr.live _ _ _ ht₂ a (.inl ha); exact y.gn a o ho (fr₂ a ha).1
    refine ha d S₂ S₃ h3 A k cx vals₂ cv g₃ s₃ g₃ s₃ _ v _ _ R e1 e2 I₃ Step.refl r₃ fun vals₄ g₄ s₄ st₄ I₄ => ?_
    refine hb _ _ _ h4 A cx vals₄ cv g₄ s₄ _ _ R e1 e2 I₄ fun flow vals₅ g₅ s₅ st₅ I₅ fr₅ => ?_
    have stt := st₄.trans st₅
    cases fl₁ with
    | next =>
      simp only [FlRep] at fr₅
      subst fr₅
      refine ⟨ds.length, Nat.lt_succ_self _, ds, S₄, vals₅, g₅, rfl, h5, st₃.trans stt, I₅, sr.frame _ _ _ _ _ ht₃ stt.gg fun a o hpa e => hpa.elim (fun hpa => stt.hh a o (fr₂ a hpa).2 e) False.elim, fun a hpa => ?_⟩
      obtain ⟨o, ho⟩ := sr.live _ _ _ ht₃ a (.inl hpa)
      exact ⟨stt.gn a o ho (fr₂ a hpa).2 (gn₃ a hpa), stt.off ho (fr₂ a hpa).2⟩
    | ret d' =>
      obtain ⟨u, rfl, hu⟩ := fr₅
      simp only [Option.some.injEq, Prod.mk.injEq] at h5
      obtain ⟨rfl, rfl⟩ := h5
      exact K _ vals₅ _ _ (st₃.trans stt) I₅ ⟨u, rfl, hu⟩
noncomputable def whileF (t : St -> Option (Bool × St)) (b : L -> Option (Fl × L)) : Nat -> L -> Option (Fl × L)
  | 0, _ => none
  | n + 1, S => (t ⟨S, []⟩).bind fun q => if q.1 then (b q.2.loc).bind fun p => match p with
    | (.next, S₂) => whileF t b n S₂
    | (.ret d, S₂) => some (.ret d, S₂)
    else some (.next, q.2.loc)
inductive WTurn (W : Wd) (ft : St -> Option (Bool × St)) (fb : L -> Option (Fl × L)) (fl : Fl) (S' : L) (cx : Cx) (cv : Nat -> Value) (f₀ : Addr -> Prop) (g : Heap) (s : Shared) (n : Nat) (s' : Shared) : Prop
  | mk (S₂ : L) (vals₂ : Nat -> Value) (g₂ : Heap) (h : whileF ft fb n S₂ = some (fl, S')) (st : Step f₀ g s (Fp cx ⟨S₂, []⟩ vals₂) g₂ s') (I : Inv W cx ⟨S₂, []⟩ vals₂ cv g₂ s'.heap)
theorem ex_while {t : Expr} {body : List Stmt} {pos : Pos} {ft : St -> Option (Bool × St)} {fb : L -> Option (Fl × L)} (N : Nat) (ht : Tst W k sc none t ft) (hb : Exs W k sc body fb) : Ex W k sc (.While t body [] pos) (whileF ft fb N) := by
  intro S fl S' h A cx vals cv g s Q E R e1 e2 I K
  refine wpAny_While ?_
  refine codeAny_whileLoop (WTurn W ft fb fl S' cx cv (Fp cx ⟨S, []⟩ vals) g s) ?_ N ⟨S, vals, g, h, Step.refl, I⟩
  rintro n s₂ ⟨S₂, vals₂, g₂, h2, st₂, I₂⟩
  cases n with
  | zero => cases h2
  | succ n =>
    simp only [whileF, Option.bind_eq_some_iff, Prod.exists] at h2
    obtain ⟨b, S₃, h3, h4⟩ := h2
    refine ht.fn h3 R e1 e2 I₂ fun g₃ s₃ st₃ I₃ => ?_
    cases b with
    | false =>
      simp only [Bool.false_eq_true, if_false, Option.some.injEq, Prod.mk.injEq] at h4 ⊢
      obtain ⟨rfl, rfl⟩ := h4
      exact wpAny_execs_nil (K _ vals₂ _ _ (st₂.trans st₃) I₃ rfl)
    | true =>
      simp only [if_true, Option.bind_eq_some_iff, Prod.exists] at h4 ⊢
      obtain ⟨fl₁, S₄, h5, h6⟩ := h4
      refine hb _ _ _ h5 A cx vals₂ cv g₃ s₃ _ _ R e1 e2 I₃ fun flow vals₅ g₅ s₅ st₅ I₅ fr₅ => ?_
      have stt := (st₂.trans st₃).trans st₅
      cases fl₁ with
      | next =>
        simp only [FlRep] at fr₅
        subst fr₅
        exact ⟨n, Nat.lt_succ_self _, S₄, vals₅, g₅, h6, stt, I₅⟩
      | ret d' =>
        obtain ⟨u, rfl, hu⟩ := fr₅
        simp only [Option.some.injEq, Prod.mk.injEq] at h6
        obtain ⟨rfl, rfl⟩ := h6
        exact K _ vals₅ _ _ stt I₅ ⟨u, rfl, hu⟩
end
noncomputable def testsS (ifs : List Expr) (env : Env) : Sem Bool := forIn ifs true fun c r => if r = true then do let ok <- isTrue c env (eval c env); pure (ForInStep.yield ok) else pure (ForInStep.yield r)
noncomputable def turnS (e : Expr) (depth : Nat) (p0 : Pos) (target : Expr) (ifs : List Expr) (B : Value -> Env -> Sem Unit) (it acc : Value) (env : Env) : Sem Fin := do
  standAt p0
  match <- pyNext it with
  | none => pure (.done .next)
  | some v =>
    letOwnedTupleGo target it v
    assign target env v
    let mut ok := true
    for c in ifs do
      if ok then ok <- isTrue c env (eval c env)
    if ok then
      B acc env
    again (.compLoop e depth it acc env)
section
variable {prog : Program} {w : World} {A : Around} {R : Result -> Shared -> Prop} {s : Shared}
noncomputable def emitS (elt : Expr) (acc : Value) (env : Env) : Sem Unit := do let _ <- call (.builtin "list.append") [acc, <- eval elt env]
theorem turn_one {elt target iter : Expr} {ifs : List Expr} {scope : Scope} {pos : Pos} (it acc : Value) (env : Env) :
    compTurn (.ListComp elt [⟨target, iter, ifs, 0⟩] scope pos) 0 it acc env = turnS (.ListComp elt [⟨target, iter, ifs, 0⟩] scope pos) 0 iter.pos target ifs (emitS elt) it acc env := by rfl
theorem turn_two0' {elt target iter target' iter' : Expr} {ifs ifs' : List Expr} {scope : Scope} {pos : Pos} (it acc : Value) (env : Env) :
    compTurn (.ListComp elt [⟨target, iter, ifs, 0⟩, ⟨target', iter', ifs', 0⟩] scope pos) 0 it acc env = (do
      standAt iter.pos
      match <- pyNext it with
      | none => pure (.done .next)
      | some v =>
        letOwnedTupleGo target it v
        assign target env v
        let mut ok := true
        for c in ifs do
          if ok then ok <- isTrue c env (eval c env)
        if ok then
          let x <- eval iter' env
          standAt iter'.pos
          let x <- foldedSetIterable iter' env x
          let _ <- runOwn (.compStart (.ListComp elt [⟨target, iter, ifs, 0⟩, ⟨target', iter', ifs', 0⟩] scope pos) 1 (<- holding [x] (pyIter x)) acc env) env
        again (.compLoop (.ListComp elt [⟨target, iter, ifs, 0⟩, ⟨target', iter', ifs', 0⟩] scope pos) 0 it acc env)) := by rfl
theorem turn_two1 {elt target iter target' iter' : Expr} {ifs ifs' : List Expr} {scope : Scope} {pos : Pos} (it acc : Value) (env : Env) :
    compTurn (.ListComp elt [⟨target, iter, ifs, 0⟩, ⟨target', iter', ifs', 0⟩] scope pos) 1 it acc env = turnS (.ListComp elt [⟨target, iter, ifs, 0⟩, ⟨target', iter', ifs', 0⟩] scope pos) 1 iter'.pos target' ifs' (emitS elt) it acc env := by rfl
noncomputable def TurnIs (prog : Program) (w : World) (e : Expr) (depth : Nat) (target : Expr) (ifs : List Expr) (B : Value -> Env -> Sem Unit) : Prop :=
  ∀ (it acc : Value) (env : Env) (A : Around) (s : Shared) (Q : Fin -> Shared -> Prop) (E : Value -> Shared -> Prop),
    wpAny (model prog w) A (pyNext it) (fun r s₁ => match r with
      | none => Q (.done .next) s₁
      | some v => wpAny (model prog w) A (letOwnedTupleGo target it v) (fun _ s₁' => wpAny (model prog w) A (assign target env v) (fun _ s₂ => wpAny (model prog w) A (testsS ifs env) (fun ok s₃ =>
            if ok = true then wpAny (model prog w) A (B acc env) (fun _ s₄ => Q (.again (.compLoop e depth it acc env)) s₄) E s₃
            else Q (.again (.compLoop e depth it acc env)) s₃) E s₂) E s₁') E s₁) E s -> wpAny (model prog w) A (compTurn e depth it acc env) Q E s
theorem turnS_is {e : Expr} {depth : Nat} {p0 : Pos} {target : Expr} {ifs : List Expr} {B : Value -> Env -> Sem Unit} (h : ∀ it acc env, compTurn e depth it acc env = turnS e depth p0 target ifs B it acc env) : TurnIs prog w e depth target ifs B := by
  intro it acc env A s Q E X
  rw [h]
  unfold turnS
  refine wpAny_bind (wpAny_standAt (wpAny_bind (wpAny_mono X (fun r s₁ h₁ => ?_) fun _ _ h' => h')))
  cases r with
  | none => exact wpAny_pure h₁
  | some v =>
    refine wpAny_bind (wpAny_mono h₁ (fun _ s₁' h₁' => ?_) fun _ _ h' => h')
    refine wpAny_bind (wpAny_mono h₁' (fun _ s₂ h₂ => wpAny_bind (wpAny_mono h₂ (fun ok s₃ h₃ => ?_) fun _ _ h' => h')) fun _ _ h' => h')
    cases ok with
    | false => exact wpAny_pure h₃
    | true => exact wpAny_bind (wpAny_mono h₃ (fun _ s₄ h₄ => wpAny_pure h₄) fun _ _ h' => h')
theorem is_one {elt target iter : Expr} {ifs : List Expr} {scope : Scope} {pos : Pos} : TurnIs prog w (.ListComp elt [⟨target, iter, ifs, 0⟩] scope pos) 0 target ifs (emitS elt) := turnS_is turn_one
theorem is_two1 {elt target iter target' iter' : Expr} {ifs ifs' : List Expr} {scope : Scope} {pos : Pos} : TurnIs prog w (.ListComp elt [⟨target, iter, ifs, 0⟩, ⟨target', iter', ifs', 0⟩] scope pos) 1 target' ifs' (emitS elt) := turnS_is turn_two1
noncomputable def nestW (prog : Program) (w : World) (e : Expr) (iter : Expr) (A : Around) (acc : Value) (env : Env) (E : Value -> Shared -> Prop) (Q : Shared -> Prop) (s : Shared) : Prop :=
  wpAny (model prog w) A (eval iter env) (fun x s₁ => wpAny (model prog w) A (pyIter x) (fun it s₂ => codeAny (model prog w) (A.mark none) (.compStart e 1 it acc env) (fun r s' => match r with | .ok _ => Q s' | .error e => cameBackBy (model prog w) A env E e s') s₂) E s₁) E s
theorem is_two0 {elt target iter target' iter' : Expr} {ifs ifs' : List Expr} {scope : Scope} {pos : Pos} (hf : ∀ env x, foldedSetIterable iter' env x = pure x) (it acc : Value) (env : Env) (A : Around) (s : Shared) (Q : Fin -> Shared -> Prop) (E : Value -> Shared -> Prop)
    (X : wpAny (model prog w) A (pyNext it) (fun r s₁ => match r with
      | none => Q (.done .next) s₁
      | some v => wpAny (model prog w) A (letOwnedTupleGo target it v) (fun _ s₁' => wpAny (model prog w) A (assign target env v) (fun _ s₂ => wpAny (model prog w) A (testsS ifs env) (fun ok s₃ =>
            if ok = true then nestW prog w (.ListComp elt [⟨target, iter, ifs, 0⟩, ⟨target', iter', ifs', 0⟩] scope pos) iter' A acc env E (fun s₄ => Q (.again (.compLoop (.ListComp elt [⟨target, iter, ifs, 0⟩, ⟨target', iter', ifs', 0⟩] scope pos) 0 it acc env)) s₄) s₃
            else Q (.again (.compLoop (.ListComp elt [⟨target, iter, ifs, 0⟩, ⟨target', iter', ifs', 0⟩] scope pos) 0 it acc env)) s₃) E s₂) E s₁') E s₁) E s) :
    wpAny (model prog w) A (compTurn (.ListComp elt [⟨target, iter, ifs, 0⟩, ⟨target', iter', ifs', 0⟩] scope pos) 0 it acc env) Q E s := by
  rw [turn_two0']
  refine wpAny_bind (wpAny_standAt (wpAny_bind (wpAny_mono X (fun r s₁ h₁ => ?_) fun _ _ h' => h')))
  cases r with
  | none => exact wpAny_pure h₁
  | some v =>
    refine wpAny_bind (wpAny_mono h₁ (fun _ s₁' h₁' => ?_) fun _ _ h' => h')
    refine wpAny_bind (wpAny_mono h₁' (fun _ s₂ h₂ => wpAny_bind (wpAny_mono h₂ (fun ok s₃ h₃ => ?_) fun _ _ h' => h')) fun _ _ h' => h')
    cases ok with
    | false => exact wpAny_pure h₃
    | true =>
      refine wpAny_bind (wpAny_mono h₃ (fun x s₄ h₄ => wpAny_bind (wpAny_standAt (wpAny_bind (wpAny_of_eq (hf _ _) (wpAny_bind (wpAny_holding (wpAny_mono h₄ (fun it' s₅ h₅ => ?_) fun _ _ h' => h'))))))) fun _ _ h' => h')
      exact wpAny_bind (wpAny_runOwn (codeAny_mono h₅ fun r s h => by cases r with | ok f => exact wpAny_pure h | error e => exact h))
theorem comp_loop_raw {elt : Expr} {gens : List Comprehension} {scope : Scope} {pos : Pos} {depth : Nat} {it acc : Value} {env : Env} (I : Nat -> Shared -> Prop)
    (turn : ∀ n s, I n s -> wpAny (model prog w) A (compTurn (.ListComp elt gens scope pos) depth it acc env) (fun fin s' => match fin with | .done f => R (.ok f) s' | .again c' => c' = .compLoop (.ListComp elt gens scope pos) depth it acc env ∧ ∃ m, m < n ∧ I m s') (notedBy (model prog w) A env fun e s' => R (.error e) s') s)
    (n : Nat) (h : I n s) : codeAny (model prog w) A (.compLoop (.ListComp elt gens scope pos) depth it acc env) R s := by
  refine codeAny_loop rfl I (fun n s hI => ?_) n h
  show wpAny _ A ((compTurn (.ListComp elt gens scope pos) depth it acc env).onRaise (fun x => do noteFrame x env; theTreesLotGoes x)) _ _ s
  exact wpAny_noted (turn n s hI)
theorem comp_start_raw {elt target iter : Expr} {ifs : List Expr} {gens : List Comprehension} {scope : Scope} {pos : Pos} {depth : Nat} {it acc : Value} {env : Env} (hg : gens[depth]? = some ⟨target, iter, ifs, 0⟩)
    (h0 : codeAny (model prog w) A (.compLoop (.ListComp elt gens scope pos) depth it acc env) R s) (h : ∀ (Q : Value -> Shared -> Prop) (E : Value -> Shared -> Prop), Q it s -> wpAny (model prog w) A (pyIter it) Q E s) :
    codeAny (model prog w) A (.compStart (.ListComp elt gens scope pos) depth it acc env) R s := by
  refine codeAny_of_tree ?_
  show wpAny _ _ ((compStart (.ListComp elt gens scope pos) depth it acc env).onRaise (fun x => do noteFrame x env; standAt theWindowsPlace)) _ _ s
  refine wpAny_notedAt ?_
  unfold compStart
  have e : (clausesOf (.ListComp elt gens scope pos))[depth]? = some ⟨target, iter, ifs, 0⟩ := hg
  rw [e]
  show wpAny _ _ (ask >>= _) _ _ s
  refine wpAny_bind (wpAny_askSetting (wpAny_ite ?_))
  split
  · first
      | exact wpAny_bind (wpAny_pure (wpAny_pure (And.intro rfl h0)))
      | exact wpAny_pure (And.intro rfl h0)
  · first
      | exact wpAny_bind (wpAny_rule (wpAny_bind (wpAny_standAt (wpAny_bind (h _ _ (wpAny_pure (And.intro rfl h0)))))))
      | (refine wpAny_bind (wpAny_rule ?_); show wpAny _ _ (standAt iter.pos >>= _) _ _ s; exact wpAny_bind (wpAny_standAt (wpAny_bind (h _ _ (wpAny_pure (And.intro rfl h0))))))
end
section
variable {W : Wd} {k : Nat} {sc : Scope} {cs : Scope}
noncomputable def TstI (W : Wd) (k : Nat) (sc : Scope) (cs : Option Scope) (ifs : List Expr) (f : St -> Option (Bool × St)) : Prop :=
  ∀ S d S', f S = some (d, S') -> ∀ (A : Around) (cx : Cx) vals cv g s (Q : Bool -> Shared -> Prop) (E : Value -> Shared -> Prop), Room A k -> cx.sc = sc -> cx.cs = cs -> Inv W cx S vals cv g s.heap ->
    (∀ g' s', Step (Fp cx S vals) g s (Fp cx S' vals) g' s' -> Inv W cx S' vals cv g' s'.heap -> Q d s') -> wpAny W.M A (testsS ifs cx.ev) Q E s
noncomputable def trueF (S : St) : Option (Bool × St) := some (true, S)
theorem tstI_nil {cs : Option Scope} : TstI W k sc cs [] trueF := by
  intro S d S' h A cx vals cv g s Q E R e1 e2 I K
  cases h
  exact wpAny_pure (K _ _ Step.refl I)
theorem tstI_one {cs : Option Scope} {c : Expr} {f : St -> Option (Bool × St)} (h : Tst W k sc cs c f) : TstI W k sc cs [c] f := by
  intro S d S' hf A cx vals cv g s Q E R e1 e2 I K
  have e : testsS [c] cx.ev = (isTrue c cx.ev (eval c cx.ev) >>= fun ok => pure ok) := by
    unfold testsS
    simp only [List.forIn_cons, List.forIn_nil, if_true, bind_assoc, pure_bind]
  rw [e]
  exact wpAny_bind (h _ _ _ hf A cx vals cv g s _ E R e1 e2 I fun g' s' st I' => wpAny_pure (K g' s' st I'))
theorem Inv.recomp {cx : Cx} {S : List (Option Loc)} {cm cm' : List (Option PyData)} {vals cv cv' : Nat -> Value} {g h : Heap} {p : Option (Scope × List (Str × Addr) × Addr)} (I : Inv W { cx with cp := p } ⟨S, cm⟩ vals cv g h) (hc : ∀ cs cl C, cx.cp = some (cs, cl, C) -> CInv cx ⟨S, cm'⟩ cv' g h cs cl C) : Inv W cx ⟨S, cm'⟩ vals cv' g h :=
  ⟨I.le, I.wok, I.esc, I.nd, I.dict, I.gl, I.cell, I.gcell, I.cinj, I.rep, I.sep, hc, I.mu⟩
theorem Inv.out {cx : Cx} {S : St} {vals cv : Nat -> Value} {g h : Heap} (I : Inv W cx S vals cv g h) {cs cl} {C : Addr} (hc : cx.cp = some (cs, cl, C)) {cm : List (Option PyData)} : ¬ Fp { cx with cp := none } ⟨S.loc, cm⟩ vals C := by
  have k := I.kP hc
  rintro (q | ⟨x, hx⟩ | ⟨i, l, hl, ha⟩ | ⟨c1, c2, q⟩ | q)
  · exact (I.cmp cs cl C hc).ne q
  · exact k.ne (I.kC hx) (by decide) rfl
  · exact k.ne (I.kO hl ha) (by decide) rfl
  · cases q
  · exact k.ne (I.kM q) (by decide) rfl
theorem Inv.storeC {cx : Cx} {S : St} {vals cv : Nat -> Value} {g : Heap} {s : Shared} {A : Around} {E : Value -> Shared -> Prop} {Q : Unit -> Shared -> Prop} (I : Inv W cx S vals cv g s.heap) (hcs : cx.cs = some cs) {i : Nat} {x : Str}
    (hr : resolve cx.sc cx.cs x = some (.cmp i)) {d : PyData} {v : Value} (r : RD g v d)
    (K : ∀ s', Step (Fp cx S vals) g s (Fp cx S vals) g s' -> Inv W cx ⟨S.loc, S.cmp.set i (some d)⟩ vals (upd cv i v) g s'.heap -> Q () s') : wpAny W.M A (storeName cx.ev x v) Q E s := by
  rw [hcs] at hr
  obtain ⟨_, j, k, hf, q⟩ := resolve_some hr
  rcases q with ⟨q, rfl⟩ | ⟨_, j', q, _⟩ | ⟨q, _⟩
  · obtain rfl := NR.cmp.inj q
    obtain ⟨h2, h3⟩ := find1_at hf
    cases hp : cx.cp with
    | none => simp [Cx.cs, hp] at hcs
    | some p =>
      obtain ⟨cs', cl, C⟩ := p
      obtain rfl : cs' = cs := by simpa [Cx.cs, hp] using hcs
      have Y := I.cmp cs' cl C hp
      obtain ⟨md, hm, hmd⟩ := Y.dict
      have ee : cx.ev = compEnvC cs' cl C cx.env := by unfold Cx.ev; rw [hp]
      rw [ee]
      refine wpAny_storeName_local (env := compEnvC cs' cl C cx.env) (lookup_relabel_local (env := cx.env) h3) hm (fun h' hn hs => ?_) (by rw [show (compEnvC cs' cl C cx.env).scope.kind = .function from Y.k]; rfl)
      have keep : ∀ b o, b ≠ C -> s.heap.get? b = some o -> h'.get? b = some o := fun b o hb e => hs.extBut b o hb e
      have I₀ : Inv W { cx with cp := none } ⟨S.loc, []⟩ vals cv g s.heap := Inv.recomp (p := cx.cp) I (fun _ _ _ q => nomatch q)
      have out := I.out hp (cm := [])
      have I₁ := I₀.change Le.refl (h' := h') (fun b o e => keep b o (fun q => by rw [q, Y.gC] at e; cases e) (I.le _ _ e)) (fun a ha o e => keep a o (fun q => out (q ▸ ha)) e) fun a ha => (I₀.there ha).2
      have cm : ∀ j d', (S.cmp.set i (some d))[j]? = some (some d') -> (j = i ∧ d' = d) ∨ (j ≠ i ∧ S.cmp[j]? = some (some d')) := fun j d' hl => by
        by_cases hji : i = j
        · subst hji
          rw [List.getElem?_set] at hl
          simp only [if_true] at hl
          split at hl
          · cases hl; exact .inl ⟨rfl, rfl⟩
          · cases hl
        · rw [List.getElem?_set_ne hji] at hl
          exact .inr ⟨Ne.symm hji, hl⟩
      refine K { s with heap := h', toks := s.toks + 1 } ⟨Le.refl, fun b o hb e => keep b o (fun q => hb (.inr (.inr (.inr (.inl ⟨cs', cl, by rw [q]; exact hp⟩))))) e, fun _ _ _ _ e => e, fun _ => .inl, fun a e => ?_, rfl, id⟩ ?_
      · cases q : s.heap.get? a with
        | none => rfl
        | some o =>
          by_cases hac : a = C
          · obtain ⟨o', e'⟩ := (KAt.ns hn).there
            have e3 : h'.get? a = none := e
            rw [hac, show h'.get? C = some o' from e'] at e3
            cases e3
          · rw [show h'.get? a = some o from keep a o hac q] at e; cases e
      · refine Inv.recomp (cx := cx) (p := none) I₁ fun c1 c2 c3 hc => ?_
        rw [hp] at hc
        cases hc
        refine ⟨⟨_, hn, fun j y d' hj hl => ?_⟩, Y.gC, Y.ne, fun j d' hl => ?_, Y.cl, Y.k, Y.nd⟩
        · rcases cm j d' hl with ⟨rfl, rfl⟩ | ⟨hji, hl⟩
          · rw [h2] at hj; cases hj
            simp [upd]
          · simp only [upd, if_neg hji]
            rw [if_neg (names_ne Y.nd h2 hj hji)]
            exact hmd j y d' hj hl
        · rcases cm j d' hl with ⟨rfl, rfl⟩ | ⟨hji, hl⟩
          · simp only [upd, if_true]; exact r
          · simp only [upd, if_neg hji]
            exact Y.rep j d' hl
  · cases q
  · cases q
theorem Step.with {fp fp' : Addr -> Prop} {g g' : Heap} {s s' : Shared} (x : Step fp g s fp' g' s') (D : Addr) : Step (fun a => fp a ∨ a = D) g s (fun a => fp' a ∨ a = D) g' s' :=
  ⟨x.gg, fun b o hb e => x.hh b o (fun q => hb (.inl q)) e, fun a o ha hf e => x.gn a o ha (fun q => hf (.inl q)) e, fun a h => h.elim (fun h => (x.ff a h).elim (fun h => .inl (.inl h)) .inr) fun h => .inl (.inr h), x.lv, x.os, x.gens⟩
noncomputable abbrev PT := Around -> Env -> Value -> (Value -> Shared -> Prop) -> (Shared -> Prop) -> Shared -> Prop
noncomputable def CB (W : Wd) (k : Nat) (sc cs : Scope) (ifs : List Expr) (P : PT) (ct : St -> List PyData -> Option (List PyData × St)) : Prop :=
  ∀ S ac ac' S', ct S ac = some (ac', S') -> ∀ (A : Around) (cx : Cx) vals cv g s D vs n (Q : Shared -> Prop) (E : Value -> Shared -> Prop), Room A k -> cx.sc = sc -> cx.cs = some cs -> Inv W cx S vals cv g s.heap -> s.heap.get? D = some (listO vs n) -> RDs g vs.toList ac -> g.get? D = none -> ¬ Fp cx S vals D ->
    (∀ cv' vs' n' g' s', Step (fun a => Fp cx S vals a ∨ a = D) g s (fun a => Fp cx S' vals a ∨ a = D) g' s' -> Inv W cx S' vals cv' g' s'.heap -> s'.heap.get? D = some (listO vs' n') -> RDs g' vs'.toList ac' -> g'.get? D = none -> ¬ Fp cx S' vals D -> Q s') ->
    wpAny W.M A (testsS ifs cx.ev) (fun ok s₁ => if ok = true then P A cx.ev (.ref D) E Q s₁ else Q s₁) E s
noncomputable def emitP (W : Wd) (elt : Expr) : PT := fun A env acc E Q s => wpAny W.M A (emitS elt acc env) (fun _ => Q) E s
noncomputable def emitF (ft : St -> Option (Bool × St)) (f : St -> Option (PyData × St)) (S : St) (ac : List PyData) : Option (List PyData × St) :=
  (ft S).bind fun p => if p.1 then (f p.2).bind fun q => if ac.length ≤ 100000 then some (ac ++ [q.1], q.2) else none else some (ac, p.2)
theorem cb_emit {ifs : List Expr} {elt : Expr} {ft : St -> Option (Bool × St)} {f : St -> Option (PyData × St)} (ht : TstI W k sc (some cs) ifs ft) (he : Ev W k sc (some cs) elt f) : CB W k sc cs ifs (emitP W elt) (emitF ft f) := by
  intro S ac ac' S' h A cx vals cv g s D vs n Q E R e1 e2 I hD hr hg hf K
  simp only [emitF, Option.bind_eq_some_iff, Prod.exists] at h
  obtain ⟨b, S₁, h1, h2⟩ := h
  refine ht _ _ _ h1 A cx vals cv g s _ E R e1 e2 I fun g₁ s₁ st₁ I₁ => ?_
  cases b with
  | false =>
    simp only [Bool.false_eq_true, if_false, Option.some.injEq, Prod.mk.injEq] at h2 ⊢
    obtain ⟨rfl, rfl⟩ := h2
    exact K cv vs n g₁ s₁ (st₁.with D) I₁ (st₁.hh _ _ hf hD) (RDs.le st₁.gg hr) (st₁.gn _ _ hD hf hg) (st₁.off hD hf)
  | true =>
    simp only [if_true, Option.bind_eq_some_iff, Option.ite_none_right_eq_some, Option.some.injEq, Prod.exists, Prod.mk.injEq] at h2 ⊢
    obtain ⟨d, S₂, h3, hz, rfl, rfl⟩ := h2
    show wpAny W.M A (emitS elt (.ref D) cx.ev) (fun _ => Q) E s₁
    unfold emitS
    refine wpAny_bind (he _ _ _ h3 A cx vals cv g₁ s₁ _ E R e1 e2 I₁ fun v g₂ s₂ st₂ I₂ r₂ => ?_)
    have st := st₁.trans st₂
    have hD₂ := st.hh _ _ hf hD
    have hg₂ := st.gn _ _ hD hf hg
    have hf₂ := st.off hD hf
    have hlen := hr.len
    rw [Array.length_toList] at hlen
    refine wpAny_bind (wpAny_list_append_plain ⟨n, hD₂⟩ (fun h' pl sb => wpAny_pure ?_) (by have : sizeLine = 16777216 := rfl; lia))
    obtain ⟨n', hn'⟩ := pl
    have y : IStep (· = D) g₂ s₂ g₂ { s₂ with heap := h' } := istep_but (p := (· = D)) (tk := s₂.toks) rfl I₂.le (fun a q => q ▸ hg₂) (Heap.SameBut.extBut sb)
    have I₃ := I₂.side y fun a q => q ▸ hf₂
    refine K cv _ n' g₂ { s₂ with heap := h' } ?_ I₃ hn' (by simpa using (RDs.le st.gg hr).append (.cons r₂ .nil)) hg₂ hf₂
    refine (st.with D).trans ⟨y.gg, fun b o hb e => y.hh b o (fun q => hb (.inr q)) e, fun a o ha _ e => y.gn a o ha e, fun _ => .inl, fun a e => ?_, rfl, id⟩
    by_cases q : a = D
    · subst q; rw [show h'.get? a = none from e] at hn'; cases hn'
    · exact y.lv a q e
noncomputable def compL (i : Nat) (ct : St -> List PyData -> Option (List PyData × St)) : List PyData -> St -> List PyData -> Option (List PyData × St)
  | [], S, ac => some (ac, S)
  | d :: ds, S, ac => (ct ⟨S.loc, S.cmp.set i (some d)⟩ ac).bind fun p => compL i ct ds p.2 p.1
noncomputable def Turn (W : Wd) (e : Expr) (depth : Nat) (target : Expr) (ifs : List Expr) (P : PT) : Prop :=
  ∀ (it acc : Value) (env : Env) (A : Around) (s : Shared) (Q : Fin -> Shared -> Prop) (E : Value -> Shared -> Prop),
    wpAny W.M A (pyNext it) (fun r s₁ => match r with
      | none => Q (.done .next) s₁
      | some v => wpAny W.M A (letOwnedTupleGo target it v) (fun _ s₁' => wpAny W.M A (assign target env v) (fun _ s₂ => wpAny W.M A (testsS ifs env) (fun ok s₃ =>
            if ok = true then P A env acc E (fun s₄ => Q (.again (.compLoop e depth it acc env)) s₄) s₃
            else Q (.again (.compLoop e depth it acc env)) s₃) E s₂) E s₁') E s₁) E s -> wpAny W.M A (compTurn e depth it acc env) Q E s
inductive CTurn (W : Wd) (i : Nat) (ct : St -> List PyData -> Option (List PyData × St)) (ac' : List PyData) (S' : St) (cx : Cx) (vals : Nat -> Value) (D : Addr) (T : List PyData -> Heap -> Heap -> Prop) (f₀ : Addr -> Prop) (g₀ : Heap) (s₀ : Shared) (p : Addr -> Prop) (m : Nat) (s' : Shared) : Prop
  | mk (ds : List PyData) (S : St) (ac : List PyData) (cv : Nat -> Value) (g : Heap) (vs : Array Value) (n : Nat) (hm : m = ds.length) (h : compL i ct ds S ac = some (ac', S')) (I : Inv W cx S vals cv g s'.heap) (hD : s'.heap.get? D = some (listO vs n)) (hrd : RDs g vs.toList ac) (hg : g.get? D = none)
      (hf : ¬ Fp cx S vals D) (hT : T ds g s'.heap) (st : Step f₀ g₀ s₀ (fun a => Fp cx S vals a ∨ a = D) g s') (hpq : ∀ a, p a -> a ≠ D ∧ g.get? a = none ∧ ¬ Fp cx S vals a)
theorem comp_loop {elt : Expr} {gens : List Comprehension} {scope : Scope} {pos : Pos} {depth : Nat} {x : Str} {px : Pos} {ifs : List Expr} {P : PT} {ct : St -> List PyData -> Option (List PyData × St)} {i : Nat}
    (ht : Turn W (.ListComp elt gens scope pos) depth (.Name x px) ifs P) (hb : CB W k sc cs ifs P ct) (hr : resolve sc (some cs) x = some (.cmp i))
    {ds : List PyData} {S S' : St} {ac ac' : List PyData} (h : compL i ct ds S ac = some (ac', S')) {A : Around} {cx : Cx} {vals cv : Nat -> Value} {g g₀ : Heap} {s s₀ : Shared} {f₀ : Addr -> Prop} {D : Addr} {vs : Array Value} {n : Nat} {it : Value} {p q : Addr -> Prop}
    {T : List PyData -> Heap -> Heap -> Prop} {R : Result -> Shared -> Prop} (Rm : Room A k) (e1 : cx.sc = sc) (e2 : cx.cs = some cs) (I : Inv W cx S vals cv g s.heap) (hD : s.heap.get? D = some (listO vs n)) (hrd : RDs g vs.toList ac) (hg : g.get? D = none) (hf : ¬ Fp cx S vals D)
    (sr : Src W p q (.Name x px) it T) (hT : T ds g s.heap) (st : Step f₀ g₀ s₀ (fun a => Fp cx S vals a ∨ a = D) g s) (hp : ∀ a, p a -> s₀.heap.get? a = none) (hpq : ∀ a, p a ∨ q a -> a ≠ D ∧ g.get? a = none ∧ ¬ Fp cx S vals a)
    (K : ∀ cv' vs' n' g' s', Step f₀ g₀ s₀ (fun a => Fp cx S' vals a ∨ a = D) g' s' -> Inv W cx S' vals cv' g' s'.heap -> s'.heap.get? D = some (listO vs' n') -> RDs g' vs'.toList ac' -> g'.get? D = none -> ¬ Fp cx S' vals D -> R (.ok .next) s') :
    codeAny W.M A (.compLoop (.ListComp elt gens scope pos) depth it (.ref D) cx.ev) R s := by
  refine comp_loop_raw (CTurn W i ct ac' S' cx vals D T f₀ g₀ s₀ fun a => p a ∨ q a) ?_ ds.length ⟨ds, S, ac, cv, g, vs, n, rfl, h, I, hD, hrd, hg, hf, hT, st, hpq⟩
  clear h I hD hrd hg hf hT st hpq
  rintro m s₂ ⟨ds, S, ac, cv, g, vs, n, rfl, h, I, hD, hrd, hg, hf, hT, st, hpq⟩
  refine ht _ _ _ _ _ _ _ ?_
  cases ds with
  | nil =>
    simp only [compL, Option.some.injEq, Prod.mk.injEq] at h
    obtain ⟨rfl, rfl⟩ := h
    refine sr.done g s₂ hT I.le (fun a ha => (hpq a (.inl ha)).2.1) A _ _ Rm.h fun g₃ s₃ y => ?_
    have I₃ := I.side y fun a ha => (hpq a (.inl ha)).2.2
    exact K cv vs n g₃ s₃ (st.side y hp) I₃ (y.hh _ _ (fun q => (hpq D (.inl q)).1 rfl) hD) (RDs.le y.gg hrd) (y.gn _ _ hD hg) hf
  | cons d ds =>
    simp only [compL, Option.bind_eq_some_iff, Prod.exists] at h
    obtain ⟨ac₁, S₁, h1, h2⟩ := h
    refine wpAny_mono (sr.next d ds g s₂ hT I.le (fun a ha => (hpq a (.inl ha)).2.1) A (fun v s₃ => wpAny W.M A (assign (.Name x px) cx.ev v) (fun _ s₄ => wpAny W.M A (testsS ifs cx.ev) _ _ s₄) _ s₃) (notedBy W.M A cx.ev fun e s' => R (.error e) s') Rm.h fun v g₃ s₃ y hT₃ r₃ => ?_)
      (fun r s₁ h => by obtain ⟨v, rfl, h⟩ := h; exact h) fun _ _ x => x
    have st₃ := st.side y hp
    have I₃ := I.side y fun a ha => (hpq a (.inl ha)).2.2
    have hD₃ := y.hh _ _ (fun q => (hpq D (.inl q)).1 rfl) hD
    have gn₃ : ∀ a, p a ∨ q a -> g₃.get? a = none := fun a ha => by obtain ⟨o, ho⟩ := sr.live _ _ _ hT a ha; exact y.gn a o ho (hpq a ha).2.1
    refine PyProof.Rows.assign_Name (I₃.storeC e2 (by rw [e1, e2]; exact hr) r₃ fun s₄ st₄ I₄ => ?_)
    have hT₄ := sr.frame _ _ _ _ s₄.heap hT₃ Le.refl fun a o ha e => st₄.hh a o (hpq a ha).2.2 e
    refine hb _ _ _ _ h1 A cx vals _ g₃ s₄ D vs n _ _ Rm e1 e2 I₄ (st₄.hh _ _ hf hD₃) (RDs.le y.gg hrd) (y.gn _ _ hD hg) hf fun cv₅ vs₅ n₅ g₅ s₅ st₅ I₅ hD₅ hr₅ hg₅ hf₅ => ?_
    have stt := (st₄.with D).trans st₅
    have off : ∀ a, p a ∨ q a -> ¬ (Fp cx S vals a ∨ a = D) := fun a ha q => q.elim (hpq a ha).2.2 (hpq a ha).1
    refine ⟨rfl, ds.length, Nat.lt_succ_self _, ds, S₁, ac₁, cv₅, g₅, vs₅, n₅, rfl, h2, I₅, hD₅, hr₅, hg₅, hf₅, sr.frame _ _ _ _ _ hT₄ st₅.gg fun a o ha e => st₅.hh a o (off a ha) e, st₃.trans stt, fun a ha => ?_⟩
    obtain ⟨o, ho⟩ := sr.live _ _ _ hT₃ a ha
    have := stt.off ho (off a ha)
    exact ⟨(hpq a ha).1, stt.gn a o ho (off a ha) (gn₃ a ha), fun q => this (.inl q)⟩
end
section
variable {W : Wd} {k : Nat} {sc : Scope} {cs : Scope}
theorem turn1 {elt target iter : Expr} {ifs : List Expr} {scope : Scope} {pos : Pos} : Turn W (.ListComp elt [⟨target, iter, ifs, 0⟩] scope pos) 0 target ifs (emitP W elt) := is_one
theorem turn21 {elt target iter target' iter' : Expr} {ifs ifs' : List Expr} {scope : Scope} {pos : Pos} : Turn W (.ListComp elt [⟨target, iter, ifs, 0⟩, ⟨target', iter', ifs', 0⟩] scope pos) 1 target' ifs' (emitP W elt) := is_two1
noncomputable def nestP (W : Wd) (e iter : Expr) : PT := fun A env acc E Q s => nestW W.prog W.w e iter A acc env E Q s
theorem turn20 {elt target iter target' iter' : Expr} {ifs ifs' : List Expr} {scope : Scope} {pos : Pos} (hf : ∀ env x, foldedSetIterable iter' env x = pure x) :
    Turn W (.ListComp elt [⟨target, iter, ifs, 0⟩, ⟨target', iter', ifs', 0⟩] scope pos) 0 target ifs (nestP W (.ListComp elt [⟨target, iter, ifs, 0⟩, ⟨target', iter', ifs', 0⟩] scope pos) iter') := is_two0 hf
noncomputable def nestF (ft : St -> Option (Bool × St)) (fi : St -> Option (List PyData × St)) (i : Nat) (ct : St -> List PyData -> Option (List PyData × St)) (S : St) (ac : List PyData) : Option (List PyData × St) :=
  (ft S).bind fun p => if p.1 then (fi p.2).bind fun q => compL i ct q.1 q.2 ac else some (ac, p.2)
theorem cb_nest {elt : Expr} {gens : List Comprehension} {scope : Scope} {pos : Pos} {x : Str} {px : Pos} {iter : Expr} {ifs ifs' : List Expr} {P : PT} {ct : St -> List PyData -> Option (List PyData × St)} {i : Nat} {ft : St -> Option (Bool × St)} {fi : St -> Option (List PyData × St)}
    (hgen : gens[1]? = some ⟨.Name x px, iter, ifs', 0⟩) (ht : TstI W k sc (some cs) ifs ft) (hi : EvIt W k sc (some cs) (.Name x px) iter fi) (htn : Turn W (.ListComp elt gens scope pos) 1 (.Name x px) ifs' P) (hb : CB W k sc cs ifs' P ct) (hr : resolve sc (some cs) x = some (.cmp i)) :
    CB W k sc cs ifs (nestP W (.ListComp elt gens scope pos) iter) (nestF ft fi i ct) := by
  intro S ac ac' S' h A cx vals cv g s D vs n Q E R e1 e2 I hD hrd hg hf K
  simp only [nestF, Option.bind_eq_some_iff, Prod.exists] at h
  obtain ⟨b, S₁, h1, h2⟩ := h
  refine ht _ _ _ h1 A cx vals cv g s _ E R e1 e2 I fun g₁ s₁ st₁ I₁ => ?_
  have hD₁ := st₁.hh _ _ hf hD
  have hg₁ := st₁.gn _ _ hD hf hg
  have hf₁ := st₁.off hD hf
  cases b with
  | false =>
    simp only [Bool.false_eq_true, if_false, Option.some.injEq, Prod.mk.injEq] at h2 ⊢
    obtain ⟨rfl, rfl⟩ := h2
    exact K cv vs n g₁ s₁ (st₁.with D) I₁ hD₁ (RDs.le st₁.gg hrd) hg₁ hf₁
  | true =>
    simp only [if_true, Option.bind_eq_some_iff, Prod.exists] at h2 ⊢
    obtain ⟨ds, S₂, h3, h4⟩ := h2
    refine hi _ _ _ h3 A cx vals cv g₁ s₁ _ E R e1 e2 I₁ fun it p T g₂ s₂ sr hT st₂ I₂ fr => ?_
    rw [Around.mark_none]
    have fr' : ∀ a, p a -> s₁.heap.get? a = none ∧ g₂.get? a = none ∧ ¬ Fp cx S₂ vals a := fr
    refine comp_start_raw hgen ?_ fun Q E h => sr.iter ds g₂ s₂ hT A Q E h
    refine comp_loop htn hb hr h4 R e1 e2 I₂ (st₂.hh _ _ hf₁ hD₁) (RDs.le (st₁.trans st₂).gg hrd) (st₂.gn _ _ hD₁ hf₁ hg₁) (st₂.off hD₁ hf₁) sr hT (st₂.with D) (fun a ha => (fr' a ha).1)
      (fun a ha => ha.elim (fun ha => ⟨(by rintro rfl; rw [(fr' _ ha).1] at hD₁; cases hD₁), (fr' a ha).2⟩) False.elim) fun cv' vs' n' g' s' st' I' x1 x2 x3 x4 => ?_
    exact K cv' vs' n' g' s' ((st₁.with D).trans st') I' x1 x2 x3 x4
noncomputable def cloL (cells : List (Str × Addr)) : List (Str × NameKind) -> List (Str × Addr) -> List (Str × Addr)
  | [], acc => acc
  | (n, k) :: r, acc => cloL cells r (if k == .free then (n, (cells.lookup n).getD 0) :: acc else acc)
theorem closure_is {scope : Scope} {env : Env} (h : ∀ x, (x, NameKind.free) ∈ scope.names -> ∃ c, env.cells.lookup x = some c) : closureFor scope env = pure (cloL env.cells scope.names []) := by
  unfold closureFor
  simp only [bind_pure]
  generalize ([] : List (Str × Addr)) = acc
  revert h
  generalize scope.names = names
  intro h
  induction names generalizing acc with
  | nil => rfl
  | cons x r ih =>
    obtain ⟨n, k⟩ := x
    rw [List.forIn_cons]
    unfold cloL
    have ih' := fun acc => ih acc fun y hy => h y (.tail _ hy)
    cases hk : k == NameKind.free with
    | false =>
      simp only [hk, Bool.false_eq_true, if_false, pure_bind]
      exact ih' _
    | true =>
      have : k = .free := by simpa using hk
      subst this
      obtain ⟨c, hc⟩ := h n (.head _)
      have e : cellOf env n = pure c := by unfold cellOf; rw [hc]
      simp only [hk, if_true, e, pure_bind, hc, Option.getD_some]
      exact ih' _
theorem cloL_mem {cells : List (Str × Addr)} : ∀ {names : List (Str × NameKind)} {acc : List (Str × Addr)} {p : Str × Addr}, p ∈ cloL cells names acc -> p ∈ acc ∨ ((p.1, NameKind.free) ∈ names ∧ p.2 = (cells.lookup p.1).getD 0)
  | [], acc, p, h => .inl h
  | (n, k) :: r, acc, p, h => by
    unfold cloL at h
    rcases cloL_mem h with h | ⟨h1, h2⟩
    · split at h
      · rename_i hk
        rcases List.mem_cons.mp h with rfl | h
        · exact .inr ⟨by have : k = .free := by simpa using hk
                         subst this; exact .head _, rfl⟩
        · exact .inl h
      · exact .inl h
    · exact .inr ⟨.tail _ h1, h2⟩
theorem cloL_acc {cells : List (Str × Addr)} : ∀ {names : List (Str × NameKind)} {acc : List (Str × Addr)} {p : Str × Addr}, p ∈ acc -> p ∈ cloL cells names acc
  | [], acc, p, h => h
  | (n, k) :: r, acc, p, h => by
    unfold cloL
    refine cloL_acc ?_
    split
    · exact .tail _ h
    · exact h
theorem cloL_has {cells : List (Str × Addr)} : ∀ {names : List (Str × NameKind)} {acc : List (Str × Addr)} {x : Str}, (x, NameKind.free) ∈ names -> (x, (cells.lookup x).getD 0) ∈ cloL cells names acc
  | [], acc, x, h => nomatch h
  | (n, k) :: r, acc, x, h => by
    unfold cloL
    rcases List.mem_cons.mp h with h | h
    · cases h
      exact cloL_acc (.head _)
    · exact cloL_has h
theorem lookup_same {x : Str} {a : Addr} : ∀ {l : List (Str × Addr)}, (∀ p ∈ l, p.1 = x -> p.2 = a) -> (x, a) ∈ l -> l.lookup x = some a
  | [], _, h => nomatch h
  | (y, b) :: r, h1, h2 => by
    rw [List.lookup_cons]
    by_cases q : (x == y) = true
    · rw [q]
      have : x = y := by simpa using q
      exact congrArg some (h1 (y, b) (.head _) this.symm)
    · have q' : (x == y) = false := by simpa using q
      rw [q']
      refine lookup_same (fun p hp => h1 p (.tail _ hp)) ?_
      rcases List.mem_cons.mp h2 with h | h
      · cases h; simp at q
      · exact h
theorem cloL_lookup {cells : List (Str × Addr)} {names : List (Str × NameKind)} {x : Str} {c : Addr} (h : (x, NameKind.free) ∈ names) (hc : cells.lookup x = some c) : (cloL cells names []).lookup x = some c := by
  refine lookup_same (fun p hp hx => ?_) ?_
  · rcases cloL_mem hp with q | ⟨_, q⟩
    · cases q
    · rw [q, hx, hc]; rfl
  · have := cloL_has (cells := cells) (acc := []) h
    rwa [hc] at this
noncomputable def compOK (sc cs : Scope) : Bool := decide (cs.kind = .function) && decide ((cs.names.map (·.1)).Nodup) &&
  cs.names.all fun y => y.2 != .cell && (y.2 != .free || (match find1 y.1 0 sc.names with | some (_, .cell) => true | _ => false))
theorem mem_of_lookup {l : List (Str × NameKind)} {x : Str} {k : NameKind} (h : l.lookup x = some k) : (x, k) ∈ l := by
  obtain ⟨l₁, l₂, e, _⟩ := List.lookup_eq_some_iff.mp h
  rw [e]; simp
theorem Inv.newComp {cx : Cx} {S : St} {vals cv : Nat -> Value} {g : Heap} {h : Heap} (I : Inv W cx S vals cv g h) (hcp : cx.cp = none) (hco : compOK cx.sc cs = true) {C : Addr} {m : Str -> Option Value} (hm : h.Ns C m) (hC : g.get? C = none) (hne : C ≠ cx.env.locals) (n : Nat) :
    Inv W { cx with cp := some (cs, cloL cx.env.cells cs.names [], C) } ⟨S.loc, List.replicate n none⟩ vals cv g h ∧ closureFor cs cx.env = pure (cloL cx.env.cells cs.names []) ∧ cs.kind = .function ∧ (∀ y ∈ cs.names, y.2 ≠ .cell) ∧ (∀ x ∈ cs.names, x.2 = .local -> cs.names.lookup x.1 = some .local) := by
  unfold compOK at hco
  simp only [Bool.and_eq_true, decide_eq_true_eq, List.all_eq_true] at hco
  obtain ⟨⟨h1, h2⟩, h3⟩ := hco
  have free : ∀ x, (x, NameKind.free) ∈ cs.names -> ∃ c, cx.env.cells.lookup x = some c := fun x hx => by
    have := (h3 _ hx).2
    simp only [bne_self_eq_false, Bool.false_or] at this
    split at this
    · rename_i i hf
      obtain ⟨_, q, _⟩ := find1_spec hf
      obtain ⟨c, _, hc, _⟩ := I.cell _ x q
      exact ⟨c, hc⟩
    · cases this
  refine ⟨⟨I.le, I.wok, I.esc, I.nd, I.dict, I.gl, I.cell, I.gcell, I.cinj, I.rep, I.sep, fun c1 c2 c3 hc => ?_, I.mu⟩, closure_is free, h1, fun y hy => by have := (h3 y hy).1; simpa using this, fun x hx hl => ?_⟩
  · cases hc
    refine ⟨⟨m, hm, fun i x d _ hd => ?_⟩, hC, hne, fun i d hd => ?_, fun x hx => ?_, h1, h2⟩
    · rw [List.getElem?_replicate] at hd; split at hd <;> simp at hd
    · rw [List.getElem?_replicate] at hd; split at hd <;> simp at hd
    · obtain ⟨c, hc⟩ := free x (mem_of_lookup hx)
      rw [hc]; exact cloL_lookup (mem_of_lookup hx) hc
  · obtain ⟨i, hi⟩ := List.mem_iff_getElem?.mp hx
    obtain ⟨y, k⟩ := x
    simp only at hl
    subst hl
    exact lookup_of_get h2 hi
theorem comp_core {elt iter : Expr} {x : Str} {px : Pos} {ifs : List Expr} {rest : List Comprehension} {pos : Pos} {P : PT} {ct : St -> List PyData -> Option (List PyData × St)} {i : Nat}
    (ht : Turn W (.ListComp elt (⟨.Name x px, iter, ifs, 0⟩ :: rest) cs pos) 0 (.Name x px) ifs P) (hb : CB W k sc cs ifs P ct) (hr : resolve sc (some cs) x = some (.cmp i)) (hco : compOK sc cs = true)
    {ds : List PyData} {S S' : St} {ac' : List PyData} {nn : Nat} (h : compL i ct ds ⟨S.loc, List.replicate nn none⟩ [] = some (ac', S')) {A : Around} {cx : Cx} {vals cv : Nat -> Value} {g g₀ : Heap} {s s₀ : Shared} {f₀ : Addr -> Prop} {it : Value} {p q : Addr -> Prop}
    {T : List PyData -> Heap -> Heap -> Prop} {use : Option (Value -> Sem Unit)} {Q : Value -> Shared -> Prop} {E : Value -> Shared -> Prop} (Rm : Room A k) (e1 : cx.sc = sc) (e2 : cx.cp = none) (I : Inv W cx S vals cv g s.heap)
    (sr : Src W p q (.Name x px) it T) (hT : T ds g s.heap) (st : Step f₀ g₀ s₀ (Fp cx S vals) g s) (hp : ∀ a, p a -> s₀.heap.get? a = none) (hpq : ∀ a, p a ∨ q a -> g.get? a = none ∧ ¬ Fp cx S vals a)
    (K : ∀ C D cv' vs' n' g' s', Step f₀ g₀ s₀ (fun a => Fp { cx with cp := some (cs, cloL cx.env.cells cs.names [], C) } S' vals a ∨ a = D) g' s' -> Inv W { cx with cp := some (cs, cloL cx.env.cells cs.names [], C) } S' vals cv' g' s'.heap -> s'.heap.get? D = some (listO vs' n') ->
      RDs g' vs'.toList ac' -> g'.get? D = none -> ¬ Fp { cx with cp := some (cs, cloL cx.env.cells cs.names [], C) } S' vals D -> s₀.heap.get? D = none -> s₀.heap.get? C = none -> compPost W.M A E use Q (.ref D) C (.ok .next) s') :
    wpAny W.M A (newList []) (fun acc s₃ => wpAny W.M A (newFunctionEnv cs cx.env.globals (cloL cx.env.cells cs.names []) [] cx.env.qual none .none (some cx.env)) (fun cenv s₄ =>
      codeAny W.M A (.compStart (.ListComp elt (⟨.Name x px, iter, ifs, 0⟩ :: rest) cs pos) 0 it acc { cenv with scope := relabel cs cx.env }) (compPost W.M A E use Q acc cenv.locals) s₄) E s₃) E s := by
  subst e1
  have hkc : cs.kind = .function ∧ (∀ y ∈ cs.names, y.2 ≠ .cell) := by
    unfold compOK at hco
    simp only [Bool.and_eq_true, decide_eq_true_eq, List.all_eq_true] at hco
    exact ⟨hco.1.1, fun y hy => by have := (hco.2 y hy).1; simpa using this⟩
  refine wpAny_newObj_type (wpAny_newFunctionEnv hkc.2 (by intro y hy; simp at hy) (fun h₁ hns₁ hsb₁ => ?_) hkc.1)
  dsimp only at hns₁ hsb₁ ⊢
  generalize hH2 : s.heap.push { cls := .type "list", dict := none, data := .seq ([] : List Value).toArray } = H2 at hns₁ hsb₁ ⊢
  have hC : H2.objs.size = s.heap.objs.size + 1 := by rw [<- hH2, Heap.size_push]
  have hDC : s.heap.objs.size ≠ H2.objs.size := by rw [hC]; exact Nat.ne_of_lt (Nat.lt_succ_self _)
  have sC : s.heap.get? H2.objs.size = none := by
    cases e : s.heap.get? H2.objs.size with
    | none => rfl
    | some o => have := Heap.lt_size e; rw [hC] at this; exact (Nat.not_succ_lt_self this).elim
  have old : ∀ b o, s.heap.get? b = some o -> h₁.get? b = some o := fun b o e => hsb₁.extBut b o (fun q => by rw [q, sC] at e; cases e) (Heap.get?_push_of_some _ (hH2 ▸ Heap.get?_push_of_some _ e))
  have hD : h₁.get? s.heap.objs.size = some (listO #[] 0) := hsb₁.extBut _ _ hDC (Heap.get?_push_of_some _ (hH2 ▸ Heap.get?_push_size _ rfl))
  obtain ⟨st₁, I₁⟩ := I.grown (Grow.heap (s := s) (s' := { s with heap := h₁, toks := s.toks + ([] : List (Str × Value)).length }) I.le old rfl id)
  have fD : ¬ Fp cx S vals s.heap.objs.size := I.fresh size_none
  have fC : ¬ Fp cx S vals H2.objs.size := I.fresh sC
  obtain ⟨I₂, -, -, -, -⟩ := I₁.newComp (cs := cs) e2 hco hns₁ (I.le.none sC) (fun q => fC (.inl q)) nn
  have fp' : ∀ a, Fp { cx with cp := some (cs, cloL cx.env.cells cs.names [], H2.objs.size) } ⟨S.loc, List.replicate nn none⟩ vals a -> Fp cx S vals a ∨ a = H2.objs.size := by
    rintro a (q | q | q | ⟨c1, c2, q⟩ | q)
    · exact .inl (.inl q)
    · exact .inl (.inr (.inl q))
    · exact .inl (.inr (.inr (.inl q)))
    · cases q; exact .inr rfl
    · exact .inl (.inr (.inr (.inr (.inr q))))
  have stt := st.trans st₁
  have st₂ : Step f₀ g₀ s₀ (fun a => Fp { cx with cp := some (cs, cloL cx.env.cells cs.names [], H2.objs.size) } ⟨S.loc, List.replicate nn none⟩ vals a ∨ a = s.heap.objs.size) g { s with heap := h₁, toks := s.toks + ([] : List (Str × Value)).length } :=
    ⟨stt.gg, stt.hh, stt.gn, fun a ha => by
      rcases ha with ha | rfl
      · rcases fp' a ha with ha | rfl
        · exact stt.ff a ha
        · exact .inr (st.lv _ sC)
      · exact .inr (st.lv _ size_none), stt.lv, stt.os, stt.gens⟩
  have hT₁ := sr.frame _ _ _ _ h₁ hT Le.refl fun a o _ e => old a o e
  have nD : ¬ Fp { cx with cp := some (cs, cloL cx.env.cells cs.names [], H2.objs.size) } ⟨S.loc, List.replicate nn none⟩ vals s.heap.objs.size := fun q => (fp' _ q).elim fD hDC
  refine comp_start_raw (env := compEnvC cs (cloL cx.env.cells cs.names []) H2.objs.size cx.env) rfl ?_ fun Q E h => sr.iter ds g { s with heap := h₁, toks := s.toks + ([] : List (Str × Value)).length } hT₁ A Q E h
  refine comp_loop (cx := { cx with cp := some (cs, cloL cx.env.cells cs.names [], H2.objs.size) }) ht hb hr h Rm rfl rfl I₂ hD .nil (I.le.none size_none) nD sr hT₁ st₂ hp (fun a ha => ?_) fun cv' vs' n' g' s' st' I' x1 x2 x3 x4 => ?_
  · obtain ⟨o, ho⟩ := sr.live _ _ _ hT a ha
    refine ⟨(by rintro rfl; rw [size_none] at ho; cases ho), (hpq a ha).1, fun q => (fp' a q).elim (hpq a ha).2 fun q => ?_⟩
    subst q; rw [sC] at ho; cases ho
  · exact K H2.objs.size s.heap.objs.size cv' vs' n' g' s' st' I' x1 x2 x3 x4 (st.lv _ size_none) (st.lv _ sC)
end
section
variable {W : Wd} {k : Nat} {sc : Scope} {cs : Scope}
theorem comp_facts {cx : Cx} {S : St} {vals cv : Nat -> Value} {g : Heap} {h : Heap} (I : Inv W cx S vals cv g h) (hco : compOK cx.sc cs = true) :
    closureFor cs cx.env = pure (cloL cx.env.cells cs.names []) ∧ cs.kind = .function ∧ (∀ x ∈ cs.names, x.2 = .local -> cs.names.lookup x.1 = some .local) := by
  unfold compOK at hco
  simp only [Bool.and_eq_true, decide_eq_true_eq, List.all_eq_true] at hco
  obtain ⟨⟨h1, h2⟩, h3⟩ := hco
  refine ⟨closure_is fun x hx => ?_, h1, fun x hx hl => ?_⟩
  · have := (h3 _ hx).2
    simp only [bne_self_eq_false, Bool.false_or] at this
    split at this
    · rename_i i hf
      obtain ⟨_, q, _⟩ := find1_spec hf
      obtain ⟨c, _, hc, _⟩ := I.cell _ x q
      exact ⟨c, hc⟩
    · cases this
  · obtain ⟨i, hi⟩ := List.mem_iff_getElem?.mp hx
    obtain ⟨y, k⟩ := x
    simp only at hl
    subst hl
    exact lookup_of_get h2 hi
theorem Inv.uncomp {cx : Cx} {S : St} {vals cv : Nat -> Value} {g h : Heap} {p : Option (Scope × List (Str × Addr) × Addr)} (I : Inv W { cx with cp := p } S vals cv g h) (hcp : cx.cp = none) (cm : List (Option PyData)) (cv' : Nat -> Value) : Inv W cx ⟨S.loc, cm⟩ vals cv' g h :=
  ⟨I.le, I.wok, I.esc, I.nd, I.dict, I.gl, I.cell, I.gcell, I.cinj, I.rep, I.sep, fun _ _ _ q => (by rw [hcp] at q; cases q), I.mu⟩
theorem fp_comp {cx : Cx} {S : St} {vals : Nat -> Value} {p : Option (Scope × List (Str × Addr) × Addr)} {cm : List (Option PyData)} (hcp : cx.cp = none) {a : Addr} (h : Fp cx ⟨S.loc, cm⟩ vals a) : Fp { cx with cp := p } S vals a := by
  rcases h with h | h | h | ⟨c1, c2, h⟩ | h
  · exact .inl h
  · exact .inr (.inl h)
  · exact .inr (.inr (.inl h))
  · rw [hcp] at h; cases h
  · exact .inr (.inr (.inr (.inr h)))
theorem Inv.comp_out {cx : Cx} {S : St} {vals cv : Nat -> Value} {g h : Heap} {cl : List (Str × Addr)} {C : Addr} (I : Inv W { cx with cp := some (cs, cl, C) } S vals cv g h) (hcp : cx.cp = none) {cm : List (Option PyData)} : ¬ Fp cx ⟨S.loc, cm⟩ vals C := by
  have e : cx = { ({ cx with cp := some (cs, cl, C) } : Cx) with cp := none } := by cases cx; cases hcp; rfl
  rw [e]
  exact I.out rfl
theorem Step.sub {f₀ f f' : Addr -> Prop} {g₀ g : Heap} {s₀ s : Shared} (x : Step f₀ g₀ s₀ f g s) (h : ∀ a, f' a -> f a) : Step f₀ g₀ s₀ f' g s := ⟨x.gg, x.hh, x.gn, fun a q => x.ff a (h a q), x.lv, x.os, x.gens⟩
theorem Step.wide {f₀ f₁ f : Addr -> Prop} {g₀ g : Heap} {s₀ s : Shared} (x : Step f₀ g₀ s₀ f g s) (h : ∀ a, f₀ a -> f₁ a) : Step f₁ g₀ s₀ f g s :=
  ⟨x.gg, fun b o hb e => x.hh b o (fun q => hb (h b q)) e, fun a o ha hf e => x.gn a o ha (fun q => hf (h a q)) e, fun a q => (x.ff a q).imp (h a) id, x.lv, x.os, x.gens⟩
theorem comp_end {cx : Cx} {S : St} {vals cv : Nat -> Value} {g g₀ : Heap} {s s₀ : Shared} {cl : List (Str × Addr)} {C D : Addr} {vs : Array Value} {n : Nat} {f₀ : Addr -> Prop} (hcp : cx.cp = none)
    (st : Step f₀ g₀ s₀ (fun a => Fp { cx with cp := some (cs, cl, C) } S vals a ∨ a = D) g s) (I : Inv W { cx with cp := some (cs, cl, C) } S vals cv g s.heap) (x1 : s.heap.get? D = some (listO vs n)) (x4 : ¬ Fp { cx with cp := some (cs, cl, C) } S vals D) (hC : s₀.heap.get? C = none) (cm : List (Option PyData)) (cv' : Nat -> Value) :
    ∃ m, s.heap.Ns C m ∧ ∀ h', Heap.SameBut C s.heap h' -> Step f₀ g₀ s₀ (fun a => Fp cx ⟨S.loc, cm⟩ vals a ∨ a = D) g { s with heap := h' } ∧ Inv W cx ⟨S.loc, cm⟩ vals cv' g h' ∧ h'.get? D = some (listO vs n) ∧ ¬ Fp cx ⟨S.loc, cm⟩ vals D := by
  have Y := I.cmp cs cl C rfl
  obtain ⟨m, hm, _⟩ := Y.dict
  refine ⟨m, hm, fun h' sb => ?_⟩
  have y : IStep (· = C) g s g { s with heap := h' } := istep_but (p := (· = C)) (tk := s.toks) rfl I.le (fun a q => q ▸ Y.gC) (Heap.SameBut.extBut sb)
  have hDC : D ≠ C := by
    rintro rfl
    obtain ⟨o, es, ep, ho, hd, _⟩ := hm
    rw [x1] at ho; cases ho; cases hd
  refine ⟨(st.side y fun a q => q ▸ hC).sub fun a q => q.imp (fp_comp hcp) id, (I.uncomp hcp cm cv').side y fun a q => q ▸ I.comp_out hcp, y.hh D _ hDC x1, fun q => x4 (fp_comp hcp q)⟩
noncomputable def compF (nn i : Nat) (fi : St -> Option (List PyData × St)) (ct : St -> List PyData -> Option (List PyData × St)) (S : St) : Option (List PyData × St) :=
  (fi S).bind fun p => (compL i ct p.1 ⟨p.2.loc, List.replicate nn none⟩ []).map fun q => (q.1, ⟨q.2.loc, S.cmp⟩)
theorem evO_comp {elt iter : Expr} {x : Str} {px : Pos} {ifs : List Expr} {rest : List Comprehension} {pos : Pos} {P : PT} {ct : St -> List PyData -> Option (List PyData × St)} {i nn : Nat} {fi : St -> Option (List PyData × St)}
    (hi : EvIt W k sc none (.Name x px) iter fi) (ht : Turn W (.ListComp elt (⟨.Name x px, iter, ifs, 0⟩ :: rest) cs pos) 0 (.Name x px) ifs P) (hb : CB W k sc cs ifs P ct) (hr : resolve sc (some cs) x = some (.cmp i)) (hco : compOK sc cs = true)
    (hs : ∀ env x, foldedSetIterable iter env x = pure x) : EvO W k sc none (.ListComp elt (⟨.Name x px, iter, ifs, 0⟩ :: rest) cs pos) (compF nn i fi ct) := by
  intro S d S' h A cx vals cv g s Q E R e1 e2 I K
  simp only [compF, Option.bind_eq_some_iff, Option.map_eq_some_iff, Prod.exists, Prod.mk.injEq] at h
  obtain ⟨ds, S₁, h1, ac, S₂, h2, rfl, rfl⟩ := h
  have hcp : cx.cp = none := by cases q : cx.cp with | none => rfl | some p => simp [Cx.cs, q] at e2
  rw [Cx.ev_fn hcp, eval_ListComp]
  obtain ⟨c1, c2, c3⟩ := comp_facts (cs := cs) I (e1 ▸ hco)
  have X := hi _ _ _ h1 A cx vals cv g s (fun it s₂ => wpAny W.M A (newList []) (fun acc s₃ => wpAny W.M A (newFunctionEnv cs cx.env.globals (cloL cx.env.cells cs.names []) [] cx.env.qual none .none (some cx.env)) (fun cenv s₄ =>
      codeAny W.M A (.compStart (.ListComp elt (⟨.Name x px, iter, ifs, 0⟩ :: rest) cs pos) 0 it acc { cenv with scope := relabel cs cx.env }) (compPost W.M A E none Q acc cenv.locals) s₄) E s₃) E s₂) E R e1 e2 I fun it p T g₁ s₁ sr hT st₁ I₁ fr => ?_
  · rw [Cx.ev_fn hcp] at X
    exact wpAny_comprehension_free (use := none) rfl (hs _) c1 c2 c3 X
  have fr' : ∀ a, p a -> s.heap.get? a = none ∧ g₁.get? a = none ∧ ¬ Fp cx S₁ vals a := fr
  refine comp_core ht hb hr hco h2 R e1 hcp I₁ sr hT st₁ (fun a ha => (fr' a ha).1) (fun a ha => ha.elim (fun ha => (fr' a ha).2) False.elim) fun C D cv' vs' n' g' s' st' I' x1 x2 x3 x4 x5 x6 => ?_
  obtain ⟨m, hm, hk⟩ := comp_end hcp st' I' x1 x4 x6 S.cmp cv
  refine ⟨m, hm, fun h' sb => ?_⟩
  obtain ⟨y1, y2, y3, y4⟩ := hk h' sb
  exact K D vs' n' g' _ (y1.sub fun a q => .inl q) y2 x5 y3 x2 x3 y4
theorem ex_compUse {elt iter : Expr} {x : Str} {px : Pos} {ifs : List Expr} {rest : List Comprehension} {pos : Pos} {P : PT} {ct : St -> List PyData -> Option (List PyData × St)} {i nn : Nat} {fi : St -> Option (List PyData × St)} {y : Str} {py spos : Pos} {j : Nat}
    (hi : EvIt W k sc none (.Name x px) iter fi) (ht : Turn W (.ListComp elt (⟨.Name x px, iter, ifs, 0⟩ :: rest) cs pos) 0 (.Name x px) ifs P) (hb : CB W k sc cs ifs P ct) (hr : resolve sc (some cs) x = some (.cmp i)) (hco : compOK sc cs = true)
    (hs : ∀ env x, foldedSetIterable iter env x = pure x) (hy : resolve sc none y = some (.loc j)) (hsw : ∀ env, env.scope = sc -> swapsWith (.ListComp elt (⟨.Name x px, iter, ifs, 0⟩ :: rest) cs pos) (some (.Name y py)) spos.line env = pure true) :
    Ex W k sc (.Assign [.Name y py] (.ListComp elt (⟨.Name x px, iter, ifs, 0⟩ :: rest) cs pos) spos) (asgO j (compF nn i fi ct)) := by
  intro S fl S' h A cx vals cv g s Q E R e1 hcp I K
  simp only [asgO, compF, Option.bind_eq_some_iff, Option.map_eq_some_iff, Prod.exists, Prod.mk.injEq] at h
  obtain ⟨ac, S₂, ⟨ds, S₁, h1, ac', S₂', h2, rfl, rfl⟩, rfl, rfl⟩ := h
  obtain ⟨c1, c2, c3⟩ := comp_facts (cs := cs) I (e1 ▸ hco)
  have X := hi _ _ _ h1 A cx vals cv g s (fun it s₂ => wpAny W.M A (newList []) (fun acc s₃ => wpAny W.M A (newFunctionEnv cs cx.env.globals (cloL cx.env.cells cs.names []) [] cx.env.qual none .none (some cx.env)) (fun cenv s₄ =>
      codeAny W.M A (.compStart (.ListComp elt (⟨.Name x px, iter, ifs, 0⟩ :: rest) cs pos) 0 it acc { cenv with scope := relabel cs cx.env }) (compPost W.M A E (some (assign (.Name y py) cx.env)) (fun _ s' => Q .next s') acc cenv.locals) s₄) E s₃) E s₂) E R e1 (Cx.cs_fn hcp) I fun it p T g₁ s₁ sr hT st₁ I₁ fr => ?_
  · rw [Cx.ev_fn hcp] at X
    rw [exec_Assign_Name_used _ _ _ _ (hsw _ (I.esc.1.trans e1))]
    refine wpAny_bind (wpAny_standAt (wpAny_bind ?_))
    show wpAny _ A (do let _ <- comprehension (.ListComp elt (⟨.Name x px, iter, ifs, 0⟩ :: rest) cs pos) cs cx.env _ (newList []) false (eval iter cx.env) (some (assign (.Name y py) cx.env))) _ _ s
    exact wpAny_bind (wpAny_mono (wpAny_comprehension_free (use := some (assign (.Name y py) cx.env)) (Q := fun _ s' => Q .next s') rfl (hs _) c1 c2 c3 X) (fun _ s' hq => wpAny_pure (wpAny_pure hq)) fun _ _ e => e)
  have fr' : ∀ a, p a -> s.heap.get? a = none ∧ g₁.get? a = none ∧ ¬ Fp cx S₁ vals a := fr
  refine comp_core ht hb hr hco h2 R e1 hcp I₁ sr hT st₁ (fun a ha => (fr' a ha).1) (fun a ha => ha.elim (fun ha => (fr' a ha).2) False.elim) fun C D cv' vs' n' g' s' st' I' x1 x2 x3 x4 x5 x6 => ?_
  have Y := I'.cmp cs _ C rfl
  have hDf : ¬ Fp cx ⟨S₂'.loc, []⟩ vals D := fun q => x4 (fp_comp hcp q)
  have hCf : ¬ Fp cx ⟨S₂'.loc, []⟩ vals C := I'.comp_out hcp
  obtain ⟨m, hm, _⟩ := Y.dict
  show wpAny W.M A (assign (.Name y py) cx.env (.ref D)) (fun _ s'' => ∃ m, s''.heap.Ns C m ∧ ∀ h', Heap.SameBut C s''.heap h' -> Q .next { s'' with heap := h' }) E s'
  refine PyProof.Rows.assign_Name ?_
  refine (I'.uncomp hcp [] cv).store3 (st'.sub fun a q => .inl (fp_comp hcp q)) hcp (e1 ▸ hy) (.own ac') (.ref D) ⟨D, vs', n', rfl, x1, x2, x3⟩ (fun b q => by cases q; exact ⟨x5, hDf⟩) fun s'' st'' I'' keep => ?_
  have hDC : D ≠ C := by
    rintro rfl
    obtain ⟨o, es, ep, ho, hd, _⟩ := hm
    rw [x1] at ho; cases ho; cases hd
  have hCf' : ¬ Fp cx ⟨setL S₂'.loc j (.own ac'), []⟩ (upd vals j (.ref D)) C := fun q => (fp_set q).elim hCf fun q => by cases q; exact hDC rfl
  refine ⟨m, Heap.Ns.of_get hm fun o e => keep C o hCf e, fun h' sb => ?_⟩
  have z : IStep (· = C) g' s'' g' { s'' with heap := h' } := istep_but (p := (· = C)) (tk := s''.toks) rfl I''.le (fun a q => q ▸ Y.gC) (Heap.SameBut.extBut sb)
  exact K .next _ g' _ (st''.side z fun a q => q ▸ x6) (I''.side z fun a q => q ▸ hCf') rfl
theorem src_own {x : Str} {px : Pos} {it l : Addr} {vs : Array Value} {n : Nat} {l₀ : List PyData} (hne : l ≠ it) : Src W (· = it) (· = l) (.Name x px) (.ref it) (fun ds g h => ∃ i, h.IsListIter it l i ∧ h.get? l = some (listO vs n) ∧ RDs g vs.toList l₀ ∧ ds = l₀.drop i) where
  frame := fun ds g h g' h' ⟨i, a, b, c, d⟩ kg kh => ⟨i, by obtain ⟨o, e, r⟩ := a; exact ⟨o, kh it o (.inl rfl) e, r⟩, kh l _ (.inr rfl) b, RDs.le kg c, d⟩
  live := fun ds g h ⟨i, ⟨o, e, _⟩, b, _⟩ a ha => ha.elim (fun ha => ⟨o, by rw [ha]; exact e⟩) fun ha => by rw [ha]; exact ⟨_, b⟩
  iter := fun ds g s ⟨i, a, _⟩ A Q E h => wpAny_pyIter_listiter a h
  next := fun d ds g s ⟨i, a, b, c, e⟩ le gp A Q E hh K => by
    obtain ⟨e1, e2⟩ := drop_uncons e.symm
    obtain ⟨v, hv, hr⟩ := c.get e1
    refine wpAny_pyNext_list_item a (isList_of b) (by simpa using hv) fun h' a' x => ⟨v, rfl, ?_⟩
    have y := istep_but (p := (· = it)) (tk := s.toks) rfl le gp (Heap.SameBut.extBut x)
    exact wpAny_pure (K v g _ y ⟨i + 1, a', y.hh l _ hne b, c, e2.symm⟩ hr)
  done := fun g s ⟨i, a, b, c, e⟩ le gp A Q E hh K => by
    have : l₀.length ≤ i := by simpa using e.symm
    refine wpAny_pyNext_list_end hh a (isList_of b) (by simp; rw [<- Array.length_toList, c.len]; exact this) fun h' x => ?_
    exact K g _ (istep_but (p := (· = it)) (tk := s.toks) rfl le gp x)
noncomputable def hidOf : Option (Option Loc) -> Option Unit
  | some (some .hid) => some ()
  | _ => none
theorem hidOf_some {d : Option (Option Loc)} {u} (h : hidOf d = some u) : d = some (some .hid) := by
  unfold hidOf at h
  split at h
  · rfl
  · cases h
noncomputable def compOwnF (nn i j : Nat) (ct : St -> List PyData -> Option (List PyData × St)) (S : St) : Option (List PyData × St) :=
  (ownOf S.loc[j]?).bind fun l => (compL i ct l ⟨setL S.loc j .hid, List.replicate nn none⟩ []).bind fun q => (hidOf q.2.loc[j]?).map fun _ => (q.1, ⟨setL q.2.loc j (.own l), S.cmp⟩)
theorem evO_compOwn {elt : Expr} {x y : Str} {px py : Pos} {ifs : List Expr} {rest : List Comprehension} {pos : Pos} {P : PT} {ct : St -> List PyData -> Option (List PyData × St)} {i j nn : Nat}
    (hy : resolve sc none y = some (.loc j)) (ht : Turn W (.ListComp elt (⟨.Name x px, .Name y py, ifs, 0⟩ :: rest) cs pos) 0 (.Name x px) ifs P) (hb : CB W k sc cs ifs P ct) (hr : resolve sc (some cs) x = some (.cmp i)) (hco : compOK sc cs = true) :
    EvO W k sc none (.ListComp elt (⟨.Name x px, .Name y py, ifs, 0⟩ :: rest) cs pos) (compOwnF nn i j ct) := by
  intro S d S' h A cx vals cv g s Q E R e1 e2 I K
  simp only [compOwnF, Option.bind_eq_some_iff, Option.map_eq_some_iff, Prod.exists, Prod.mk.injEq] at h
  obtain ⟨l, hl, ac, S₂, h2, _, hh, rfl, rfl⟩ := h
  have hl := ownOf_some hl
  have hh := hidOf_some hh
  have hcp : cx.cp = none := by cases q : cx.cp with | none => rfl | some p => simp [Cx.cs, q] at e2
  rw [Cx.ev_fn hcp, eval_ListComp]
  obtain ⟨c1, c2, c3⟩ := comp_facts (cs := cs) I (e1 ▸ hco)
  obtain ⟨a, vs, n, hva, ha, hrd, hga⟩ := own_at I hl
  refine wpAny_comprehension_free (use := none) rfl (fun _ => rfl) c1 c2 c3 ?_
  show wpAny W.M A (eval (.Name y py) cx.env) _ _ _
  refine wpAny_Name (I.loadFn hcp (e1 ▸ hy) hl ?_) (resolve_debug hy)
  rw [hva]
  refine wpAny_pyIter_list (isList_of ha) ?_
  have hfa : Fp cx S vals a := .inr (.inr (.inl ⟨j, _, hl, by rw [hva]; rfl⟩))
  have I₁ : Inv W cx ⟨setL S.loc j .hid, S.cmp⟩ vals cv g s.heap := I.hid hl
  have hoa : ownA (.own l) (vals j) = some a := by rw [hva]; rfl
  have sub : ∀ b, Fp cx ⟨setL S.loc j .hid, S.cmp⟩ vals b -> Fp cx S vals b := fun b => I.sub_slot (l' := .hid) hl hoa fun b q => nomatch (show none = some b from q)
  have nfa : ¬ Fp cx ⟨setL S.loc j .hid, S.cmp⟩ vals a := I.hid_out hl hoa
  obtain ⟨st₂, I₂⟩ := I₁.grown (grow_push0 (s := s) (o := { cls := .type "list_iterator", data := .fields #[.ref a, .int 0 0] }) I₁.le)
  have hne : a ≠ s.heap.objs.size := by rintro rfl; rw [size_none] at ha; cases ha
  refine comp_core ht hb hr hco h2 R e1 hcp I₂ (src_own (vs := vs) (n := n) hne) ⟨0, ⟨_, Heap.get?_push_size _ rfl, rfl, rfl⟩, le_push _ _ ha, hrd, by simp⟩ st₂ (fun b q => q ▸ size_none)
    (fun b q => q.elim (fun q => by subst q; exact ⟨I.le.none size_none, I₁.fresh size_none⟩) fun q => by subst q; exact ⟨hga, nfa⟩) fun C D cv' vs' n' g' s' st' I' x1 x2 x3 x4 x5 x6 => ?_
  obtain ⟨m, hm, hk⟩ := comp_end hcp st' I' x1 x4 x6 S.cmp cv
  refine ⟨m, hm, fun h' sb => ?_⟩
  obtain ⟨y1, y2, y3, y4⟩ := hk h' sb
  have ha' := y1.hh a _ nfa ha
  have hga' := y1.gn a _ ha nfa hga
  have nfa' : ¬ (Fp cx ⟨S₂.loc, S.cmp⟩ vals a ∨ a = D) := y1.off ha nfa
  have hown : ∀ b, ownA (.own l) (vals j) = some b -> b = a := fun b q => by rw [hva] at q; cases q; rfl
  have I₃ : Inv W cx ⟨setL S₂.loc j (.own l), S.cmp⟩ vals cv g' h' := y2.slot (l := .own l) hh ⟨a, vs, n, hva, ha', RDs.le y1.gg hrd, hga'⟩ (fun b q i' li hne hi hb => by
    rw [hown b q] at hb; exact nfa' (.inl (.inr (.inr (.inl ⟨i', li, hi, hb⟩)))))
  have fpb : ∀ b, Fp cx ⟨setL S₂.loc j (.own l), S.cmp⟩ vals b -> Fp cx ⟨S₂.loc, S.cmp⟩ vals b ∨ b = a := fun b h => (fp_setL h).imp id (hown b)
  refine K D vs' n' g' _ ?_ I₃ x5 y3 x2 x3 fun q => (fpb D q).elim y4 fun q => nfa' (.inr q.symm)
  have y1' := y1.wide fun b q => sub b q
  exact ⟨y1'.gg, y1'.hh, y1'.gn, fun b q => (fpb b q).elim (fun q => y1'.ff b (.inl q)) fun q => .inl (q ▸ hfa), y1'.lv, y1'.os, y1'.gens⟩
end
section
variable {W : Wd} {k : Nat} {sc : Scope} {cs : Option Scope}
noncomputable def un1 (o : PyData -> Option PyData) (f : St -> Option (PyData × St)) (S : St) : Option (PyData × St) := (f S).bind fun p => (o p.1).map fun d => (d, p.2)
theorem un1_some {o f S d S'} (h : un1 o f S = some (d, S')) : ∃ a, f S = some (a, S') ∧ o a = some d := by
  simp only [un1, Option.bind_eq_some_iff, Option.map_eq_some_iff, Prod.exists, Prod.mk.injEq] at h
  obtain ⟨a, S₁, h1, d', h2, rfl, rfl⟩ := h
  exact ⟨a, h1, h2⟩
noncomputable def negD : PyData -> Option PyData
  | .int i => some (.int (-i))
  | _ => none
theorem ev_neg {x : Expr} {pos : Pos} {f : St -> Option (PyData × St)} (hx : Ev W k sc cs x f) : Ev W k sc cs (.UnaryOp .USub x pos) (un1 negD f) := by
  intro S d S' h A cx vals cv g s Q E R e1 e2 I K
  obtain ⟨a, h1, h2⟩ := un1_some h
  refine PySem.wpAny_UnaryOp (hx _ _ _ h1 A cx vals cv g s _ E R e1 e2 I fun v g' s' st I' r => ?_)
  unfold negD at h2
  split at h2
  · cases h2
    obtain ⟨t, rfl⟩ := r.of_int
    obtain ⟨st2, I2⟩ := I'.toks (s'.toks + 1)
    exact PyProof.Rows.neg_int (K _ _ _ (st.trans st2) I2 (.int ..))
  · cases h2
theorem slice_cut {x y : Str} {lo hi : Option Int} (h : cutS x lo hi = some y) : Txt.slice x lo hi = y := by
  have h0 := h
  unfold Txt.slice
  split
  · rename_i hl
    simp only [BEq.rfl, Bool.true_and, beq_iff_eq] at hl
    rcases cut_picked h with ⟨e, _⟩ | ⟨e, e2⟩
    · unfold cutS at h0
      split at h0
      · rename_i hq
        cases h0
        obtain ⟨rfl, hq⟩ := hq
        cases lo with
        | none =>
          have : x.length = 0 := by simp at hq; exact hq
          obtain ⟨c⟩ := x
          have : c = #[] := Array.eq_empty_of_size_eq_zero this
          subst this; rfl
        | some i =>
          rw [indices_beyond (by simpa using hq), StrLaws.sliceIdx_none_hi, StrLaws.strSliceIndices_plain (Nat.le_refl _) (Nat.le_refl _)] at hl
          simp at hl
          obtain ⟨c⟩ := x
          have : c = #[] := Array.eq_empty_of_size_eq_zero hl.symm
          subst this; rfl
      · rw [Option.ite_none_right_eq_some] at h0
        obtain ⟨⟨h0, h1, h2, h3⟩, h4⟩ := h0
        cases h4
        have e1 : strSliceIndices lo hi 1 x.length = strSliceIndices (some (((lo.getD 0).toNat : Nat) : Int)) (some (((hi.getD x.length).toNat : Nat) : Int)) 1 x.length := by
          have a1 : (((lo.getD 0).toNat : Nat) : Int) = lo.getD 0 := by lia
          have a2 : (((hi.getD x.length).toNat : Nat) : Int) = hi.getD x.length := by lia
          rw [a1, a2]
          cases lo with
          | none =>
            cases hi with
            | none => rw [StrLaws.sliceIdx_none_lo, StrLaws.sliceIdx_none_hi]; rfl
            | some j => rw [StrLaws.sliceIdx_none_lo]; rfl
          | some i =>
            cases hi with
            | none => rw [StrLaws.sliceIdx_none_hi]; rfl
            | some j => rfl
        rw [e1, StrLaws.strSliceIndices_plain (by omega) (by omega)] at hl
        simp at hl
        have hlo : lo.getD 0 = 0 := by omega
        have hhi : (hi.getD x.length) = x.length := by lia
        rw [hlo, hhi]
        obtain ⟨c⟩ := x
        simp [Str.length]
        rw [List.take_of_length_le (by simp)]
    · rw [e2] at hl
      simp at hl
      obtain ⟨c⟩ := x
      have : c = #[] := Array.eq_empty_of_size_eq_zero hl.symm
      subst this
      rw [e]; rfl
  · rcases cut_picked h with ⟨e, _⟩ | ⟨e, e2⟩
    · exact e
    · rw [e, e2]; rfl
noncomputable def cutF (f : St -> Option (PyData × St)) (lo hi : St -> Option (Option Int × St)) (S : St) : Option (PyData × St) :=
  (f S).bind fun p => (lo p.2).bind fun a => (hi a.2).bind fun b => (strOf p.1).bind fun x => if x.length ≤ 1000000 then (cutS x a.1 b.1).map fun y => (.str y, b.2) else none
theorem cut_raw {A : Around} {E : Value -> Shared -> Prop} {s : Shared} {env : Env} {value : Expr} {lower upper : Option Expr} {p pos : Pos} {Q : Value -> Shared -> Prop}
    (h : wpAny W.M A (eval value env) (fun o s₁ => wpAny W.M A (evalPart lower env) (fun vl s₂ => wpAny W.M A (evalPart upper env) (fun vu s₃ =>
      ∃ x t l u, o = .str x t ∧ vl = partValue l ∧ vu = partValue u ∧ (sliceMade x t l u none).post Q { s₃ with heap := s₃.heap.push { cls := .type "slice", data := .fields #[vl, vu, .none] } }) E s₂) E s₁) E s) :
    wpAny W.M A (eval (.Subscript value (.Slice lower upper none p) pos) env) Q E s := by
  rw [eval_Subscript]
  refine wpAny_bind (wpAny_mono h (fun o s₁ h₁ => wpAny_bind (wpAny_holding (wpAny_Slice (wpAny_mono h₁ (fun vl s₂ h₂ => wpAny_mono h₂ (fun vu s₃ h₃ => ?_) fun _ _ e => e) fun _ _ e => e)))) fun _ _ e => e)
  obtain ⟨x, t, l, u, rfl, rfl, rfl, hQ⟩ := h₃
  rw [evalPart_none]
  have ty := typeIs_str { s₃ with heap := s₃.heap.push { cls := .type "slice", data := .fields #[partValue l, partValue u, .none] } } x t
  refine wpAny_pure (wpAny_bind (wpAny_standAt (wpAny_bind ?_)))
  rw [getitemInPython_of_ne ty.not_modules]
  refine wpAny_bind (wpAny_specialOf ty PySem.F.slot_str_getitem.lookup ?_)
  exact wpAny_pure (wpAny_bind (wpAny_operating (wpAny_mono (wpAny_getItem_str_slice (l := l) (u := u) (st := none) ⟨_, Heap.get?_push_size _ rfl, rfl, rfl⟩ rfl hQ) (fun r s₃ h₃ => wpAny_bind (wpAny_letTemporaryGo (wpAny_pure h₃))) fun _ _ e => e)))
theorem ev_cut {v : Expr} {lower upper : Option Expr} {p pos : Pos} {f : St -> Option (PyData × St)} {lo hi : St -> Option (Option Int × St)} (hv : Ev W k sc cs v f) (hl : EvP W k sc cs lower lo) (hu : EvP W k sc cs upper hi) :
    Ev W k sc cs (.Subscript v (.Slice lower upper none p) pos) (cutF f lo hi) := by
  intro S d S' h A cx vals cv g s Q E R e1 e2 I K
  simp only [cutF, Option.bind_eq_some_iff, Option.map_eq_some_iff, Option.ite_none_right_eq_some, Prod.exists, Prod.mk.injEq] at h
  obtain ⟨d₀, S₁, h1, a, S₂, h2, b, S₃, h3, x, hx, hz, y, hy, rfl, rfl⟩ := h
  obtain rfl := strOf_some hx
  refine cut_raw (hv _ _ _ h1 A cx vals cv g s _ E R e1 e2 I fun v g₁ s₁ st₁ I₁ r₁ => ?_)
  refine hl _ _ _ h2 A cx vals cv g₁ s₁ _ E R e1 e2 I₁ fun vl g₂ s₂ st₂ I₂ r₂ => ?_
  refine hu _ _ _ h3 A cx vals cv g₂ s₂ _ E R e1 e2 I₂ fun vu g₃ s₃ st₃ I₃ r₃ => ?_
  obtain ⟨t, rfl⟩ := r₁.of_str
  obtain ⟨ta, rfl⟩ := r₂
  obtain ⟨tb, rfl⟩ := r₃
  refine ⟨x, t, _, _, rfl, rfl, rfl, ?_⟩
  have hsl := slice_cut hy
  unfold sliceMade
  refine post_val_or_str ?_
  have e : (if (((none : Option (Int × Tok)).map (·.1)).getD 1 == 1 && (slicePicked x (a.map (·, ta)) (b.map (·, tb)) none).length == x.length) = true then x else ⟨((slicePicked x (a.map (·, ta)) (b.map (·, tb)) none).filterMap (x.cps[·]?)).toArray⟩) = y := by
    rw [<- hsl]
    unfold Txt.slice slicePicked
    have ea : (a.map (·, ta)).map (·.1) = a := by cases a <;> rfl
    have eb : (b.map (·, tb)).map (·.1) = b := by cases b <;> rfl
    rw [ea, eb]
    rfl
  rw [e]
  have hyl : y.length ≤ x.length := by
    unfold cutS at hy
    split at hy
    · cases hy; simp [Str.empty, Str.length]
    · rw [Option.ite_none_right_eq_some] at hy
      obtain ⟨_, hy⟩ := hy
      cases hy
      simp [Str.length]
      omega
  refine ⟨by have : sizeLine = 16777216 := rfl; lia, fun t' c => ?_⟩
  obtain ⟨st₄, I₄⟩ := I₃.grown (grow_push0 (s := s₃) (o := { cls := .type "slice", data := .fields #[partValue (a.map (·, ta)), partValue (b.map (·, tb)), .none] }) I₃.le)
  obtain ⟨st₅, I₅⟩ := I₄.toks c
  exact K _ _ _ ((((st₁.trans st₂).trans st₃).trans st₄).trans st₅) I₅ (.str ..)
noncomputable def revS (x : Str) : Str := ⟨x.cps.toList.reverse.toArray⟩
theorem rev_picked (x : Str) : (⟨((strSliceIndices none none (-1) x.length).filterMap (x.cps[·]?)).toArray⟩ : Str) = revS x := by
  unfold revS
  rw [picked_rev]
  congr 2
  obtain ⟨⟨l⟩⟩ := x
  simp only [Str.length, List.size_toArray, List.getElem?_toArray]
  rw [List.filterMap_map]
  have : ∀ n, n ≤ l.length -> (List.range n).filterMap ((fun i => l[i]?) ∘ fun k => l.length - 1 - k) = (l.drop (l.length - n)).reverse := by
    intro n
    induction n with
    | zero => intro _; simp
    | succ n ih =>
      intro hn
      rw [List.range_succ, List.filterMap_append, ih (by lia)]
      have hi : l.length - 1 - n < l.length := by omega
      simp only [List.filterMap_cons, List.filterMap_nil, Function.comp, List.getElem?_eq_getElem hi]
      have e : l.length - (n + 1) = l.length - 1 - n := by lia
      rw [e, List.drop_eq_getElem_cons hi, List.reverse_cons]
      congr 3
      grind
  have := this l.length (Nat.le_refl _)
  simpa using this
noncomputable def revF (f : St -> Option (PyData × St)) (S : St) : Option (PyData × St) := (f S).bind fun p => (strOf p.1).bind fun x => if x.length ≤ 1000000 then some (.str (revS x), p.2) else none
theorem ev_rev {v : Expr} {kk : Nat} {p pos upos cpos : Pos} {f : St -> Option (PyData × St)} (hv : Ev W k sc cs v f) (ht : ∀ o r, letTemporaryGo v o r = pure ()) :
    Ev W k sc cs (.Subscript v (.Slice none none (some (.UnaryOp .USub (.Constant (.int 1) kk cpos) upos)) p) pos) (revF f) := by
  intro S d S' h A cx vals cv g s Q E R e1 e2 I K
  simp only [revF, Option.bind_eq_some_iff, Option.ite_none_right_eq_some, Option.some.injEq, Prod.exists, Prod.mk.injEq] at h
  obtain ⟨d₀, S₁, h1, x, hx, hz, rfl, rfl⟩ := h
  obtain rfl := strOf_some hx
  refine wpAny_Subscript_Slice_step PySem.F.slot_str_getitem.lookup (hv _ _ _ h1 A cx vals cv g s _ E R e1 e2 I fun v g₁ s₁ st₁ I₁ r₁ => ?_) ht
  obtain ⟨t, rfl⟩ := r₁.of_str
  refine wpAny_Slice (evalPart_none_step (evalPart_none_step (evalPart_some_step (PySem.wpAny_UnaryOp (wpAny_Constant_int (PyProof.Rows.neg_int ⟨rfl, ?_⟩))))))
  refine wpAny_getItem_str_slice (l := none) (u := none) (st := some (-1, s₁.toks + 1)) ⟨_, Heap.get?_push_size _ rfl, rfl, rfl⟩ rfl ?_
  unfold sliceMade
  refine post_val_or_str ?_
  have e : (if (((some ((-1 : Int), s₁.toks + 1)).map (·.1)).getD 1 == 1 && (slicePicked x none none (some (-1, s₁.toks + 1))).length == x.length) = true then x else ⟨((slicePicked x none none (some (-1, s₁.toks + 1))).filterMap (x.cps[·]?)).toArray⟩) = revS x := by
    rw [if_neg (by simp)]
    exact rev_picked x
  rw [e]
  refine ⟨by have : sizeLine = 16777216 := rfl; simp [revS, Str.length] at hz ⊢; lia, fun t' c => ?_⟩
  obtain ⟨st₂, I₂⟩ := I₁.toks (s₁.toks + 1 + 1)
  obtain ⟨st₄, I₄⟩ := I₂.grown (grow_push0 (s := { s₁ with toks := s₁.toks + 1 + 1 }) (o := { cls := .type "slice", data := .fields #[.none, .none, .int (-1) (s₁.toks + 1)] }) I₂.le)
  obtain ⟨st₅, I₅⟩ := I₄.toks c
  exact K _ _ _ (((st₁.trans st₂).trans st₄).trans st₅) I₅ (.str ..)
noncomputable def cutOwn (i : Nat) (lo : St -> Option (Option Int × St)) (S : St) : Option (List PyData × St) :=
  (ownOf S.loc[i]?).bind fun _ => (lo S).bind fun p => (ownOf p.2.loc[i]?).bind fun l => p.1.bind fun j => if 0 ≤ j ∧ l.length ≤ 1000000 then some (l.drop j.toNat, p.2) else none
theorem evO_cutOwn {x : Str} {np : Pos} {i : Nat} {lower : Option Expr} {p pos : Pos} {lo : St -> Option (Option Int × St)} (hr : resolve sc cs x = some (.loc i)) (hl : EvP W k sc cs lower lo) :
    EvO W k sc cs (.Subscript (.Name x np) (.Slice lower none none p) pos) (cutOwn i lo) := by
  intro S d S' h A cx vals cv g s Q E R e1 e2 I K
  simp only [cutOwn, Option.bind_eq_some_iff, Option.ite_none_right_eq_some, Option.some.injEq, Prod.exists, Prod.mk.injEq] at h
  obtain ⟨l₀, h0, a, S₁, h1, l, hl', j, rfl, ⟨hj, hz⟩, rfl, rfl⟩ := h
  subst e1 e2
  refine wpAny_Subscript_list_slice (wpAny_Name (I.load hr (ownOf_some h0) ?_) (resolve_debug hr))
  refine hl _ _ _ h1 A cx vals cv g s _ E R rfl rfl I fun vl g₁ s₁ st₁ I₁ r₁ => ?_
  refine evalPart_none_step ?_
  obtain ⟨t, rfl⟩ := r₁
  obtain ⟨b, vs, n, hv, ha, hrd, hg⟩ := own_at I₁ (ownOf_some hl')
  have hsz := hrd.len
  rw [Array.length_toList] at hsz
  refine ⟨b, vs, some j, none, hv, isList_of ha, by have : sizeLine = 16777216 := rfl; lia, .int j t, .none, ?_⟩
  have ej : j = ((j.toNat : Nat) : Int) := by lia
  have e : slicePick vs (some j) none none = (vs.toList.drop j.toNat).toArray := by
    have := slicePick_from' vs j.toNat
    rwa [<- ej] at this
  rw [e]
  obtain ⟨st₂, I₂⟩ := I₁.grown (grow_push0 (s := s₁) (o := { cls := .type "slice", data := .fields #[partValue ((some j).map (·, t)), .none, .none] }) I₁.le)
  obtain ⟨st₃, I₃⟩ := I₂.grown (grow_push0 (s := { s₁ with heap := s₁.heap.push { cls := .type "slice", data := .fields #[partValue ((some j).map (·, t)), .none, .none] } }) (o := listO (vs.toList.drop j.toNat).toArray 0) I₂.le)
  have st := st₁.trans st₂
  have sz : (s₁.heap.push { cls := .type "slice", data := .fields #[partValue ((some j).map (·, t)), .none, .none] }).objs.size = s₁.heap.objs.size + 1 := Heap.size_push ..
  refine K (s₁.heap.objs.size + 1) _ 0 _ _ (st.trans st₃) I₃ ?_ ?_ (by simpa using hrd.drop j.toNat) ?_ ?_
  · rw [<- sz]; exact st.lv _ size_none
  · rw [<- sz]; exact Heap.get?_push_size _ rfl
  · rw [<- sz]; exact I₂.le.none size_none
  · rw [<- sz]; exact I₂.fresh size_none
noncomputable def isBoolD : PyData -> Option PyData
  | .int _ => some (.bool false)
  | .bool _ => some (.bool true)
  | _ => none
theorem ev_isBool {f b : Str} {np bp pos : Pos} {x : Expr} {g : St -> Option (PyData × St)} (hf : resolve sc cs f = some .glob) (hfg : (f, .builtin "isinstance") ∈ W.globs) (hb : resolve sc cs b = some .glob) (hbg : (b, .type "bool") ∈ W.globs) (hx : Ev W k sc cs x g)
    (hs : ∀ env, starEach [x, .Name b bp] env = [(false, eval x env), (false, eval (.Name b bp) env)]) : Ev W k sc cs (.Call (.Name f np) [x, .Name b bp] [] pos) (un1 isBoolD g) := by
  intro S d S' h A cx vals cv gh s Q E R e1 e2 I K
  obtain ⟨a, h1, h2⟩ := un1_some h
  subst e1 e2
  refine wpAny_Call_NameR (I.loadGlob hf hfg ?_)
  refine PyProof.Rows.callWith_builtin1 (?_ : wpAny W.M A (spliced (backTo pos (starEach [x, .Name b bp] cx.ev))) _ _ _) (hs _) rfl
  rw [hs]
  refine spliced_cons (hx _ _ _ h1 A cx vals cv gh s _ E R rfl rfl I fun v g' s' st I' r => ?_)
  refine spliced_cons (I'.loadGlob hb hbg (spliced_nil ?_))
  unfold isBoolD at h2
  split at h2
  · cases h2
    obtain ⟨t, rfl⟩ := r.of_int
    exact call_isinstance (isinstance_false_int (by decide) PySem.F.isi_meta_bool PySem.F.sub_int_bool) (K _ _ _ (st.trans (I'.toks _).1) (I'.toks _).2 (.bool ..))
  · cases h2
    rw [r.of_bool]
    exact call_isinstance (isinstance_true (Tx := "bool") PySem.F.isi_meta_bool PySem.F.sub_bool_bool) ⟨rfl, K _ _ _ st I' (.bool ..)⟩
  · cases h2
noncomputable def tabF (tab : Str -> Option Int) (f : St -> Option (PyData × St)) (S : St) : Option (PyData × St) := (f S).bind fun p => (strOf p.1).bind fun x => (tab x).map fun i => (.int i, p.2)
noncomputable def TabAt (W : Wd) (a : Addr) (tab : Str -> Option Int) : Prop :=
  ∀ x i, tab x = some i -> ∀ (A : Around) g s t (Q : Value -> Shared -> Prop) (E : Value -> Shared -> Prop), WOK W g -> Le g s.heap -> (∀ t' tk, Q (.int i t') { s with toks := tk }) -> s.TypeIs (.ref a) "dict" ∧ wpAny W.M A (getItem (.ref a) (.str x t)) Q E s
theorem ev_tab {d : Str} {np pos : Pos} {sl : Expr} {a : Addr} {tab : Str -> Option Int} {f : St -> Option (PyData × St)} (hd : resolve sc cs d = some .glob) (hdg : (d, .ref a) ∈ W.globs) (ht : TabAt W a tab) (hs : Ev W k sc cs sl f)
    (hsl : ∀ o i, subscripted sl false o i = operate [o, i] (getItem o i)) : Ev W k sc cs (.Subscript (.Name d np) sl pos) (tabF tab f) := by
  intro S d' S' h A cx vals cv gh s Q E R e1 e2 I K
  simp only [tabF, Option.bind_eq_some_iff, Option.map_eq_some_iff, Prod.exists, Prod.mk.injEq] at h
  obtain ⟨k₀, S₁, h1, x, hx, i, hi, rfl, rfl⟩ := h
  obtain rfl := strOf_some hx
  subst e1 e2
  refine Subscript_ (I.loadGlob hd hdg ?_)
  refine hs _ _ _ h1 A cx vals cv gh s _ E R rfl rfl I fun v g' s' st I' r => ?_
  obtain ⟨t, rfl⟩ := r.of_str
  obtain ⟨h3, h4⟩ := ht x i hi A g' s' t Q E I'.wok I'.le fun t' tk => K _ _ _ (st.trans (I'.toks tk).1) (I'.toks tk).2 (.int ..)
  exact tail_any h3 slot_dict_getitem.lookup h4 (hsl _ _)
noncomputable def repF (f g : St -> Option (PyData × St)) (S : St) : Option (List PyData × St) :=
  (f S).bind fun p => (g p.2).bind fun q => (lstOf p.1).bind fun l => (intOf q.1).bind fun n => if 0 ≤ n ∧ n ≤ 1000 ∧ l.length ≤ 100 ∧ l ≠ [] then some ((List.replicate n.toNat l).flatten, q.2) else none
theorem foldl_rep {g : Heap} {vs : Array Value} {l : List PyData} (r : RDs g vs.toList l) : ∀ n, RDs g (List.foldl (fun x1 x2 => x1 ++ x2) #[] (List.replicate n vs)).toList (List.replicate n l).flatten := by
  intro n
  have : (List.foldl (fun x1 x2 => x1 ++ x2) #[] (List.replicate n vs)) = (List.replicate n vs.toList).flatten.toArray := by
    have := foldl_append_flat (List.replicate n vs) #[]
    rw [this]
    simp
  rw [this]
  simp only [List.toList_toArray]
  induction n with
  | zero => exact .nil
  | succ n ih =>
    rw [List.replicate_succ, List.replicate_succ, List.flatten_cons, List.flatten_cons]
    exact r.append (ih (by
      have := foldl_append_flat (List.replicate n vs) #[]
      rw [this]
      simp))
theorem evO_rep {l r : Expr} {pos : Pos} {f g : St -> Option (PyData × St)} (hl : Ev W k sc cs l f) (hr : Ev W k sc cs r g) : EvO W k sc cs (.BinOp l .Mult r pos) (repF f g) := by
  intro S d S' h A cx vals cv gh s Q E R e1 e2 I K
  simp only [repF, Option.bind_eq_some_iff, Option.ite_none_right_eq_some, Option.some.injEq, Prod.exists, Prod.mk.injEq] at h
  obtain ⟨a, S₁, h1, b, S₂, h2, xs, hxs, n, hn, ⟨hn0, hn1, hlen, hne⟩, rfl, rfl⟩ := h
  obtain rfl := lstOf_some hxs
  obtain rfl := intOf_some hn
  refine wpAny_BinOp (hl _ _ _ h1 A cx vals cv gh s _ E R e1 e2 I fun va g₁ s₁ st₁ I₁ r₁ => ?_)
  refine hr _ _ _ h2 A cx vals cv g₁ s₁ _ E R e1 e2 I₁ fun vb g₂ s₂ st₂ I₂ r₂ => ?_
  obtain ⟨c, vs, m, rfl, x1, x4⟩ := (RD.le st₂.gg r₁).of_list
  obtain ⟨u, rfl⟩ := r₂.of_int
  have lx := x4.len
  rw [Array.length_toList] at lx
  have hl := I₂.le _ _ x1
  have hemp : vs.isEmpty = false := by
    cases q : vs.isEmpty with
    | false => rfl
    | true =>
      rw [Array.isEmpty_iff] at q
      subst q
      simp at lx
      exact absurd (List.eq_nil_of_length_eq_zero lx.symm) hne
  have hmul : vs.size * n.toNat ≤ 100 * 1000 := Nat.mul_le_mul (by lia) (by lia)
  refine wpAny_binaryOp_repeat_ref (T := "list") (U := "int") (by decide) ⟨_, hl, rfl⟩ (fun s' => typeIs_int s' n u) noFill_list_mul PySem.F.fills_int_mul PySem.F.slot_int_rmul repeat_list PySem.F.slot_int_index.lookup
    (call_meets PySem.F.slot_int_rmul (typeIs_int s₂ n u) PySem.F.entry_int_rmul (PySem.F.args_int_rmul_2 _ _) (int___rmul___int_list n u c vs m)
      ⟨hl, rfl, ⟨_, hl, rfl⟩, call_meets PySem.F.slot_list_mul ⟨_, hl, rfl⟩ PySem.F.entry_list_mul (PySem.F.args_list_mul_2 _ _)
        (AutoListH.list___mul___list_int_3 c vs m n u (by simp [Builtin.List.listFitsIndex]; lia) (by lia) (by simp [Builtin.List.listTooLong, sizeLine]; lia))
        ⟨hl, ?_⟩⟩)
  rw [hemp]
  simp only [Bool.false_eq_true, if_false]
  obtain ⟨st', I'⟩ := I₂.grown (grow_push0 (s := s₂) (o := listO (List.foldl (fun x1 x2 => x1 ++ x2) #[] (List.replicate n.toNat vs)) 0) I₂.le)
  have st₃ := st₁.trans st₂
  exact K _ _ 0 _ _ (st₃.trans st') I' (st₃.lv _ size_none) (Heap.get?_push_size _ rfl) (foldl_rep x4 _) (I₂.le.none size_none) (I₂.fresh size_none)
end
noncomputable def leS (x y : Str) : Bool := !decide (y.cps.toList < x.cps.toList)
noncomputable def insS (x : Str) : List Str -> List Str
  | [] => [x]
  | y :: r => if leS x y then x :: y :: r else y :: insS x r
noncomputable def sortS : List Str -> List Str
  | [] => []
  | x :: r => insS x (sortS r)
theorem insS_perm (x : Str) : ∀ l, (insS x l).Perm (x :: l)
  | [] => .refl _
  | y :: r => by
    unfold insS
    split
    · exact .refl _
    · exact ((insS_perm x r).cons y).trans (.swap ..)
theorem sortS_perm : ∀ l, (sortS l).Perm l
  | [] => .refl _
  | x :: r => (insS_perm x _).trans ((sortS_perm r).cons x)
theorem leS_iff {x y : Str} : leS x y = true ↔ ¬ y.cps.toList < x.cps.toList := by simp [leS]
theorem leS_total (x y : Str) : leS x y = true ∨ leS y x = true := by
  rw [leS_iff, leS_iff]
  by_cases h : y.cps.toList < x.cps.toList
  · exact .inr fun h' => List.lt_irrefl _ (List.lt_trans h h')
  · exact .inl h
theorem leS_trans {x y z : Str} (h1 : leS x y = true) (h2 : leS y z = true) : leS x z = true := by
  rw [leS_iff] at *
  rw [List.not_lt] at *
  exact List.le_trans h1 h2
theorem leS_antisymm {x y : Str} (h1 : leS x y = true) (h2 : leS y x = true) : x = y := by
  rw [leS_iff, List.not_lt] at *
  have := List.le_antisymm h1 h2
  obtain ⟨⟨a⟩⟩ := x; obtain ⟨⟨b⟩⟩ := y
  simp_all
theorem insS_sorted {x : Str} : ∀ {l : List Str}, l.Pairwise (leS · · = true) -> (insS x l).Pairwise (leS · · = true)
  | [], _ => by simp [insS]
  | y :: r, h => by
    unfold insS
    rw [List.pairwise_cons] at h
    split
    · rename_i q
      exact List.pairwise_cons.mpr ⟨fun z hz => by
        rcases List.mem_cons.mp hz with rfl | hz
        · exact q
        · exact leS_trans q (h.1 z hz), List.pairwise_cons.mpr h⟩
    · rename_i q
      refine List.pairwise_cons.mpr ⟨fun z hz => ?_, insS_sorted h.2⟩
      rcases List.mem_cons.mp ((insS_perm x r).mem_iff.mp hz) with rfl | hz
      · exact (leS_total z y).resolve_left q
      · exact h.1 z hz
theorem sortS_sorted : ∀ l, (sortS l).Pairwise (leS · · = true)
  | [] => List.Pairwise.nil
  | x :: r => insS_sorted (sortS_sorted r)
theorem sorted_unique : ∀ {l l' : List Str}, l.Perm l' -> l.Pairwise (leS · · = true) -> l'.Pairwise (leS · · = true) -> l = l'
  | [], l', p, _, _ => p.nil_eq
  | x :: r, [], p, _, _ => p.symm.nil_eq.symm
  | x :: r, y :: r', p, h, h' => by
    have h₀ := List.pairwise_cons.mp h
    have h₁ := List.pairwise_cons.mp h'
    have e : x = y := by
      rcases List.mem_cons.mp (p.mem_iff.mp (.head _) : x ∈ y :: r') with e | hx
      · exact e
      · rcases List.mem_cons.mp (p.mem_iff.mpr (.head _) : y ∈ x :: r) with e | hy
        · exact e.symm
        · exact leS_antisymm (h₀.1 y hy) (h₁.1 x hx)
    subst e
    rw [sorted_unique (List.Perm.cons_inv p) h₀.2 h₁.2]
theorem strs_of_rd {g : Heap} : ∀ {xs : List Str} {vs : List Value}, StrsAre vs xs -> RDs g vs (xs.map .str)
  | _, _, .nil => .nil
  | _, _, .cons x t h => .cons (.str ..) (strs_of_rd h)
theorem strs_snoc {x : Str} {t : Tok} : ∀ {vs : List Value} {xs : List Str}, StrsAre vs xs -> StrsAre (vs ++ [.str x t]) (xs ++ [x])
  | _, _, .nil => .cons x t .nil
  | _, _, .cons y u h => .cons y u (strs_snoc h)
theorem key_out : ∀ {ks vs : List Value} {ss : List Str}, StrsAre ks ss -> StrsAre vs ss -> ∀ p ∈ ks.zip vs, ∃ x t u, p = (.str x t, .str x u)
  | _, _, _, .nil, .nil => fun p hp => by simp at hp
  | _, _, _, .cons x t h, .cons _ u h' => fun p hp => by
    rw [List.zip_cons_cons] at hp
    rcases List.mem_cons.mp hp with rfl | hp
    · exact ⟨x, t, u, rfl⟩
    · exact key_out h h' p hp
theorem zip_strs : ∀ {ks vs : List Value} {ss : List Str}, StrsAre ks ss -> StrsAre vs ss -> (ks.zip vs).map (fun p => PyProof.Rows.strOf p.1) = ss
  | _, _, _, .nil, .nil => rfl
  | _, _, _, .cons x t h, .cons _ u h' => by
    rw [List.zip_cons_cons, List.map_cons, zip_strs h h']; rfl
theorem strsAre_of : ∀ {l : List Keyed}, (∀ p ∈ l, ∃ x t u, p = (.str x t, .str x u)) -> StrsAre (l.map (·.2)) (l.map fun p => PyProof.Rows.strOf p.1)
  | [], _ => .nil
  | p :: l, h => by
    obtain ⟨x, t, u, rfl⟩ := h _ (.head _)
    exact .cons _ _ (strsAre_of fun q hq => h q (.tail _ hq))
theorem out_sorted {ks vs : List Value} {ss : List Str} (hk : StrsAre ks ss) (hv : StrsAre vs ss) {xs : Array Keyed} (hp : xs.toList.Perm (ks.zip vs)) (hs : SortedToK strKind xs xs.size) : StrsAre (xs.map (·.2)).toList (sortS ss) := by
  have hmem : ∀ p ∈ xs.toList, ∃ x t u, p = (.str x t, .str x u) := fun p h => key_out hk hv p (hp.mem_iff.mp h)
  have h1 := strsAre_of hmem
  have h2 : (xs.toList.map fun p => PyProof.Rows.strOf p.1).Perm ss := by
    have := hp.map (fun p => PyProof.Rows.strOf p.1)
    rwa [zip_strs hk hv] at this
  have h3 : (xs.toList.map fun p => PyProof.Rows.strOf p.1).Pairwise (leS · · = true) := by
    rw [List.pairwise_iff_getElem]
    intro i j hi hj hij
    have hi' : i < xs.size := by simpa using hi
    have hj' : j < xs.size := by simpa using hj
    have h1 := hs i j (Nat.le_of_lt hij) hj'
    obtain ⟨x, t, u, ex⟩ := hmem xs[i] (by simp)
    obtain ⟨y, t', u', ey⟩ := hmem xs[j] (by simp)
    rw [KK_str hi' (x := x) (t := t) (q := .str x u) ex, KK_str hj' (x := y) (t := t') (q := .str y u') ey] at h1
    change decide (y.cps.toList < x.cps.toList) = false at h1
    simp only [List.getElem_map, Array.getElem_toList]
    rw [ex, ey]
    show leS x y = true
    rw [leS_iff]; simpa using h1
  have h4 := sorted_unique (h2.trans (sortS_perm ss).symm) h3 (sortS_sorted ss)
  rw [h4] at h1
  rw [Array.toList_map]
  exact h1
section
variable {prog : Program} {w : World} {A : Around} {E : Value -> Shared -> Prop} {s₀ : Shared} {g : Heap}
structure SortAt (g : Heap) (s₀ : Shared) (g' : Heap) (s : Shared) (D kS : Addr) (ds : Array Value) (e1 : Nat) (ks : Array Value) : Prop where
  grow : Grow g s₀ g' s
  d : s.heap.get? D = some (seqObj "list" ds e1)
  k : ∃ e, s.heap.get? kS = some (seqObj "list" ks e)
  ne : kS ≠ D
  nd : s₀.heap.get? D = none
  nk : s₀.heap.get? kS = none
  gd : g'.get? D = none
  gk : g'.get? kS = none
theorem SortAt.upd {g' : Heap} {s : Shared} {D kS : Addr} {ds : Array Value} {e1 : Nat} {ks : Array Value} (X : SortAt g s₀ g' s D kS ds e1 ks) {a : Addr} (ha : a = D ∨ a = kS) (f : Array Value -> Array Value) : Grow g s₀ g' { s with heap := s.heap.update a (Obj.mapSeq f) } := by
  have sb := Heap.SameBut.update s.heap a (Obj.mapSeq f)
  have na : s₀.heap.get? a = none ∧ g'.get? a = none := by rcases ha with rfl | rfl; exact ⟨X.nd, X.gd⟩; exact ⟨X.nk, X.gk⟩
  have G := X.grow
  exact ⟨fun b o e => sb.extBut b o (by rintro rfl; rw [na.1] at e; cases e) (G.le _ _ e), G.os, G.gens, G.gg, fun b o e => sb.extBut b o (by rintro rfl; rw [na.2] at e; cases e) (G.gl _ _ e), G.gn⟩
theorem SortAt.push {g' : Heap} {s : Shared} {D kS : Addr} {ds : Array Value} {e1 : Nat} {ks : Array Value} (X : SortAt g s₀ g' s D kS ds e1 ks) (f : Array Value -> Array Value) : SortAt g s₀ g' { s with heap := s.heap.update kS (Obj.mapSeq f) } D kS ds e1 (f ks) := by
  obtain ⟨e, he⟩ := X.k
  exact ⟨X.upd (.inr rfl) f, (Heap.SameBut.update s.heap kS (Obj.mapSeq f)).extBut D _ (Ne.symm X.ne) X.d, ⟨_, get?_update_seq he f⟩, X.ne, X.nd, X.nk, X.gd, X.gk⟩
theorem my_tail {g' : Heap} {s : Shared} {D kS : Addr} {e1 : Nat} {ks : Array Value} {st : SortSt} {P : PySem.Fin -> Shared -> Prop} (X : SortAt g s₀ g' s D kS #[] e1 ks) (hks : ks.size ≤ 64) (hfl : failedOf st = none) (hsz : (arrOf st).size ≤ 64)
    (h : ∀ s', Grow g s₀ g' s' -> (∃ c, s'.heap.get? D = some (listO ((arrOf st).map (·.2)) c)) -> P (.done (.ret .none)) s') : wpAny (model prog w) A (ksk_tail D false e1 (.ref kS) st) P E s := by
  obtain ⟨e, he⟩ := X.k
  have X1 := X.push fun _ => #[]
  unfold ksk_tail
  simp only [Bool.false_eq_true, if_false]
  have hz1 : ks.size ≤ sizeLine := by rw [sizeLine_eq]; lia
  have hz2 : ((arrOf st).map (·.2)).size ≤ sizeLine + 1 := by rw [Array.size_map, sizeLine_eq]; lia
  refine wpAny_bind (listUpdate_at he rfl ?_ hz1 (Nat.zero_le _))
  refine wpAny_bind (wpAny_letGo ?_)
  refine wpAny_bind (seqEpoch_at X1.d rfl ?_)
  refine wpAny_bind (listUpdate_at X1.d rfl ?_ (Nat.zero_le _) hz2)
  rw [hfl]
  simp only [bne_self_eq_false, Bool.false_eq_true, if_false]
  have G := X1.upd (a := D) (.inl rfl) fun _ => (arrOf st).map (·.2)
  have hc := get?_update_seq X1.d fun _ => (arrOf st).map (·.2)
  exact wpAny_pure (h _ G ⟨_, hc⟩)
theorem kind_strs {keys : Array Value} {ss : List Str} (hk : StrsAre keys.toList ss) (h2 : 2 ≤ keys.size) : keyKind' keys = pure oneType' := by
  obtain ⟨v₁, v₂, rest, e⟩ : ∃ v₁ v₂ rest, keys.toList = v₁ :: v₂ :: rest := by
    have hl : 2 ≤ keys.toList.length := by rw [Array.length_toList]; exact h2
    cases q : keys.toList with
    | nil => rw [q] at hl; simp at hl
    | cons v₁ r =>
      cases r with
      | nil => rw [q] at hl; simp at hl
      | cons v₂ rest => exact ⟨v₁, v₂, rest, rfl⟩
  have ek : keys = (v₁ :: v₂ :: rest).toArray := by rw [<- e, Array.toArray_toList]
  rw [e] at hk
  rw [ek]
  exact keyKind_strs hk
theorem strs_len : ∀ {vs : List Value} {ss : List Str}, StrsAre vs ss -> vs.length = ss.length
  | _, _, .nil => rfl
  | _, _, .cons x t h => by simp [strs_len h]
theorem my_end {g' : Heap} {s : Shared} {D kS : Addr} {e1 : Nat} {ks : Array Value} {vs : List Value} {ss : List Str} {P : PySem.Fin -> Shared -> Prop} (X : SortAt g s₀ g' s D kS #[] e1 ks) (hk : StrsAre ks.toList ss) (hv : StrsAre vs ss) (h64 : ss.length < 64)
    (h : ∀ s' out c, Grow g s₀ g' s' -> s'.heap.get? D = some (listO out c) -> StrsAre out.toList (sortS ss) -> P (.done (.ret .none)) s') : wpAny (model prog w) A (ksk_end D false vs.toArray e1 (.ref kS) ks) P E s := by
  have l1 := strs_len hk
  have l2 := strs_len hv
  rw [Array.length_toList] at l1
  have hzs : (ks.zip vs.toArray).size = ss.length := by
    have hz : vs.toArray.size = vs.length := List.size_toArray ..
    rw [Array.size_zip, hz]; grind
  have zl : (ks.zip vs.toArray).toList = ks.toList.zip vs := ksk_zip ks vs
  unfold ksk_end
  simp only [Bool.false_eq_true, if_false]
  by_cases h2 : vs.toArray.size < 2
  · rw [if_pos h2, if_pos h2]
    refine wpAny_bind (wpAny_pure ?_)
    rw [StateT.run_pure]
    refine wpAny_bind (wpAny_pure ?_)
    try dsimp only
    refine my_tail (st := SortSt.mk' general' (ks.zip vs.toArray) #[] 7 none) X (by lia) rfl (by show (ks.zip vs.toArray).size ≤ 64; lia) fun s' G ⟨c, hc⟩ => ?_
    refine h s' _ c G hc (out_sorted hk hv (by show (ks.zip vs.toArray).toList.Perm _; rw [zl]) ?_)
    intro i j hij hj
    have hj2 : j < (ks.zip vs.toArray).size := hj
    rw [List.size_toArray] at h2
    have : i = j := by lia
    subst this
    exact strKind.irrefl _
  · rw [if_neg h2, if_neg h2]
    rw [List.size_toArray] at h2
    rw [kind_strs hk (by lia)]
    refine wpAny_bind (wpAny_pure ?_)
    have h0 : KeysOf strKind (ks.zip vs.toArray) := fun p hp => by
      rw [zl] at hp
      obtain ⟨x, t, u, rfl⟩ := key_out hk hv p hp
      exact ⟨_, rfl⟩
    refine wpAny_bind (wpAny_mono (wpS_sortRunsK (κ := strKind) (a₀ := ks.zip vs.toArray) (st := SortSt.mk' oneType' (ks.zip vs.toArray) #[] 7 none)
      (Q := fun _ st' => (arrOf st').Perm (ks.zip vs.toArray) ∧ failedOf st' = none ∧ SortedToK strKind (arrOf st') (ks.zip vs.toArray).size)
      strKind_oneLt h0 ⟨Array.Perm.refl _, rfl, rfl, rfl⟩ (by rw [hzs]; lia) (by rw [hzs]; exact h64) fun st' a1 a2 a3 => ⟨a1, a2, a3⟩) ?_ fun _ _ e => e)
    rintro ⟨⟨⟩, st'⟩ s' ⟨rfl, hp, hf, hs⟩
    try dsimp only
    refine my_tail X (by lia) hf (by rw [hp.size_eq, hzs]; lia) fun s' G ⟨c, hc⟩ => ?_
    refine h s' _ c G hc (out_sorted hk hv ?_ (by rw [hp.size_eq]; exact hs))
    rw [<- zl]; exact Array.perm_iff_toList_perm.mp hp
end
section
variable {W : Wd} {k : Nat}
noncomputable def IdStr (o : List PyData -> Option PyData) : Prop := ∀ x, o [.str x] = some (.str x)
theorem SortAt.step {g g' g'' : Heap} {s₀ s s' : Shared} {D kS : Addr} {ds : Array Value} {e1 : Nat} {ks : Array Value} (X : SortAt g s₀ g' s D kS ds e1 ks) (G : Grow g' s g'' s') : SortAt g s₀ g'' s' D kS ds e1 ks := by
  obtain ⟨e, he⟩ := X.k
  exact ⟨X.grow.trans G, G.le _ _ X.d, ⟨e, G.le _ _ he⟩, X.ne, X.nd, X.nk, G.gn _ _ X.d X.gd, G.gn _ _ he X.gk⟩
theorem strs_get : ∀ {vs : List Value} {ss : List Str} {i : Nat} {v : Value}, StrsAre vs ss -> vs[i]? = some v -> ∃ x t, v = .str x t ∧ ss[i]? = some x
  | _, _, i, v, .nil, h => by simp at h
  | _, _, 0, v, .cons x t r, h => by simp at h; exact ⟨x, t, h.symm, by simp⟩
  | _, _, i + 1, v, .cons x t r, h => by simp at h; obtain ⟨y, u, e, q⟩ := strs_get r h; exact ⟨y, u, e, by simpa using q⟩
theorem my_rest {A : Around} {E : Value -> Shared -> Prop} {g g₁ : Heap} {s₀ s : Shared} {D kS : Addr} {e1 : Nat} {vs : List Value} {ss : List Str} {f : Value} {o : List PyData -> Option PyData} {P : PySem.Fin -> Shared -> Prop} (hf : OpN W k (fun vs => call f vs) o) (hid : IdStr o) (R : Room A k) (ok : WOK W g)
    (X : SortAt g s₀ g₁ s D kS #[] e1 #[]) (hv : StrsAre vs ss) (h64 : ss.length < 64)
    (h : ∀ g' s' out c, Grow g s₀ g' s' -> s'.heap.get? D = some (listO out c) -> g'.get? D = none -> StrsAre out.toList (sortS ss) -> P (.done (.ret .none)) s') : wpAny W.M A (ksk_rest D f false vs.toArray e1 (.ref kS)) P E s := by
  unfold ksk_rest
  refine wpAny_bind (wpAny_rule ?_)
  first
    | rw [List.forIn_toArray]
    | (rw [<- Array.forIn_toList]; simp only [List.toList_toArray])
    | rw [<- Array.forIn_toList]
  refine wpAny_bind (ksk_fold (fun i s' => ∃ g' ks, SortAt g s₀ g' s' D kS #[] e1 ks ∧ StrsAre ks.toList (ss.take i)) vs 0 s ⟨g₁, #[], X, by simpa using StrsAre.nil⟩ ?step ?done)
  case step =>
    rintro j v s' hx ⟨g', ks, X', hk⟩
    simp only [Nat.zero_add] at hk ⊢
    obtain ⟨x, t, rfl, hj⟩ := strs_get hv hx
    have hl := strs_len hk
    rw [Array.length_toList, List.length_take] at hl
    refine wpAny_bind (wpAny_attempt (hf [.str x] _ (hid x) A g' s' [.str x t] _ _ R (ok.le X'.grow.gg) X'.grow.gl (.cons (.str ..) .nil) fun u g'' s'' G r => ?_))
    obtain ⟨t', rfl⟩ := r.of_str
    have X'' := X'.step G
    obtain ⟨e, he⟩ := X''.k
    have hz1 : ks.size ≤ sizeLine := by rw [sizeLine_eq]; lia
    have hz2 : (ks.push (.str x t')).size ≤ sizeLine + 1 := by rw [Array.size_push, sizeLine_eq]; lia
    have X3 := X''.push (·.push (.str x t'))
    try dsimp only
    refine wpAny_bind (listUpdate_at he rfl ?_ hz1 hz2)
    refine wpAny_pure ⟨rfl, g'', ks.push (.str x t'), X3, ?_⟩
    have ek : ss.take (j + 1) = ss.take j ++ [x] := by rw [List.take_add_one, hj]; simp
    have ea : (ks.push (Value.str x t')).toList = ks.toList ++ [Value.str x t'] := by simp
    rw [ea, ek]
    exact strs_snoc hk
  case done =>
    rintro s' ⟨g', ks, X', hk⟩
    have hk' : StrsAre ks.toList ss := by
      have e3 : ss.take (0 + vs.length) = ss := List.take_of_length_le (by have := strs_len hv; lia)
      rw [e3] at hk
      exact hk
    obtain ⟨e, he⟩ := X'.k
    try dsimp only
    refine wpAny_bind (listItems_at he rfl ?_)
    exact my_end X' hk' hv h64 fun s'' out c G hD ho => h g' s'' out c G hD X'.gd ho
theorem Room.in1 {A : Around} (R : Room A (k + 1)) : Room A.in1.in1 k := ⟨R.h, by have := R.d; show A.depth + k + 50 ≤ 1000; lia, by have := R.u; show A.units + 1 + 1 + 20 * k + 1000 ≤ 9900; lia, R.f⟩
theorem my_sorted {A : Around} {E : Value -> Shared -> Prop} {g : Heap} {s : Shared} {l q : Addr} {vs : List Value} {ss : List Str} {o : List PyData -> Option PyData} {Q : Value -> Shared -> Prop} (hf : OpN W k (fun vs => call (.ref q) vs) o) (hid : IdStr o) (R : Room A (k + 1)) (ok : WOK W g) (le : Le g s.heap)
    (hl : s.heap.IsList l vs.toArray) (hv : StrsAre vs ss) (h64 : ss.length < 64)
    (h : ∀ D g' s' out c, Grow g s g' s' -> s.heap.get? D = none -> s'.heap.get? D = some (listO out c) -> g'.get? D = none -> StrsAre out.toList (sortS ss) -> Q (.ref D) s') : wpAny W.M A (call (.builtin "sorted") [.ref l] [(Str.ofString "key", .ref q)]) Q E s := by
  have hlen := strs_len hv
  refine call_function_entry_kw kind_sorted plain_sorted entry_sorted (ksk_s1 _ _) ?_
  unfold Builtin.«sorted»
  refine wpAny_bind (m := checkCount "sorted" 1 1 _) (wpAny_pure ?_)
  refine wpAny_bind (collect_list hl ?_ (by rw [sizeLine_eq]; lia))
  refine wpAny_bind (wpAny_newList ?_ (by rw [sizeLine_eq]; lia))
  have hsz : ((s.heap.push (seqObj "list" #[] 0)).update s.heap.objs.size (Obj.mapSeq (· ++ vs.toArray))).objs.size = s.heap.objs.size + 1 := by
    rw [Heap.size_update, size_push']
  have hoL : (((s.heap.push (seqObj "list" #[] 0)).update s.heap.objs.size (Obj.mapSeq (· ++ vs.toArray))).push (seqObj "list" vs.toArray 0)).get? (s.heap.objs.size + 1) = some (seqObj "list" vs.toArray 0) := by
    rw [<- hsz]; exact Heap.get?_push_size _ rfl
  have keep : ∀ b o, s.heap.get? b = some o -> (((s.heap.push (seqObj "list" #[] 0)).update s.heap.objs.size (Obj.mapSeq (· ++ vs.toArray))).push (seqObj "list" vs.toArray 0)).get? b = some o := fun b o q => by
    have hlt : b < s.heap.objs.size := Heap.lt_size q
    rw [Heap.get?_push_ne _ _ _ (by rw [hsz]; exact Nat.ne_of_lt (Nat.lt_succ_of_lt hlt)), Heap.get?_update_ne _ _ _ _ (Nat.ne_of_lt hlt), Heap.get?_push_ne _ _ _ (Nat.ne_of_lt hlt)]
    exact q
  show wpAny _ _ _ _ _ { s with heap := ((s.heap.push (seqObj "list" #[] 0)).update s.heap.objs.size (Obj.mapSeq (· ++ vs.toArray))).push (seqObj "list" vs.toArray 0) }
  rw [hsz]
  generalize hH : ((s.heap.push (seqObj "list" #[] 0)).update s.heap.objs.size (Obj.mapSeq (· ++ vs.toArray))).push (seqObj "list" vs.toArray 0) = H at hoL keep ⊢
  have big : ∀ a, s.heap.objs.size ≤ a -> s.heap.get? a = none := fun a ha => by
    cases e : s.heap.get? a with
    | none => rfl
    | some o => exact absurd (Heap.lt_size e) (Nat.not_lt.mpr ha)
  have nD : s.heap.get? (s.heap.objs.size + 1) = none := big _ (Nat.le_succ _)
  have nD' : ∀ a, a = s.heap.objs.size + 1 -> s.heap.get? a = none := fun a q => q ▸ nD
  refine wpAny_bind (wpAny_holding (wpAny_call_entry_kw slot_list_sort ⟨_, hoL, rfl⟩ entry_list_sort ?body (ksk_l1 _ _)))
  case body =>
    show wpAny W.M A.in1.in1 (Builtin.«list.sort» ⟨[.ref (s.heap.objs.size + 1)], [(Str.ofString "key", .ref q)]⟩) _ _ _
    rw [ksk_t1]
    generalize s.heap.objs.size + 1 = D at hoL nD nD' ⊢
    obtain ⟨e1, ho1⟩ : ∃ e1, (H.update D (Obj.mapSeq fun _ => (#[] : Array Value))).get? D = some (seqObj "list" #[] e1) := ⟨_, get?_update_seq hoL fun _ => #[]⟩
    have hDH : D < H.objs.size := Heap.lt_size hoL
    have k1 : ∀ b o, s.heap.get? b = some o -> (H.update D (Obj.mapSeq fun _ => (#[] : Array Value))).get? b = some o := fun b o e =>
      (Heap.SameBut.update H D (Obj.mapSeq fun _ => (#[] : Array Value))).extBut b o (by rintro rfl; rw [nD] at e; cases e) (keep b o e)
    have sHk : s.heap.objs.size ≤ H.objs.size := by
      rw [<- hH, size_push', hsz]; exact Nat.le_trans (Nat.le_succ _) (Nat.le_succ _)
    have hkS : ((H.update D (Obj.mapSeq fun _ => (#[] : Array Value))).push (seqObj "tuple" vs.toArray 0)).objs.size = H.objs.size + 1 := by rw [size_push', Heap.size_update]
    unfold ksk_tree
    refine wpAny_bind (listItems_at hoL rfl ?_)
    refine wpAny_bind (listUpdate_at hoL rfl ?_ (by rw [List.size_toArray, sizeLine_eq]; lia) (Nat.zero_le _))
    refine wpAny_bind (seqEpoch_at ho1 rfl ?_)
    refine wpAny_bind (wpAny_newTuple ?_ (by show vs.length ≤ _; rw [sizeLine_eq]; lia))
    refine wpAny_bind (wpAny_newList ?_ (Nat.zero_le _))
    refine wpAny_holding ?_
    have k2 : ∀ b o, (H.update D (Obj.mapSeq fun _ => (#[] : Array Value))).get? b = some o -> (((H.update D (Obj.mapSeq fun _ => (#[] : Array Value))).push (seqObj "tuple" vs.toArray 0)).push (seqObj "list" #[] 0)).get? b = some o := fun b o e => Heap.get?_push_of_some _ (Heap.get?_push_of_some _ e)
    have G : Grow g s g { s with heap := ((H.update D (Obj.mapSeq fun _ => (#[] : Array Value))).push (seqObj "tuple" vs.toArray 0)).push (seqObj "list" #[] 0) } := Grow.heap le (fun b o e => k2 b o (k1 b o e)) rfl id
    have nk : s.heap.get? ((H.update D (Obj.mapSeq fun _ => (#[] : Array Value))).push (seqObj "tuple" vs.toArray 0)).objs.size = none := big _ (by rw [hkS]; exact Nat.le_succ_of_le sHk)
    refine my_rest (s := { s with heap := ((H.update D (Obj.mapSeq fun _ => (#[] : Array Value))).push (seqObj "tuple" vs.toArray 0)).push (seqObj "list" #[] 0) }) (kS := ((H.update D (Obj.mapSeq fun _ => (#[] : Array Value))).push (seqObj "tuple" vs.toArray 0)).objs.size) hf hid R.in1 ok
      ⟨G, k2 _ _ ho1, ⟨0, Heap.get?_push_size _ rfl⟩, by rw [hkS]; exact Nat.ne_of_gt (Nat.lt_succ_of_lt hDH), nD, nk, le.none nD, le.none nk⟩ hv h64 fun g' s' out c G' hD gD ho => ⟨_, rfl, ?_⟩
    exact wpAny_pure ⟨_, rfl, h _ g' s' out c G' nD hD gD ho⟩
noncomputable def sortF (f : St -> Option (PyData × St)) (S : St) : Option (List PyData × St) := (f S).bind fun p => (lstOf p.1).bind fun l => (isStrs l).bind fun ss => if ss.length < 64 then some ((sortS ss).map .str, p.2) else none
theorem evO_sorted {sc : Scope} {cs : Option Scope} {fs ks : Str} {np kp kpos pos : Pos} {e : Expr} {f : St -> Option (PyData × St)} {q : Addr} {o : List PyData -> Option PyData} (hf : resolve sc cs fs = some .glob) (hfg : (fs, .builtin "sorted") ∈ W.globs) (hk : resolve sc cs ks = some .glob) (hkg : (ks, .ref q) ∈ W.globs)
    (ho : OpN W k (fun vs => call (.ref q) vs) o) (hid : IdStr o) (he : Ev W (k + 1) sc cs e f) (hs : ∀ env, starEach [e] env = [(false, eval e env)])
    (hkw : ∀ env pos, backToKw pos (keywordEach [⟨some (Str.ofString "key"), .Name ks kp, kpos⟩] env) = [(some (Str.ofString "key"), do let v <- eval (.Name ks kp) env; standAt pos; pure v)]) :
    EvO W (k + 1) sc cs (.Call (.Name fs np) [e] [⟨some (Str.ofString "key"), .Name ks kp, kpos⟩] pos) (sortF f) := by
  intro S d S' h A cx vals cv g s Q E R e1 e2 I K
  simp only [sortF, Option.bind_eq_some_iff, Option.ite_none_right_eq_some, Option.some.injEq, Prod.exists, Prod.mk.injEq] at h
  obtain ⟨d₀, S₁, h1, l, hl, ss, hss, h64, rfl, rfl⟩ := h
  obtain rfl := lstOf_some hl
  subst e1 e2
  refine wpAny_Call_Name_kw (I.loadGlob hf hfg ?_)
  refine callWith_kw ?_ (by rw [hs]; rfl) (by rw [hs]; rfl) (by rw [hkw]; rfl) (by rw [hkw]; rfl)
  rw [hs, hkw]
  refine spliced_cons (he _ _ _ h1 A cx vals cv g s _ E R rfl rfl I fun v g₁ s₁ st₁ I₁ r₁ => spliced_nil ?_)
  refine wpAny_evalAll_cons (wpAny_bind (I₁.loadGlob hk hkg (wpAny_bind (wpAny_standAt (wpAny_pure (wpAny_evalAll_nil ?_))))))
  obtain ⟨a, vs, n, rfl, x1, x4⟩ := r₁.of_list
  refine my_sorted ho hid R I₁.wok I₁.le (isList_of (I₁.le _ _ x1)) (strs_are hss x4) h64 fun D g₂ s₂ out c G nD hD gD hout => ?_
  obtain ⟨st₂, I₂⟩ := I₁.grown G
  exact K D out c g₂ s₂ (st₁.trans st₂) I₂ (st₁.lv _ nD) hD (strs_of_rd hout) gD (I₁.fresh nD)
end
open Builtin Builtin.ObjectAttr
noncomputable abbrev lBases : List Value := [.type "list", .type "object"]
noncomputable abbrev clsO (nm q : Str) (C N : Addr) (k0 k1 k2 k3 k5 : Option Value) : Obj := excClassObj nm q C N [.type "list"] lBases true [] [] false none none k0 k1 k2 k3 k5 "list.__new__"
noncomputable def accO (C dx : Addr) (vs : Array Value) (n : Nat) : Obj := { cls := .ref C, dict := some dx, data := .seq vs n }
section
variable {prog : Program} {w : World} {A : Around} {E : Value -> Shared -> Prop} {h : Heap} {g : Array GenState} {d : Drawn} {t : Nat} {os : OsState}
variable {nm q : Str} {C N x dx : Addr} {k0 k1 k2 k3 k5 : Option Value} {mN mA : Str -> Option Value} {name : Str} {v : Value} {vs : Array Value} {n : Nat}
theorem lk_list_ga : typeLookup (.type "list") "__getattribute__" = pure (some (.builtin "list.__getattribute__")) := by rw [typeLookup_type, builtinLookup_eq_fast]; kernel_rfl
theorem lk_list_getattr : typeLookup (.type "list") "__getattr__" = pure none := by rw [typeLookup_type, builtinLookup_eq_fast]; kernel_rfl
theorem canon_list_ga : (Manifest.canonical "list.__getattribute__" != "object.__getattribute__") = false := by decide +kernel
theorem acc_typeOf {s : Shared} {Q : Value -> Shared -> Prop} (hx : s.heap.get? x = some (accO C dx vs n)) (hq : Q (.ref C) s) : wpAny (model prog w) A (typeOf (.ref x)) Q E s := by
  obtain ⟨h, g, d, t, os⟩ := s
  have hc : (accO C dx vs n).cls = .ref C := rfl
  unfold typeOf
  refine wpAny_bind (wpAny_loadPart_at hx ?_)
  exact wpAny_pure hq
theorem acc_special {s : Shared} {y : Option Value} {Q : Option Value -> Shared -> Prop} (hC : s.heap.get? C = some (clsO nm q C N k0 k1 k2 k3 k5)) (hn : s.heap.Ns N mN) (hB : typeLookup (.type "list") name = pure y)
    (hx : s.heap.get? x = some (accO C dx vs n)) (hq : Q (match mN name with | some v => some v | none => y) s) : wpAny (model prog w) A (specialOf (.ref x) name) Q E s := by
  obtain ⟨h, g, d, t, os⟩ := s
  unfold specialOf
  exact wpAny_bind (acc_typeOf hx (wpAny_typeLookup_exc hC hn F.mro_list hB hq))
theorem acc_method {s : Shared} {pl : Sem Bool} {f : Addr} {of : Obj} {Q : Value × List Value -> Shared -> Prop} (hC : s.heap.get? C = some (clsO nm q C N k0 k1 k2 k3 k5)) (hn : s.heap.Ns N mN) (hng : mN "__getattribute__" = none) (hnh : mN "__getattr__" = none)
    (hf : mN name = some (.ref f)) (hfo : s.heap.get? f = some of) (hfc : of.cls = .type "function") {y : Option Value} (hB : typeLookup (.type "list") name = pure y)
    (hx : s.heap.get? x = some (accO C dx vs n)) (hd : s.heap.Ns dx mA) (hsh : mA name = none) (hq : Q (.ref f, [.ref x]) s) :
    wpAny (model prog w) A (getMethod (.ref x) name pl) Q E s := by
  have hcan := canon_list_ga
  unfold getMethod
  refine wpAny_bind (acc_special hC hn lk_list_ga hx ?_)
  rw [hng]
  show wpAny _ _ (if (Manifest.canonical "list.__getattribute__" != "object.__getattribute__") = true then _ else _) _ _ _
  rw [hcan, if_neg (by simp)]
  refine wpAny_bind (acc_special hC hn lk_list_getattr hx ?_)
  rw [hnh]
  refine wpAny_bind (acc_special hC hn hB hx ?_)
  rw [hf]
  refine wpAny_bind (wpAny_typeOf (T := "function") ⟨_, hfo, hfc⟩ ?_)
  rw [if_neg (by decide)]
  obtain ⟨h, g, d, t, os⟩ := s
  refine wpAny_bind (wpAny_loadPart_at hx ?_)
  refine wpAny_bind (wpAny_nsGet hd ?_)
  rw [hsh]
  exact wpAny_bind (wpAny_rule (wpAny_pure hq))
theorem acc_inherited {s : Shared} {pl : Sem Bool} {id : String} {Q : Value × List Value -> Shared -> Prop} (hC : s.heap.get? C = some (clsO nm q C N k0 k1 k2 k3 k5)) (hn : s.heap.Ns N mN) (hng : mN "__getattribute__" = none) (hnh : mN "__getattr__" = none)
    (hf : mN name = none) (hB : typeLookup (.type "list") name = pure (some (.builtin id))) (hty : typeOf (.builtin id) = pure (.type "method_descriptor"))
    (hx : s.heap.get? x = some (accO C dx vs n)) (hd : s.heap.Ns dx mA) (hsh : mA name = none) (hq : Q (.builtin id, [.ref x]) s) :
    wpAny (model prog w) A (getMethod (.ref x) name pl) Q E s := by
  have hcan := canon_list_ga
  unfold getMethod
  refine wpAny_bind (acc_special hC hn lk_list_ga hx ?_)
  rw [hng]
  show wpAny _ _ (if (Manifest.canonical "list.__getattribute__" != "object.__getattribute__") = true then _ else _) _ _ _
  rw [hcan, if_neg (by simp)]
  refine wpAny_bind (acc_special hC hn lk_list_getattr hx ?_)
  rw [hnh]
  refine wpAny_bind (acc_special hC hn hB hx ?_)
  rw [hf]
  refine wpAny_bind (wpAny_of_eq hty ?_)
  rw [if_neg (by decide)]
  obtain ⟨h, g, d, t, os⟩ := s
  refine wpAny_bind (wpAny_loadPart_at hx ?_)
  refine wpAny_bind (wpAny_nsGet hd ?_)
  rw [hsh]
  exact wpAny_bind (wpAny_rule (wpAny_pure hq))
theorem acc_call {s : Shared} {id : String} {nm' : String} {kind : Manifest.AttrKind} {b : Builtin} {rest : List Value} {Q : Value -> Shared -> Prop} (hC : s.heap.get? C = some (clsO nm q C N k0 k1 k2 k3 k5)) (hx : s.heap.get? x = some (accO C dx vs n))
    (hk : builtinKind id = some kind) (hm : kind = .method ∨ kind = .slot) (hs : splitId id = some ("list", nm')) (hp : plainId id = true) (hb : entryFor table id = some b) (ha : argsOk id ⟨.ref x :: rest, []⟩)
    (hc : wpAny (model prog w) A.in1 (b ⟨.ref x :: rest, []⟩) (fun fin s' => ∃ v, fin = .done (.ret v) ∧ Q v s') E s) : wpAny (model prog w) A (call (.builtin id) (.ref x :: rest)) Q E s := by
  refine wpAny_call (codeAny_call_builtin hp hb ?_)
  have fin : wpAny (model prog w) A.in1 (b ⟨.ref x :: rest, []⟩) (fun fin s' => match fin with | .done f => wants Q E (.ok f) s' | .again c' => c'.quiet = true ∧ codeAny (model prog w) A c' (wants Q E) s') (fun e s' => wants Q E (.error e) s') s := by
    refine wpAny_mono hc (fun fin s' h' => ?_) fun _ _ h' => h'
    obtain ⟨v, rfl, hv⟩ := h'
    exact hv
  have hcB : (Value.ref C :: lBases).contains (.type "list") = true := by rw [List.contains_cons, show lBases.contains (.type "list") = true from by decide, Bool.or_true]
  have inst : ∀ (Q : Bool -> Shared -> Prop) (E : Value -> Shared -> Prop), Q true s -> wpAny (model prog w) A.in1 (isInstance (.ref x) (.type "list")) Q E s := fun Q E h => by
    unfold isInstance
    refine wpAny_bind (acc_typeOf hx ?_)
    obtain ⟨hh, g, d, t, os⟩ := s
    refine wpAny_isSubtype_exc hC ?_
    rw [hcB]
    exact h
  unfold checkBuiltinCall
  rw [hk, hs]
  rcases hm with rfl | rfl
  all_goals
    refine wpAny_bind (inst _ _ ?_)
    rw [if_neg (by simp)]
    dsimp only
    cases hsig : Manifest.signature? id with
    | none => exact wpAny_pure fin
    | some sig =>
      simp only [argsOk, hsig] at ha
      refine wpAny_of_eq ha ?_
      exact fin
end
section
variable {prog : Program} {w : World} {A : Around} {E : Value -> Shared -> Prop} {s : Shared}
variable {nm q : Str} {C N x dx : Addr} {k0 k1 k2 k3 k5 : Option Value} {mN mA : Str -> Option Value} {name : Str} {v : Value} {vs : Array Value} {n : Nat}
theorem acc_upd (hx : s.heap.get? x = some (accO C dx vs n)) (f : Array Value -> Array Value) : ∃ n', (s.heap.update x (Obj.mapSeq f)).get? x = some (accO C dx (f vs) n') := ⟨_, Heap.get?_update_self _ hx rfl⟩
theorem kind_append : builtinKind "list.append" = some .method := by decide +kernel
theorem kind_pop : builtinKind "list.pop" = some .method := by decide +kernel
theorem kind_llen : builtinKind "list.__len__" = some .slot := by decide +kernel
theorem kind_linit : builtinKind "list.__init__" = some .slot := by decide +kernel
theorem kind_lget : builtinKind "list.__getitem__" = some .method := by decide +kernel
theorem kind_lset : builtinKind "list.__setitem__" = some .slot := by decide +kernel
theorem kind_liter : builtinKind "list.__iter__" = some .slot := by decide +kernel
theorem split_append : splitId "list.append" = some ("list", "append") := by decide +kernel
theorem split_lget : splitId "list.__getitem__" = some ("list", "__getitem__") := by decide +kernel
theorem split_lset : splitId "list.__setitem__" = some ("list", "__setitem__") := by decide +kernel
theorem split_liter : splitId "list.__iter__" = some ("list", "__iter__") := by decide +kernel
variable (hC : s.heap.get? C = some (clsO nm q C N k0 k1 k2 k3 k5)) (hx : s.heap.get? x = some (accO C dx vs n))
include hC hx
theorem acc_append {Q : Value -> Shared -> Prop} (hsz : vs.size ≤ 100000) (hq : Q .none { s with heap := s.heap.update x (Obj.mapSeq (·.push v)) }) : wpAny (model prog w) A (call (.builtin "list.append") [.ref x, v]) Q E s := by
  refine acc_call hC hx kind_append (.inl rfl) split_append PySem.F.slot_list_append.plain PySem.F.entry_list_append (PySem.F.args_list_append_2 _ _) ?_
  unfold Builtin.«list.append»
  refine wpAny_bind (wpAny_of_eq (a := (.ref x, v)) rfl ?_)
  have h1 : vs.size ≤ sizeLine := by rw [sizeLine_eq]; lia
  have h2 : (vs.push v).size ≤ sizeLine + 1 := by rw [Array.size_push, sizeLine_eq]; lia
  exact wpAny_bind (listUpdate_at (o := accO C dx vs n) hx rfl (wpAny_pure ⟨_, rfl, hq⟩) h1 h2)
theorem acc_len_body {Q : Value -> Shared -> Prop} (hq : Q (.int vs.size s.toks) { s with toks := s.toks + 1 }) : wpAny (model prog w) A (Builtin.«list.__len__» ⟨[.ref x], []⟩) (fun fin s' => ∃ v, fin = .done (.ret v) ∧ Q v s') E s := by
  unfold Builtin.«list.__len__»
  refine wpAny_bind (wpAny_of_eq (a := (.ref x, [])) rfl ?_)
  obtain ⟨h, g, d, t, os⟩ := s
  refine wpAny_bind (wpAny_bind (wpAny_loadPart_at hx ?_))
  exact wpAny_pure (wpAny_bind (wpAny_mkInt' (wpAny_pure ⟨_, rfl, hq⟩)))
theorem acc_pop_body {y : Value} {Q : Value -> Shared -> Prop} (hy : vs[vs.size - 1]? = some y) (hsz : vs.size ≤ 100000) (hq : Q y { s with heap := s.heap.update x (Obj.mapSeq (·.eraseIdxIfInBounds (vs.size - 1))) }) : wpAny (model prog w) A (Builtin.«list.pop» ⟨[.ref x], []⟩) (fun fin s' => ∃ v, fin = .done (.ret v) ∧ Q v s') E s := by
  have hpos : 0 < vs.size := by
    obtain ⟨h, _⟩ := Array.getElem?_eq_some_iff.mp hy
    lia
  have hemp : vs.isEmpty = false := by
    cases q : vs.isEmpty with
    | false => rfl
    | true => rw [Array.isEmpty_iff] at q; subst q; simp at hpos
  have hidx : seqIndex? (-1) vs.size = some (vs.size - 1) := by
    unfold seqIndex?
    simp only [show (-1 : Int) < 0 from by decide, if_true]
    rw [if_pos (by simp; lia)]
    congr 1
    grind
  unfold Builtin.«list.pop»
  refine wpAny_bind (wpAny_of_eq (a := (.ref x, [])) rfl ?_)
  refine wpAny_bind (wpAny_pure ?_)
  refine wpAny_bind (listItems_at (o := accO C dx vs n) hx rfl ?_)
  dsimp only
  rw [hemp, hidx]
  simp only [Bool.false_eq_true, if_false, Option.bind_some, hy, Option.map_some]
  have h1 : vs.size ≤ sizeLine := by rw [sizeLine_eq]; lia
  have h2 : (vs.eraseIdxIfInBounds (vs.size - 1)).size ≤ sizeLine + 1 := by
    have : (vs.eraseIdxIfInBounds (vs.size - 1)).size ≤ vs.size := by
      rw [<- Array.length_toList, Array.toList_eraseIdxIfInBounds, List.length_eraseIdx]
      split <;> simp
    rw [sizeLine_eq]; lia
  exact wpAny_bind (listUpdate_at (o := accO C dx vs n) hx rfl (wpAny_pure ⟨_, rfl, hq⟩) h1 h2)
theorem acc_init_body {Q : Value -> Shared -> Prop} (hsz : vs.size ≤ 100000) (hq : Q .none { s with heap := s.heap.update x (Obj.mapSeq fun _ => #[]) }) : wpAny (model prog w) A (Builtin.«list.__init__» ⟨[.ref x], []⟩) (fun fin s' => ∃ v, fin = .done (.ret v) ∧ Q v s') E s := by
  unfold Builtin.«list.__init__»
  have h1 : vs.size ≤ sizeLine := by rw [sizeLine_eq]; lia
  refine wpAny_bind (listItems_at (o := accO C dx vs n) hx rfl ?_)
  refine wpAny_bind (listUpdate_at (o := accO C dx vs n) hx rfl ?_ h1 (Nat.zero_le _))
  exact wpAny_bind (wpAny_letGo (wpAny_pure ⟨_, rfl, hq⟩))
theorem acc_getslice {sl : Addr} {vl vu : Value} {lo hi : Option Int} {Q : Value -> Shared -> Prop} (hs : s.heap.IsSliceOf sl vl vu .none) (pl : IsPart vl lo) (pu : IsPart vu hi) (hsz : vs.size ≤ 100000)
    (hq : Q (.ref s.heap.objs.size) { s with heap := s.heap.push (listO (slicePick vs lo hi none) 0) }) : wpAny (model prog w) A (call (.builtin "list.__getitem__") [.ref x, .ref sl]) Q E s := by
  refine acc_call hC hx kind_lget (.inl rfl) split_lget PySem.F.slot_list_getitem.plain PySem.F.entry_list_getitem (PySem.F.args_list_getitem_2 _ _) ?_
  obtain ⟨o, ho, hc, hd⟩ := hs
  have hT : s.TypeIs (.ref sl) "slice" := ⟨o, ho, hc⟩
  unfold Builtin.«list.__getitem__»
  refine wpAny_bind (wpAny_of_eq (a := (.ref x, .ref sl)) rfl ?_)
  unfold Builtin.List.listSubscript?
  refine wpAny_bind (wpAny_bind (wpAny_specialOf hT slice_no_index ?_))
  refine wpAny_pure ?_
  dsimp only
  refine wpAny_bind (wpAny_typeOf hT ?_)
  rw [if_neg (by decide)]
  rw [listSliceParts_eq]
  refine wpAny_bind (wpAny_bind (wpAny_field ho hd (x := .none) rfl (wpAny_bind (wpAny_listPart .none ?_))))
  rw [if_neg (by decide)]
  refine wpAny_bind (wpAny_field ho hd (x := vl) rfl (wpAny_bind (wpAny_listPart pl ?_)))
  refine wpAny_bind (wpAny_field ho hd (x := vu) rfl (wpAny_bind (wpAny_listPart pu (wpAny_pure ?_))))
  refine wpAny_bind (listItems_at (o := accO C dx vs n) hx rfl ?_)
  refine wpAny_bind (wpAny_of_eq (sliceIndices_raw lo hi none vs.size (by simp)) ?_)
  have h2 : (slicePick vs lo hi none).size ≤ sizeLine := by have := slicePick_size_le vs lo hi none; rw [sizeLine_eq]; lia
  exact wpAny_bind (wpAny_newObj_type (wpAny_pure ⟨_, rfl, hq⟩) h2)
theorem acc_setslice {sl e : Addr} {en : Nat} {i : Nat} {vl : Value} {Q : Value -> Shared -> Prop} (hs : s.heap.IsSliceOf sl vl .none .none) (pl : IsPart vl (some (i : Int))) (he : s.heap.get? e = some (listO #[] en)) (hi : i ≤ vs.size) (hsz : vs.size ≤ 100000)
    (hq : ∀ f : Array Value -> Array Value, f vs = vs.extract 0 i -> Q .none { s with heap := s.heap.update x (Obj.mapSeq f) }) : wpAny (model prog w) A (call (.builtin "list.__setitem__") [.ref x, .ref sl, .ref e]) Q E s := by
  refine acc_call hC hx kind_lset (.inr rfl) split_lset PySem.F.slot_list_setitem.plain PySem.F.entry_list_setitem (PySem.F.args_list_setitem_3 _ _ _) ?_
  obtain ⟨o, ho, hc, hd⟩ := hs
  have hT : s.TypeIs (.ref sl) "slice" := ⟨o, ho, hc⟩
  have hTe : s.TypeIs (.ref e) "list" := ⟨_, he, rfl⟩
  have hxe : (x == e) = false := by
    rw [beq_eq_false_iff_ne]
    rintro rfl
    rw [he] at hx
    have := congrArg (Option.map Obj.cls) hx
    cases this
  unfold Builtin.«list.__setitem__»
  refine wpAny_bind (wpAny_of_eq (a := (.ref x, [.ref sl, .ref e])) rfl ?_)
  unfold Builtin.List.listSubscript?
  refine wpAny_bind (wpAny_bind (wpAny_specialOf hT slice_no_index ?_))
  refine wpAny_pure ?_
  dsimp only
  refine wpAny_bind (wpAny_typeOf hT ?_)
  rw [if_neg (by decide)]
  rw [listSliceParts_eq]
  refine wpAny_bind (wpAny_bind (wpAny_field ho hd (x := .none) rfl (wpAny_bind (wpAny_listPart .none ?_))))
  rw [if_neg (by decide)]
  refine wpAny_bind (wpAny_field ho hd (x := vl) rfl (wpAny_bind (wpAny_listPart pl ?_)))
  refine wpAny_bind (wpAny_field ho hd (x := .none) rfl (wpAny_bind (wpAny_listPart .none (wpAny_pure ?_))))
  dsimp only
  rw [if_neg (by show ¬ (x == e) = true; rw [hxe]; simp)]
  unfold Builtin.List.listAllItems
  refine wpAny_bind (wpAny_bind (wpAny_typeOf hTe ?_))
  rw [if_pos (by decide)]
  refine listItems_at he rfl ?_
  refine wpAny_bind (listItems_at (o := accO C dx vs n) hx rfl ?_)
  refine wpAny_bind (wpAny_of_eq (sliceIndices_raw (some i) none none vs.size (by simp)) ?_)
  have hb : sliceBounds (some (i : Int)) none none vs.size = ((i : Int), (vs.size : Int), 1) := by
    unfold sliceBounds
    have e1 : ¬ ((i : Int) < 0) := by lia
    simp [e1]
    lia
  rw [hb]
  dsimp only
  refine wpAny_bind (wpAny_rule ?_)
  have hlong : Builtin.List.listTooLong (vs.size + (#[] : Array Value).size) = false := by
    simp [Builtin.List.listTooLong, sizeLine]; lia
  rw [hlong]
  simp only [Bool.false_eq_true, if_false]
  have h1 : vs.size ≤ sizeLine := by rw [sizeLine_eq]; lia
  have hm : (max (i : Int) (vs.size : Int)).toNat = vs.size := by grind
  have hf : vs.extract 0 (i : Int).toNat ++ #[] ++ vs.extract (max (i : Int) (vs.size : Int)).toNat = vs.extract 0 i := by
    rw [hm]; simp
  have h2 : (vs.extract 0 (i : Int).toNat ++ #[] ++ vs.extract (max (i : Int) (vs.size : Int)).toNat).size ≤ sizeLine + 1 := by
    rw [hf, Array.size_extract, sizeLine_eq]; lia
  exact wpAny_bind (listUpdate_at (o := accO C dx vs n) (f := fun xs => xs.extract 0 (i : Int).toNat ++ #[] ++ xs.extract (max (i : Int) (vs.size : Int)).toNat) hx rfl (wpAny_bind (wpAny_letGo (wpAny_pure ⟨_, rfl, hq _ hf⟩))) h1 h2)
end
section
variable {prog : Program} {w : World} {A : Around} {E : Value -> Shared -> Prop} {s : Shared}
variable {nm q : Str} {C N x dx : Addr} {k0 k1 k2 k3 k5 : Option Value} {mN mA : Str -> Option Value} {name : Str} {v : Value} {vs : Array Value} {n : Nat}
theorem acc_isSub {M : Model} (hC : s.heap.get? C = some (clsO nm q C N k0 k1 k2 k3 k5)) {T : String} {Q : Bool -> Shared -> Prop} (hq : Q (lBases.contains (.type T)) s) : wpAny M A (isSubtype (.ref C) (.type T)) Q E s := by
  obtain ⟨h, g, d, t, os⟩ := s
  refine wpAny_isSubtype_exc hC ?_
  rw [List.contains_cons, show (Value.type T == Value.ref C) = false from rfl, Bool.false_or]
  exact hq
theorem acc_anySub {M : Model} (hC : s.heap.get? C = some (clsO nm q C N k0 k1 k2 k3 k5)) {Q : Bool -> Shared -> Prop} (hq : Q false s) : ∀ (l : List String), (∀ T ∈ l, lBases.contains (.type T) = false) -> wpAny M A (l.anyM fun n => isSubtype (.ref C) (.type n)) Q E s
  | [], _ => wpAny_pure hq
  | T :: l, h => by
    show wpAny M A (isSubtype (.ref C) (.type T) >>= _) _ _ _
    refine wpAny_bind (acc_isSub hC ?_)
    rw [h T (.head _)]
    exact acc_anySub hC hq l fun T hT => h T (.tail _ hT)
theorem acc_seqKey {k : Value} {Q : Value -> Shared -> Prop} (hC : s.heap.get? C = some (clsO nm q C N k0 k1 k2 k3 k5)) (hx : s.heap.get? x = some (accO C dx vs n)) (hq : Q k s) : wpAny (model prog w) A (sequenceKey (.ref x) k name) Q E s := by
  unfold sequenceKey
  refine wpAny_bind (acc_typeOf hx ?_)
  show wpAny _ _ ((seqItemTypes.anyM fun n => isSubtype (.ref C) (.type n)) >>= _) _ _ _
  refine wpAny_bind (acc_anySub hC ?_ _ (by decide))
  exact wpAny_pure hq
theorem acc_own {f : Addr} {of : Obj} {args : List Value} {Q : Option Value -> Shared -> Prop} (hC : s.heap.get? C = some (clsO nm q C N k0 k1 k2 k3 k5)) (hn : s.heap.Ns N mN) (hf : mN name = some (.ref f)) (hfo : s.heap.get? f = some of) (hfc : of.cls = .type "function")
    {y : Option Value} (hB : typeLookup (.type "list") name = pure y) (hx : s.heap.get? x = some (accO C dx vs n)) (hq : wpAny (model prog w) A (call (.ref f) (.ref x :: args)) (fun v s' => Q (some v) s') E s) : wpAny (model prog w) A (callSpecial? (.ref x) name args) Q E s := by
  unfold callSpecial?
  refine wpAny_bind (acc_special hC hn hB hx ?_)
  rw [hf]
  refine wpAny_holding ?_
  unfold bindSpecial
  refine wpAny_bind (wpAny_bind (wpAny_typeOf (T := "function") ⟨_, hfo, hfc⟩ ?_))
  rw [if_pos (by decide)]
  refine wpAny_pure (wpAny_bind (wpAny_mono hq (fun v s' h => wpAny_pure h) fun _ _ h => h))
theorem acc_inh {id : String} {args : List Value} {Q : Option Value -> Shared -> Prop} (hC : s.heap.get? C = some (clsO nm q C N k0 k1 k2 k3 k5)) (hn : s.heap.Ns N mN) (hf : mN name = none) (slot : Slot "list" name id)
    (hx : s.heap.get? x = some (accO C dx vs n)) (hq : wpAny (model prog w) A (call (.builtin id) (.ref x :: args)) (fun v s' => Q (some v) s') E s) : wpAny (model prog w) A (callSpecial? (.ref x) name args) Q E s := by
  unfold callSpecial?
  refine wpAny_bind (acc_special hC hn slot.lookup hx ?_)
  rw [hf]
  refine wpAny_holding ?_
  refine wpAny_bind (wpAny_of_eq (slot.bind _) ?_)
  exact wpAny_bind (wpAny_mono hq (fun v s' h => wpAny_pure h) fun _ _ h => h)
theorem acc_getItem {sl : Addr} {vl vu : Value} {lo hi : Option Int} {Q : Value -> Shared -> Prop} (hC : s.heap.get? C = some (clsO nm q C N k0 k1 k2 k3 k5)) (hn : s.heap.Ns N mN) (hf : mN "__getitem__" = none) (hx : s.heap.get? x = some (accO C dx vs n))
    (hs : s.heap.IsSliceOf sl vl vu .none) (pl : IsPart vl lo) (pu : IsPart vu hi) (hsz : vs.size ≤ 100000)
    (hq : Q (.ref s.heap.objs.size) { s with heap := s.heap.push (listO (slicePick vs lo hi none) 0) }) : wpAny (model prog w) A (getItem (.ref x) (.ref sl)) Q E s := by
  unfold getItem
  try with_reducible refine wpAny_holding ?_
  refine wpAny_bind (acc_seqKey hC hx ?_)
  exact wpAny_bind (acc_inh hC hn hf PySem.F.slot_list_getitem hx (acc_getslice hC hx hs pl pu hsz (wpAny_pure hq)))
theorem acc_setItem {sl e : Addr} {en : Nat} {i : Nat} {vl : Value} {Q : Unit -> Shared -> Prop} (hC : s.heap.get? C = some (clsO nm q C N k0 k1 k2 k3 k5)) (hn : s.heap.Ns N mN) (hf : mN "__setitem__" = none) (hx : s.heap.get? x = some (accO C dx vs n))
    (hs : s.heap.IsSliceOf sl vl .none .none) (pl : IsPart vl (some (i : Int))) (he : s.heap.get? e = some (listO #[] en)) (hi : i ≤ vs.size) (hsz : vs.size ≤ 100000)
    (hq : ∀ f : Array Value -> Array Value, f vs = vs.extract 0 i -> Q () { s with heap := s.heap.update x (Obj.mapSeq f) }) : wpAny (model prog w) A (setItem (.ref x) (.ref sl) (.ref e)) Q E s := by
  unfold setItem
  try with_reducible refine wpAny_holding ?_
  refine wpAny_bind (acc_seqKey hC hx ?_)
  exact wpAny_bind (acc_inh hC hn hf PySem.F.slot_list_setitem hx (acc_setslice hC hx hs pl he hi hsz fun f hf => wpAny_pure (hq f hf)))
end
theorem slot_md_get : Slot "method_descriptor" "__get__" "method_descriptor.__get__" := .of (owner := "method_descriptor") (n := "__get__") (by rw [typeLookup_type, builtinLookup_eq_fast]; kernel_rfl) (by decide +kernel) (by decide +kernel) (by decide +kernel)
    (by first | exact .inl (by decide +kernel) | exact .inr (by decide +kernel)) (by rw [isSubtype_type]; kernel_rfl)
theorem slot_wd_get : Slot "wrapper_descriptor" "__get__" "wrapper_descriptor.__get__" := .of (owner := "wrapper_descriptor") (n := "__get__") (by rw [typeLookup_type, builtinLookup_eq_fast]; kernel_rfl) (by decide +kernel) (by decide +kernel) (by decide +kernel)
    (by first | exact .inl (by decide +kernel) | exact .inr (by decide +kernel)) (by rw [isSubtype_type]; kernel_rfl)
theorem entry_md_get : entryFor table "method_descriptor.__get__" = some Builtin.«method_descriptor.__get__» := entryFor_of_tree (by kernel_rfl)
theorem entry_wd_get : entryFor table "wrapper_descriptor.__get__" = some Builtin.«wrapper_descriptor.__get__» := entryFor_of_tree (by kernel_rfl)
theorem args_md_get (a b c : Value) : argsOk "method_descriptor.__get__" ⟨[a, b, c], []⟩ := by unfold argsOk; kernel_rfl
theorem args_wd_get (a b c : Value) : argsOk "wrapper_descriptor.__get__" ⟨[a, b, c], []⟩ := by unfold argsOk; kernel_rfl
section
variable {prog : Program} {w : World} {A : Around} {E : Value -> Shared -> Prop} {s : Shared}
variable {nm q : Str} {C N x dx : Addr} {k0 k1 k2 k3 k5 : Option Value} {mN mA : Str -> Option Value} {name : Str} {v : Value} {vs : Array Value} {n : Nat}
theorem acc_isInst {M : Model} {Q : Bool -> Shared -> Prop} (hC : s.heap.get? C = some (clsO nm q C N k0 k1 k2 k3 k5)) (hx : s.heap.get? x = some (accO C dx vs n)) (hq : Q true s) : wpAny M A (isInstance (.ref x) (.type "list")) Q E s := by
  unfold isInstance
  obtain ⟨h, g, d, t, os⟩ := s
  have hc : (accO C dx vs n).cls = .ref C := rfl
  refine wpAny_bind ?_
  unfold typeOf
  refine wpAny_bind (wpAny_loadPart_at hx (wpAny_pure ?_))
  exact acc_isSub (s := ⟨h, g, d, t, os⟩) hC hq
noncomputable def boundO (T id : String) (x : Addr) : Obj := { cls := .type T, data := .fields #[.builtin id, .ref x] }
theorem get_md {id : String} {P : Fin -> Shared -> Prop} (hT : Manifest.toldItsClass.contains id = false) (hid : ".".intercalate (id.cutAt '.').dropLast = "list") (hC : s.heap.get? C = some (clsO nm q C N k0 k1 k2 k3 k5)) (hx : s.heap.get? x = some (accO C dx vs n))
    (hq : P (.done (.ret (.ref s.heap.objs.size))) { s with heap := s.heap.push (boundO "builtin_function_or_method" id x) }) :
    wpAny (model prog w) A (Builtin.«method_descriptor.__get__» ⟨[.builtin id, .ref x, .ref C], []⟩) P E s := by
  unfold Builtin.«method_descriptor.__get__»
  refine wpAny_bind (wpAny_of_eq (a := (.builtin id, some (.ref x), some (.ref C))) rfl ?_)
  dsimp only
  rw [hT]
  simp only [Bool.false_eq_true, if_false]
  wp_delta
  refine wpAny_bind ?_
  wp_delta
  refine wpAny_bind (wpAny_of_eq (a := (Str.ofString ((id.cutAt '.').getLastD ""), Value.type (".".intercalate (id.cutAt '.').dropLast))) rfl ?_)
  dsimp only
  rw [hid]
  refine wpAny_bind (acc_isInst hC hx ?_)
  exact wpAny_pure (wpAny_bind (wpAny_newObj_type (wpAny_pure hq)))
theorem get_wd {id : String} {P : Fin -> Shared -> Prop} (hid : ".".intercalate (id.cutAt '.').dropLast = "list") (hC : s.heap.get? C = some (clsO nm q C N k0 k1 k2 k3 k5)) (hx : s.heap.get? x = some (accO C dx vs n))
    (hq : P (.done (.ret (.ref s.heap.objs.size))) { s with heap := s.heap.push (boundO "method-wrapper" id x) }) :
    wpAny (model prog w) A (Builtin.«wrapper_descriptor.__get__» ⟨[.builtin id, .ref x, .ref C], []⟩) P E s := by
  unfold Builtin.«wrapper_descriptor.__get__»
  refine wpAny_bind (wpAny_of_eq (a := (.builtin id, some (.ref x), some (.ref C))) rfl ?_)
  dsimp only
  wp_delta
  refine wpAny_bind ?_
  wp_delta
  refine wpAny_bind (wpAny_of_eq (a := (Str.ofString ((id.cutAt '.').getLastD ""), Value.type (".".intercalate (id.cutAt '.').dropLast))) rfl ?_)
  dsimp only
  rw [hid]
  refine wpAny_bind (acc_isInst hC hx ?_)
  exact wpAny_pure (wpAny_bind (wpAny_newObj_type (wpAny_pure hq)))
noncomputable abbrev supO (C x : Addr) : Obj := { cls := .type "super", dict := none, data := .fields #[.ref C, .ref x, .ref C], slots := #[] }
theorem sup_ga {so : Addr} {id kT getid : String} {tk : Tok} {o : Obj} {P : Fin -> Shared -> Prop} (hso : s.heap.get? so = some (supO C x)) (hno : Looks (model prog w) s.heap (opaqueClassAbove (.ref C)) none)
    (hC : s.heap.get? C = some (clsO nm q C N k0 k1 k2 k3 k5)) (hx : s.heap.get? x = some (accO C dx vs n)) (hn : (name == ("__class__" : Str)) = false) (hown : builtinOwn "list" name = some (.builtin id)) (hty : typeOf (.builtin id) = pure (.type kT)) (slot : Slot kT "__get__" getid)
    (hxC : (Value.ref x == Value.ref C) = false)
    (hcall : ∀ (A : Around) (Q : Value -> Shared -> Prop) (E : Value -> Shared -> Prop), Q (.ref s.heap.objs.size) { s with heap := s.heap.push o } -> wpAny (model prog w) A (call (.builtin getid) [.builtin id, .ref x, .ref C]) Q E s)
    (hq : P (.done (.ret (.ref s.heap.objs.size))) { s with heap := s.heap.push o }) : wpAny (model prog w) A (Builtin.«super.__getattribute__» ⟨[.ref so, .str name tk], []⟩) P E s := by
  have f0 : (#[.ref C, .ref x, .ref C] : Array Value)[0]? = some (.ref C) := rfl
  have f1 : (#[.ref C, .ref x, .ref C] : Array Value)[1]? = some (.ref x) := rfl
  have f2 : (#[.ref C, .ref x, .ref C] : Array Value)[2]? = some (.ref C) := rfl
  unfold Builtin.«super.__getattribute__»
  refine wpAny_bind (wpAny_pure ?_)
  refine wpAny_bind (wpAny_pure ?_)
  refine wpAny_bind (wpAny_field hso rfl f0 (wpAny_bind (wpAny_field hso rfl f1 (wpAny_bind (wpAny_field hso rfl f2 ?_)))))
  dsimp only
  rw [hn]
  rw [if_neg (by rw [show (Value.ref C == Value.none) = false from rfl]; decide)]
  refine wpAny_bind (ks_wpAny_notOpaque (h := s.heap) (g := s.gens) (d := s.drawn) (t := s.toks) (os := s.os) hno ?_)
  rw [if_neg (by rw [show (Value.ref C == Value.type "module") = false from rfl]; decide)]
  refine wpAny_bind (wpAny_mroOf_exc (h := s.heap) (g := s.gens) (d := s.drawn) (t := s.toks) (os := s.os) hC ?_)
  have e : List.drop 1 (List.dropWhile (fun x => x != Value.ref C) (Value.ref C :: lBases)) = lBases := by simp [List.dropWhile]
  rw [e]
  refine wpAny_bind ?_
  rw [List.forIn_cons]
  refine wpAny_bind (wpAny_bind (wpAny_of_eq (show classOwn (.type "list") name = pure (some (.builtin id)) from by show pure (builtinOwn "list" name) = _; rw [hown]) ?_))
  dsimp only
  refine wpAny_bind (wpAny_of_eq hty (wpAny_bind (wpAny_of_eq slot.lookup ?_)))
  dsimp only
  rw [hxC, if_neg (by simp)]
  refine wpAny_bind (wpAny_holding (hcall _ _ _ ?_))
  exact wpAny_bind (wpAny_pure (wpAny_pure (wpAny_pure (wpAny_pure hq))))
theorem sup_method {so : Addr} {id kT getid : String} {o : Obj} {pl : Sem Bool} {Q : Value × List Value -> Shared -> Prop} (hso : s.heap.get? so = some (supO C x)) (hno : Looks (model prog w) s.heap (opaqueClassAbove (.ref C)) none)
    (hC : s.heap.get? C = some (clsO nm q C N k0 k1 k2 k3 k5)) (hx : s.heap.get? x = some (accO C dx vs n)) (hn : (name == ("__class__" : Str)) = false) (hown : builtinOwn "list" name = some (.builtin id)) (hty : typeOf (.builtin id) = pure (.type kT)) (slot : Slot kT "__get__" getid)
    (hxC : (Value.ref x == Value.ref C) = false)
    (hcall : ∀ (A : Around) (s' : Shared) (Q : Value -> Shared -> Prop) (E : Value -> Shared -> Prop), s'.heap = s.heap -> Q (.ref s.heap.objs.size) { s' with heap := s.heap.push o } -> wpAny (model prog w) A (call (.builtin getid) [.builtin id, .ref x, .ref C]) Q E s')
    (hq : Q (.ref s.heap.objs.size, []) { s with heap := s.heap.push o, toks := s.toks + 1 }) : wpAny (model prog w) A (getMethod (.ref so) name pl) Q E s := by
  obtain ⟨h, g, d, t, os⟩ := s
  have hlk := F.ks_slot_super_ga.lookup
  have hcan := F.ks_canon_super_ga
  have hT : ∀ t', (⟨h, g, d, t', os⟩ : Shared).TypeIs (.ref so) "super" := fun _ => ⟨_, hso, rfl⟩
  unfold getMethod
  refine wpAny_bind (wpAny_specialOf (hT _) hlk ?_)
  show wpAny _ _ (if (Manifest.canonical "super.__getattribute__" != "object.__getattribute__") = true then _ else _) _ _ _
  rw [if_pos hcan]
  unfold getAttr getAttrBy
  refine wpAny_bind (wpAny_bind (wpAny_mkText (wpAny_holding (wpAny_bind (wpAny_typeOf (hT _) (wpAny_bind (wpAny_of_eq hlk ?_)))))))
  show wpAny _ _ (getAttrByItsOwn (.ref so) (.str name t) (.type "super") (.builtin "super.__getattribute__") true false) _ _ _
  unfold getAttrByItsOwn hookBefore callGetattribute boundAndCalled
  refine wpAny_bind (wpAny_of_eq (show (if onTheHeap (.type "super") then typeLookup (.type "super") "__getattr__" else pure none) = pure none from rfl) ?_)
  refine wpAny_bind (wpAny_attempt (wpAny_holding ?_))
  show wpAny _ _ (bindSpecial (.builtin "super.__getattribute__") (.ref so) >>= _) _ _ _
  refine wpAny_bind (wpAny_of_eq (F.ks_slot_super_ga.bind _) ?_)
  refine wpAny_mono (Q := fun v s' => v = .ref h.objs.size ∧ s' = ⟨h.push o, g, d, t + 1, os⟩) (E := fun _ _ => False)
    (wpAny_call_entry F.ks_slot_super_ga (hT _) F.ks_entry_super_ga (sup_ga (s := ⟨h, g, d, t + 1, os⟩) (o := o) hso hno hC hx hn hown hty slot hxC (fun A Q E q => hcall A ⟨h, g, d, t + 1, os⟩ Q E rfl q) ⟨_, rfl, rfl, rfl⟩) (F.ks_gaArgs_super _ _)) (fun v s' hv => ?_) fun _ _ z => z.elim
  obtain ⟨rfl, rfl⟩ := hv
  exact wpAny_pure (wpAny_pure hq)
theorem bound_call {b : Addr} {T id : String} {B : Builtin} {Q : Value -> Shared -> Prop} (hb : s.heap.get? b = some (boundO T id x)) (hT : T = "builtin_function_or_method" ∨ T = "method-wrapper") (hquiet : (Code.builtin id ⟨[.ref x], []⟩).quiet = true) (hent : entryFor table id = some B)
    (hchk : ∀ (A : Around) (Q : Unit -> Shared -> Prop) (E : Value -> Shared -> Prop), Q () s -> wpAny (model prog w) A (checkBoundCall id ⟨[.ref x], []⟩) Q E s)
    (hq : ∀ (A : Around) (E : Value -> Shared -> Prop), wpAny (model prog w) A (B ⟨[.ref x], []⟩) (fun fin s' => ∃ v, fin = .done (.ret v) ∧ Q v s') E s) : wpAny (model prog w) A (call (.ref b) []) Q E s := by
  refine wpAny_call (codeAny_of_tree ?_)
  show wpAny _ _ (callAny (.ref b) ⟨[], []⟩) _ _ _
  unfold callAny
  refine wpAny_bind (wpAny_load hb ?_)
  dsimp only [boundO]
  rw [if_pos (by rcases hT with rfl | rfl <;> decide)]
  show wpAny _ _ (if (Value.type T != Value.type "method") = true then (checkBoundCall id ⟨[.ref x], []⟩ >>= fun _ => again (Code.builtin id ⟨[.ref x], []⟩)) else _) _ _ _
  rw [if_pos (by rcases hT with rfl | rfl <;> decide)]
  refine wpAny_bind (hchk _ _ _ (wpAny_pure ⟨hquiet, codeAny_builtin hent (wpAny_mono (hq _ _) (fun fin s' h => ?_) fun _ _ h => h)⟩))
  obtain ⟨v, rfl, hv⟩ := h
  exact hv
theorem sig_slot {id : String} {sg} (h1 : Manifest.signature? id = some sg) (h2 : builtinKind id = some .slot) (ha : argsOk id ⟨[.ref x], []⟩) {Q : Unit -> Shared -> Prop} (hq : Q () s) : wpAny (model prog w) A (checkBoundCall id ⟨[.ref x], []⟩) Q E s := by
  unfold checkBoundCall
  rw [h1, h2]
  simp only [argsOk, h1] at ha
  show wpAny _ _ (if (Manifest.AttrKind.slot != .method && Manifest.AttrKind.slot != .classMethod) = true then _ else _) _ _ _
  rw [if_pos (by decide)]
  exact wpAny_of_eq ha hq
theorem pop_sig : Manifest.signature? "list.pop" = some ⟨.positional, "list.pop", "pop", .self, [⟨"index", .posOnly, false⟩]⟩ := by kernel_rfl
noncomputable def accName : Str := "_Accumulator"
theorem pop_args (v : Value) : Bind.checkArgs "list.pop" ⟨.positional, toString accName.toString ++ toString "." ++ toString (Bind.lastOf "list.pop"), "pop", .self, [⟨"index", .posOnly, false⟩]⟩ ⟨[v], []⟩ = pure () := by kernel_rfl
theorem sig_pop (hC : s.heap.get? C = some (clsO nm accName C N k0 k1 k2 k3 k5)) (hx : s.heap.get? x = some (accO C dx vs n)) {Q : Unit -> Shared -> Prop} (hq : Q () s) : wpAny (model prog w) A (checkBoundCall "list.pop" ⟨[.ref x], []⟩) Q E s := by
  have hv : Manifest.varargsMethods.contains "list.pop" = false := by decide +kernel
  unfold checkBoundCall
  rw [pop_sig, kind_pop]
  show wpAny _ _ (if (Manifest.AttrKind.method != .method && Manifest.AttrKind.method != .classMethod) = true then _ else _) _ _ _
  rw [if_neg (by decide)]
  have inst : ∀ (A : Around) (Q : Bool -> Shared -> Prop) (E : Value -> Shared -> Prop), Q false s -> wpAny (model prog w) A (isInstance (.ref x) (.type "module")) Q E s := fun A Q E h => by
    unfold isInstance
    exact wpAny_bind (acc_typeOf hx (acc_isSub hC h))
  refine wpAny_bind (inst _ _ _ ?_)
  rw [hv]
  rw [if_neg (by decide)]
  have hnc : ∀ c, (accO C dx vs n).data ≠ .cls c := fun c e => by cases e
  obtain ⟨h, g, d, t, os⟩ := s
  refine wpAny_bind (ks_wpAny_isType_inst hx hnc ?_)
  rw [if_neg (by decide)]
  refine wpAny_bind (acc_typeOf (s := ⟨h, g, d, t, os⟩) hx ?_)
  dsimp only
  unfold classData
  refine wpAny_bind (wpAny_bind (wpAny_loadPart_at hC ?_))
  refine wpAny_pure ?_
  refine wpAny_bind (wpAny_typeOf (T := "type") ⟨_, hC, rfl⟩ ?_)
  rw [if_pos (by decide)]
  exact wpAny_of_eq (pop_args _) hq
end
theorem own_pop : builtinOwn "list" "pop" = some (.builtin "list.pop") := by kernel_rfl
theorem own_len : builtinOwn "list" "__len__" = some (.builtin "list.__len__") := by kernel_rfl
theorem own_init : builtinOwn "list" "__init__" = some (.builtin "list.__init__") := by kernel_rfl
theorem ty_pop : typeOf (.builtin "list.pop") = pure (.type "method_descriptor") := PySem.F.type_list_pop
theorem ty_len : typeOf (.builtin "list.__len__") = pure (.type "wrapper_descriptor") := by show builtinType _ = _; rw [builtinType_eq_fast]; kernel_rfl
theorem ty_init : typeOf (.builtin "list.__init__") = pure (.type "wrapper_descriptor") := by show builtinType _ = _; rw [builtinType_eq_fast]; kernel_rfl
theorem told_pop : Manifest.toldItsClass.contains "list.pop" = false := by decide +kernel
theorem owner_pop : ".".intercalate ("list.pop".cutAt '.').dropLast = "list" := by decide +kernel
theorem owner_len : ".".intercalate ("list.__len__".cutAt '.').dropLast = "list" := by decide +kernel
theorem owner_init : ".".intercalate ("list.__init__".cutAt '.').dropLast = "list" := by decide +kernel
theorem sig_len : Manifest.signature? "list.__len__" = some ⟨.exact, "wrapper __len__", "", .self, []⟩ := by kernel_rfl
theorem sig_init : Manifest.signature? "list.__init__" = some ⟨.constructor, "list", "list", .self, [⟨"iterable", .posOnly, false⟩]⟩ := by kernel_rfl
section
variable {prog : Program} {w : World} {A : Around} {E : Value -> Shared -> Prop} {s : Shared} {env : Env}
variable {nm : Str} {C N x dx : Addr} {k0 k1 k2 k3 k5 : Option Value} {mN mA : Str -> Option Value} {name : Str} {v : Value} {vs : Array Value} {n : Nat}
theorem callWith_boundO {M : Model} {pos : Pos} {u : Addr} {T id : String} {Q : Value -> Shared -> Prop} (hT : T = "builtin_function_or_method" ∨ T = "method-wrapper") (hu : s.heap.get? u = some (boundO T id x))
    (h : wpAny M A (call (.ref u) []) Q E s) : wpAny M A (callWith pos (.ref u) [] [] []) Q E s := by
  unfold callWith
  refine wpAny_bind (wpAny_holding ?_)
  refine wpAny_mono (Q := fun a s' => a = ⟨[], []⟩ ∧ s' = s) (E := E) ?_ (fun a s' h' => ?_) fun _ _ h => h
  · exact wpAny_pure ⟨rfl, rfl⟩
  obtain ⟨rfl, rfl⟩ := h'
  refine wpAny_bind (wpAny_standAt ?_)
  refine wpAny_bind (m := keeperOf (.ref u)) ?_
  unfold keeperOf
  refine wpAny_bind (wpAny_load hu ?_)
  dsimp only [boundO]
  rw [if_pos (by rcases hT with rfl | rfl <;> decide)]
  rw [if_pos (by rcases hT with rfl | rfl <;> decide)]
  refine wpAny_pure ?_
  exact wpAny_bind (wpAny_mono h (fun r s₂ hr => wpAny_bind (wpAny_holding (wpAny_point (wpAny_pure hr)))) fun _ _ x => x)
structure SupB (name : Str) (id kT getid T : String) (B : Builtin) : Prop where
  own : builtinOwn "list" name = some (.builtin id)
  ty : typeOf (.builtin id) = pure (.type kT)
  slot : Slot kT "__get__" getid
  hT : T = "builtin_function_or_method" ∨ T = "method-wrapper"
  get : ∀ {prog : Program} {w : World} {A : Around} {E : Value -> Shared -> Prop} {s : Shared} {nm : Str} {C N x dx : Addr} {k0 k1 k2 k3 k5 : Option Value} {vs : Array Value} {n : Nat} {Q : Value -> Shared -> Prop}, s.heap.get? C = some (clsO nm accName C N k0 k1 k2 k3 k5) -> s.heap.get? x = some (accO C dx vs n) ->
    Q (.ref s.heap.objs.size) { s with heap := s.heap.push (boundO T id x) } -> wpAny (model prog w) A (call (.builtin getid) [.builtin id, .ref x, .ref C]) Q E s
  chk : ∀ {prog : Program} {w : World} {A : Around} {E : Value -> Shared -> Prop} {s : Shared} {nm : Str} {C N x dx : Addr} {k0 k1 k2 k3 k5 : Option Value} {vs : Array Value} {n : Nat} {Q : Unit -> Shared -> Prop}, s.heap.get? C = some (clsO nm accName C N k0 k1 k2 k3 k5) -> s.heap.get? x = some (accO C dx vs n) ->
    Q () s -> wpAny (model prog w) A (checkBoundCall id ⟨[.ref x], []⟩) Q E s
  quiet : ∀ x, (Code.builtin id ⟨[.ref x], []⟩).quiet = true
  ent : entryFor table id = some B
  notCls : (name == ("__class__" : Str)) = false
theorem supB_pop : SupB "pop" "list.pop" "method_descriptor" "method_descriptor.__get__" "builtin_function_or_method" Builtin.«list.pop» where
  own := own_pop
  ty := ty_pop
  slot := slot_md_get
  hT := .inl rfl
  get := fun hC hx hq => wpAny_call_entry slot_md_get ty_pop entry_md_get (get_md told_pop owner_pop hC hx ⟨_, rfl, hq⟩) (args_md_get _ _ _)
  chk := fun hC hx hq => sig_pop hC hx hq
  quiet := fun x => Code.quiet_builtin _ (by decide +kernel)
  ent := PySem.F.entry_list_pop
  notCls := by decide
theorem supB_len : SupB "__len__" "list.__len__" "wrapper_descriptor" "wrapper_descriptor.__get__" "method-wrapper" Builtin.«list.__len__» where
  own := own_len
  ty := ty_len
  slot := slot_wd_get
  hT := .inr rfl
  get := fun hC hx hq => wpAny_call_entry slot_wd_get ty_len entry_wd_get (get_wd owner_len hC hx ⟨_, rfl, hq⟩) (args_wd_get _ _ _)
  chk := fun hC hx hq => sig_slot sig_len kind_llen (PySem.F.args_list_len_1 _) hq
  quiet := fun x => Code.quiet_builtin _ (by decide +kernel)
  ent := PySem.F.entry_list_len
  notCls := by decide
theorem supB_init : SupB "__init__" "list.__init__" "wrapper_descriptor" "wrapper_descriptor.__get__" "method-wrapper" Builtin.«list.__init__» where
  own := own_init
  ty := ty_init
  slot := slot_wd_get
  hT := .inr rfl
  get := fun hC hx hq => wpAny_call_entry slot_wd_get ty_init entry_wd_get (get_wd owner_init hC hx ⟨_, rfl, hq⟩) (args_wd_get _ _ _)
  chk := fun hC hx hq => sig_slot sig_init kind_linit (PySem.F.args_list_init_1 _) hq
  quiet := fun x => Code.quiet_builtin _ (by decide +kernel)
  ent := PySem.F.entry_list_init
  notCls := by decide
structure MEnv (W : Wd) (g h : Heap) (env : Env) (sf : Str) (x : Addr) : Prop where
  kind : env.scope.kind = .function
  ksup : env.kindOf "super" = some .globalImplicit
  kcls : env.kindOf "__class__" = some .free
  func : ∃ f of fd, env.func = some f ∧ h.get? f = some of ∧ of.data = .func fd ∧ ∃ ar, (fd.params.posonlyargs ++ fd.params.args).head? = some ar ∧ ar.arg = sf
  code : ∃ cc oc ws file tf, env.code = .ref cc ∧ h.get? cc = some oc ∧ oc.data = .fields ws ∧ ws[2]? = some (.str file tf) ∧ ((W.prog.main.file : Str) == file) = true
  top : (W.prog.main.scope.names.lookup ("super" : Str)).isSome = false
  glob : ∀ (A : Around) (s : Shared) (Q : Value -> Shared -> Prop) (E : Value -> Shared -> Prop), Le g s.heap -> Q (.type "super") s -> wpAny W.M A (loadGlobal env "super") Q E s
  cls : ∃ c, env.cells.lookup ("__class__" : Str) = some c ∧ h.IsCell c (some (.ref W.C))
  kself : env.kindOf sf = some .local
  loc : ∃ m, h.Ns env.locals m ∧ m sf = some (.ref x)
theorem MEnv.change {W : Wd} {g h h' : Heap} {env : Env} {sf : Str} {x : Addr} (M : MEnv W g h env sf x) (k : ∀ b o, dk o.data ≠ 0 -> dk o.data ≠ 2 -> h.get? b = some o -> h'.get? b = some o) (kl : ∀ o, h.get? env.locals = some o -> h'.get? env.locals = some o) : MEnv W g h' env sf x where
  kind := M.kind
  ksup := M.ksup
  kcls := M.kcls
  func := by obtain ⟨f, of, fd, a, b, c, d⟩ := M.func; exact ⟨f, of, fd, a, k _ _ (by rw [c]; exact (by decide : (4 : Nat) ≠ 0)) (by rw [c]; exact (by decide : (4 : Nat) ≠ 2)) b, c, d⟩
  code := by obtain ⟨cc, oc, ws, file, tf, a, b, c, d⟩ := M.code; exact ⟨cc, oc, ws, file, tf, a, k _ _ (by rw [c]; exact (by decide : (3 : Nat) ≠ 0)) (by rw [c]; exact (by decide : (3 : Nat) ≠ 2)) b, c, d⟩
  top := M.top
  glob := M.glob
  cls := by obtain ⟨c, a, o, b, d⟩ := M.cls; exact ⟨c, a, o, k _ _ (by rw [d]; exact (by decide : (1 : Nat) ≠ 0)) (by rw [d]; exact (by decide : (1 : Nat) ≠ 2)) b, d⟩
  kself := M.kself
  loc := by obtain ⟨m, b, e⟩ := M.loc; exact ⟨m, Heap.Ns.of_get b kl, e⟩
theorem MEnv.step {W : Wd} {g h h' : Heap} {env : Env} {sf : Str} {x C dx : Addr} {vs : Array Value} {n : Nat} (M : MEnv W g h env sf x) (hx : h.get? x = some (accO C dx vs n)) (k : ∀ b o, b ≠ x -> h.get? b = some o -> h'.get? b = some o) : MEnv W g h' env sf x :=
  M.change (fun b o _ h2 e => k b o (fun q => by rw [q, hx] at e; exact h2 (by rw [<- Option.some.inj e]; rfl)) e) fun o e => k _ o (let ⟨_, b, _⟩ := M.loc; KAt.ne (j := 2) (KAt.ns b) ⟨_, hx, rfl⟩ (by decide)) e
theorem isCell_le {h h' : Heap} {a : Addr} {v} (x : h.IsCell a v) (k : Le h h') : h'.IsCell a v := Heap.IsCell.of_get x fun o e => k _ _ e
theorem sup_expr {W : Wd} {g : Heap} {self : Str} {id kT getid T : String} {B : Builtin} (SB : SupB name id kT getid T B) (M : MEnv W g s.heap env self x) (gle : Le g s.heap) (hC : s.heap.get? W.C = some (clsO nm accName W.C N k0 k1 k2 k3 k5)) (hx : s.heap.get? x = some (accO W.C dx vs n))
    (hno : Looks W.M s.heap (opaqueClassAbove (.ref W.C)) none) (hxC : (Value.ref x == Value.ref W.C) = false)
    {body : List Stmt} {p0 p1 apos pos : Pos} {Q : Value -> Shared -> Prop} {pl : Sem Bool}
    (he : eval (.Call (.Attribute (.Call (.Name "super" p0) [] [] p1) name apos) [] [] pos) env = (do
      let ov <- attributeBase (.Call (.Name "super" p0) [] [] p1) name env (eval (.Call (.Name "super" p0) [] [] p1) env)
      standAt apos.atName
      let (f, first) <- holding [ov] (getMethod ov name pl)
      callWith pos f first (backTo pos (starEach [] env)) []))
    (hB : ∀ (A : Around) (s₂ : Shared) (E : Value -> Shared -> Prop), Le s.heap s₂.heap -> s₂.os = s.os -> s₂.gens = s.gens -> wpAny W.M A (B ⟨[.ref x], []⟩) (fun fin s' => ∃ v, fin = .done (.ret v) ∧ Q v s') E s₂) :
    PySem.wpAt W.M A (.func body env) (eval (.Call (.Attribute (.Call (.Name "super" p0) [] [] p1) name apos) [] [] pos) env) Q E s := by
  obtain ⟨f, of, fd, m1, m2, m3, ar, m4, m5⟩ := M.func
  obtain ⟨cc, oc, ws, file, tf, n1, n2, n3, n4, n5⟩ := M.code
  obtain ⟨c, c1, c2⟩ := M.cls
  obtain ⟨m, l1, l2⟩ := M.loc
  refine ks_wpAt_MethodCall (pl := pl) ?_ he
  refine ks_wpAt_super_base M.ksup M.kcls SB.notCls m1 m2 m3 m4 n1 n2 n3 n4 n5 M.top ?_
  refine ks_loadName_global M.kind M.ksup (M.glob A s _ _ gle ⟨rfl, ?_⟩)
  refine wpAny_loadName_free M.kind M.kcls c1 c2 ?_
  rw [m5]
  refine wpAny_loadName_local M.kind M.kself l1 l2 ?_
  obtain ⟨h, g, d, t, os⟩ := s
  refine ks_wpAny_isType_cls hC rfl ⟨rfl, ?_⟩
  have hsub : Looks W.M h (isSubtype (.ref W.C) (.ref W.C)) true := fun A Q E s k hq => by
    obtain ⟨h', g', d', t', os'⟩ := s
    refine wpAny_isSubtype_exc (k _ _ hC) ?_
    rw [List.contains_cons, show (Value.ref W.C == Value.ref W.C) = true from by simp, Bool.true_or]
    exact hq
  refine ks_wpAny_call_super hC rfl hx rfl (fun c e => by cases e) hsub fun h' e1 k1 => ?_
  have s1 : Le h h' := k1
  refine sup_method (s := ⟨h', g, d, t, os⟩) (so := h.objs.size) (o := boundO T id x) e1 (hno.keeps k1) (k1 _ _ hC) (k1 _ _ hx) SB.notCls SB.own SB.ty SB.slot hxC (fun A s' Q E e q => ?_) ?_
  · have := SB.get (A := A) (E := E) (prog := W.prog) (w := W.w) (s := s') (Q := Q) (by rw [e]; exact k1 _ _ hC) (by rw [e]; exact k1 _ _ hx) (by rw [e]; exact q)
    exact this
  · have hb : (h'.push (boundO T id x)).get? h'.objs.size = some (boundO T id x) := Heap.get?_push_size _ rfl
    have k2 : Le h (h'.push (boundO T id x)) := fun b o e => Heap.get?_push_of_some _ (k1 _ _ e)
    refine callWith_boundO (s := ⟨h'.push (boundO T id x), g, d, t + 1, os⟩) SB.hT hb ?_
    refine bound_call (s := ⟨h'.push (boundO T id x), g, d, t + 1, os⟩) hb SB.hT (SB.quiet x) SB.ent (fun A Q E hq => ?_) fun A E => hB A _ E k2 rfl rfl
    exact SB.chk (s := ⟨h'.push (boundO T id x), g, d, t + 1, os⟩) (k2 _ _ hC) (k2 _ _ hx) hq
end
inductive MethObj (W : Wd) (g : Heap) (f : Addr) (F : FnDef) (clo : List (Str × Addr)) : Prop
  | mk (o : Obj) (fd : FuncData) (cc : Addr) (oc : Obj) (ws : Array Value) (file : Str) (tf : Tok) (h1 : g.get? f = some o) (h2 : o.cls = .type "function") (h3 : o.data = .func fd) (h4 : fd.params = F.params) (h5 : fd.body = .stmts F.body) (h6 : fd.scope = F.scope) (h7 : fd.closure = clo)
    (h8 : fd.globals = mainGlobals) (h9 : fd.builtins = builtinsNs) (h10 : fd.code = .ref cc) (h11 : g.CodeRec fd.code fd.qualname) (h12 : g.get? cc = some oc) (h13 : oc.data = .fields ws) (h14 : ws[2]? = some (.str file tf)) (h15 : ((W.prog.main.file : Str) == file) = true)
    (h16 : ∀ (vs : List Value) (s : Shared), Le g s.heap -> vs.length = F.params.args.length -> BindsTo s fd ⟨vs, []⟩ ((F.params.args.map (·.arg)).zip vs))
structure MethAt (W : Wd) (f : Addr) (F : FnDef) (clo : List (Str × Addr)) : Prop where
  at_ : ∀ g, WOK W g -> MethObj W g f F clo
structure AccW (W : Wd) (mN : Str -> Option Value) : Prop where
  cls : ∀ g, WOK W g -> ∃ nm N k0 k1 k2 k3 k5, g.get? W.C = some (clsO nm accName W.C N k0 k1 k2 k3 k5) ∧ g.Ns N mN
  ga : mN "__getattribute__" = none
  gattr : mN "__getattr__" = none
  app : mN "append" = none
  get : mN "__getitem__" = none
  set : mN "__setitem__" = none
  iter : mN "__iter__" = none
  opq : ∀ g, WOK W g -> Looks W.M g (opaqueClassAbove (.ref W.C)) none
  top : (W.prog.main.scope.names.lookup ("super" : Str)).isSome = false
  sup : (("super" : Str), Value.type "super") ∈ W.globs
section
variable {W : Wd} {k : Nat} {mN : Str -> Option Value}
theorem meth_call {f : Addr} {F : FnDef} {clo : List (Str × Addr)} {g : Heap} {s : Shared} {A : Around} {vals : List Value} {Q : Value -> Shared -> Prop} {E : Value -> Shared -> Prop} (M : MethAt W f F clo) (R : Room A (k + 1)) (ok : WOK W g) (le : Le g s.heap) (hlen : vals.length = F.params.args.length)
    (hcell : ∀ y ∈ F.scope.names, y.2 ≠ .cell) (hloc : ∀ y ∈ F.params.args.map (·.arg), F.scope.names.lookup y = some .local) (hco : F.scope.isCoroutine = false) (hgen : F.scope.isGenerator = false) (hk : F.scope.kind = .function)
    (h : ∀ env h₀ E', env.scope = F.scope -> env.locals = s.heap.objs.size -> env.cells = clo -> env.globals = mainGlobals -> env.builtins = builtinsNs -> env.func = some f ->
      (∃ cc oc ws file tf, env.code = .ref cc ∧ g.get? cc = some oc ∧ oc.data = .fields ws ∧ ws[2]? = some (.str file tf) ∧ ((W.prog.main.file : Str) == file) = true) ->
      (∃ of fd, g.get? f = some of ∧ of.data = .func fd ∧ fd.params = F.params) ->
      h₀.Ns env.locals (fun y => ((F.params.args.map (·.arg)).zip vals).reverse.lookup y) -> Le s.heap h₀ -> Room (A.deeper env) k -> ∀ tk,
      PySem.wpAt W.M (A.deeper env) (.func F.body env) (execs F.body env) (fun fl s' => Q (match fl with | .ret v => v | _ => .none) s') E' { s with heap := h₀, toks := tk }) : wpAny W.M A (call (.ref f) vals) Q E s := by
  obtain ⟨o, fd, cc, oc, ws, file, tf, h1, h2, h3, h4, h5, h6, h7, h8, h9, h10, h11, h12, h13, h14, h15, h16⟩ := M.at_ g ok
  have hcr : s.heap.CodeRec fd.code fd.qualname := by obtain ⟨c, o', vs', t, a, b, c', d'⟩ := h11; exact ⟨c, o', vs', t, a, le _ _ b, c', d'⟩
  refine wpAny_call (ks_codeAny_call_defAt (fd := fd) (body := F.body) (binds := (F.params.args.map (·.arg)).zip vals) (by have := R.d; unfold recursionLimit; lia) (le _ _ h1) h3 (ok.nolimit.keeps le) hcr h5 (h16 vals s le hlen)
    (by rw [h6]; exact hcell) (fun y hy => by rw [h6]; exact hloc y.1 (List.of_mem_zip hy).1) (fun h₀ hns keep => ?_) (by rw [h6]; exact hco) (by rw [h6]; exact hgen) (by rw [h6]; exact hk))
  have e1 : (callEnv fd s.heap.objs.size f).scope = F.scope := h6
  refine ks_wpAt_mono (h (callEnv fd s.heap.objs.size f) h₀ _ e1 rfl h7 h8 h9 rfl ⟨cc, oc, ws, file, tf, h10, h12, h13, h14, h15⟩ ⟨o, fd, h1, h3, h4⟩ hns keep (R.deeper _) _) (fun fl s' hq => hq) fun _ _ q => q
theorem le_upd {h : Heap} {x : Addr} {f : Array Value -> Array Value} : ∀ b o, b ≠ x -> h.get? b = some o -> (h.update x (Obj.mapSeq f)).get? b = some o := fun b o hb e => (Heap.SameBut.update h x (Obj.mapSeq f)).extBut b o hb e
theorem IStep.of_grow {p : Addr -> Prop} {g g' : Heap} {s s' : Shared} (G : Grow g s g' s') : IStep p g s g' s' := ⟨G.gg, fun b o _ e => G.le b o e, G.gn, fun a _ e => G.le.none e, G.gl, G.os, G.gens⟩
noncomputable def AOp (W : Wd) (k : Nat) (f : Addr) (o : Int -> List PyData -> List PyData -> Option (PyData × List PyData)) : Prop :=
  ∀ first l ds d l', o first l ds = some (d, l') -> ∀ (A : Around) g s x dx vs n args (Q : Value -> Shared -> Prop) (E : Value -> Shared -> Prop), Room A k -> WOK W g -> Le g s.heap -> s.heap.get? x = some (accO W.C dx vs n) -> AccDict g dx first -> RDs g vs.toList l -> g.get? x = none -> RDs g args ds ->
    (∀ v g' s' vs' n', IStep (· = x) g s g' s' -> s'.heap.get? x = some (accO W.C dx vs' n') -> RDs g' vs'.toList l' -> RD g' v d -> Q v s') -> wpAny W.M A (call (.ref f) (.ref x :: args)) Q E s
theorem C_ne (X : AccW W mN) {g : Heap} (ok : WOK W g) {x : Addr} (gx : g.get? x = none) : (Value.ref x == Value.ref W.C) = false := by
  obtain ⟨nm, N, k0, k1, k2, k3, k5, hC, _⟩ := X.cls g ok
  have : x ≠ W.C := by rintro rfl; rw [gx] at hC; cases hC
  simpa using this
theorem menv (X : AccW W mN) {g : Heap} (ok : WOK W g) {f c x : Addr} {env : Env} {F : FnDef} {h : Heap} {ar : Arg} {rest : List Arg} (gle : Le g h) (e1 : env.scope = F.scope) (e2 : env.cells = [(("__class__" : Str), c)]) (e3 : env.globals = mainGlobals) (e4 : env.builtins = builtinsNs) (e5 : env.func = some f)
    (e6 : ∃ cc oc ws file tf, env.code = .ref cc ∧ g.get? cc = some oc ∧ oc.data = .fields ws ∧ ws[2]? = some (.str file tf) ∧ ((W.prog.main.file : Str) == file) = true) (e7 : ∃ of fd, g.get? f = some of ∧ of.data = .func fd ∧ fd.params = F.params)
    (hk : F.scope.kind = .function) (hp : F.params.posonlyargs = []) (ha : F.params.args = ar :: rest) (k1 : F.scope.names.lookup ("super" : Str) = some .globalImplicit) (k2 : F.scope.names.lookup ("__class__" : Str) = some .free) (k3 : F.scope.names.lookup ar.arg = some .local)
    (hcell : g.IsCell c (some (.ref W.C))) {m : Str -> Option Value} (hn : h.Ns env.locals m) (hm : m ar.arg = some (.ref x)) : MEnv W g h env ar.arg x where
  kind := by rw [e1]; exact hk
  ksup := by unfold Env.kindOf; rw [e1]; exact k1
  kcls := by unfold Env.kindOf; rw [e1]; exact k2
  func := by obtain ⟨of, fd, a, b, c⟩ := e7; exact ⟨f, of, fd, e5, gle _ _ a, b, ar, by rw [c, hp, ha]; rfl, rfl⟩
  code := by obtain ⟨cc, oc, ws, file, tf, a, b, c, d, e⟩ := e6; exact ⟨cc, oc, ws, file, tf, a, gle _ _ b, c, d, e⟩
  top := X.top
  glob := fun A s Q E kk hq => by
    obtain ⟨mg, mb, h1, h2, h3⟩ := ok.gl
    rcases h3 _ X.sup with q | ⟨q, r⟩
    · exact loadGlobal_global (by rw [e3]; exact h1.keeps kk) q hq
    · exact loadGlobal_builtin (by rw [e3]; exact h1.keeps kk) q (by rw [e4]; exact h2.keeps kk) r hq
  cls := ⟨c, by rw [e2]; rfl, isCell_le hcell gle⟩
  kself := by unfold Env.kindOf; rw [e1]; exact k3
  loc := ⟨m, hn, hm⟩
end
noncomputable def mOK (F : FnDef) (ps : List Str) : Bool := F.scope.names.all (fun y => y.2 != .cell) && ps.all (fun y => F.scope.names.lookup y == some .local) && !F.scope.isCoroutine && !F.scope.isGenerator && decide (F.scope.kind = .function) && F.params.posonlyargs.isEmpty && decide (F.params.args.map (·.arg) = ps)
noncomputable def supOK (F : FnDef) : Bool := F.scope.names.lookup ("super" : Str) == some .globalImplicit && F.scope.names.lookup ("__class__" : Str) == some .free
structure MFacts (F : FnDef) (ps : List Str) : Prop where
  cell : ∀ y ∈ F.scope.names, y.2 ≠ .cell
  loc : ∀ y ∈ ps, F.scope.names.lookup y = some .local
  co : F.scope.isCoroutine = false
  gen : F.scope.isGenerator = false
  kind : F.scope.kind = .function
  pos : F.params.posonlyargs = []
  args : F.params.args.map (·.arg) = ps
theorem mFacts {F : FnDef} {ps : List Str} (h : mOK F ps = true) : MFacts F ps := by
  unfold mOK at h
  simp only [Bool.and_eq_true, List.all_eq_true, Bool.not_eq_true', decide_eq_true_eq, List.isEmpty_iff, beq_iff_eq, bne_iff_ne] at h
  obtain ⟨⟨⟨⟨⟨⟨a, b⟩, c⟩, d⟩, e⟩, f⟩, i⟩ := h
  exact ⟨a, b, c, d, e, f, i⟩
section
variable {W : Wd} {k : Nat} {mN : Str -> Option Value}
theorem meth_call' {f : Addr} {F : FnDef} {ps : List Str} {clo : List (Str × Addr)} {g : Heap} {s : Shared} {A : Around} {vals : List Value} {Q : Value -> Shared -> Prop} {E : Value -> Shared -> Prop} (M : MethAt W f F clo) (hok : mOK F ps = true) (R : Room A (k + 1)) (ok : WOK W g) (le : Le g s.heap) (hlen : vals.length = ps.length)
    (h : ∀ env h₀ E', env.scope = F.scope -> env.locals = s.heap.objs.size -> env.cells = clo -> env.globals = mainGlobals -> env.builtins = builtinsNs -> env.func = some f ->
      (∃ cc oc ws file tf, env.code = .ref cc ∧ g.get? cc = some oc ∧ oc.data = .fields ws ∧ ws[2]? = some (.str file tf) ∧ ((W.prog.main.file : Str) == file) = true) ->
      (∃ of fd, g.get? f = some of ∧ of.data = .func fd ∧ fd.params = F.params) ->
      h₀.Ns env.locals (fun y => (ps.zip vals).reverse.lookup y) -> Le s.heap h₀ -> Room (A.deeper env) k -> ∀ tk,
      PySem.wpAt W.M (A.deeper env) (.func F.body env) (execs F.body env) (fun fl s' => Q (match fl with | .ret v => v | _ => .none) s') E' { s with heap := h₀, toks := tk }) : wpAny W.M A (call (.ref f) vals) Q E s := by
  have X := mFacts hok
  refine meth_call M R ok le (by rw [<- X.args] at hlen; simpa using hlen) X.cell (by rw [X.args]; exact X.loc) X.co X.gen X.kind ?_
  rw [X.args]
  exact h
theorem meth_sup {f c : Addr} {F : FnDef} {ps : List Str} {g : Heap} {s : Shared} {A : Around} {x : Addr} {args : List Value} {Q : Value -> Shared -> Prop} {E : Value -> Shared -> Prop} (X : AccW W mN) (M : MethAt W f F [(("__class__" : Str), c)]) (hcell : ∀ g, WOK W g -> g.IsCell c (some (.ref W.C))) (hok : mOK F ("self" :: ps) = true) (hsup : supOK F = true) (R : Room A (k + 1)) (ok : WOK W g) (le : Le g s.heap) (hlen : args.length = ps.length) (hns : ("self" : Str) ∉ ps)
    (h : ∀ env h₀ E', MEnv W g h₀ env "self" x -> env.scope = F.scope -> env.locals = s.heap.objs.size -> h₀.Ns env.locals (fun y => ((("self" : Str) :: ps).zip (.ref x :: args)).reverse.lookup y) -> Le s.heap h₀ -> Room (A.deeper env) k -> ∀ tk,
      PySem.wpAt W.M (A.deeper env) (.func F.body env) (execs F.body env) (fun fl s' => Q (match fl with | .ret v => v | _ => .none) s') E' { s with heap := h₀, toks := tk }) : wpAny W.M A (call (.ref f) (.ref x :: args)) Q E s := by
  have Y := mFacts hok
  refine meth_call' M hok R ok le (by simp [hlen]) fun env h₀ E' e1 e2 e3 e4 e5 e6 e7 e8 hn keep R' tk => ?_
  have gle : Le g h₀ := le.trans keep
  simp only [supOK, Bool.and_eq_true, beq_iff_eq] at hsup
  obtain ⟨ar, rest, ha⟩ : ∃ ar rest, F.params.args = ar :: rest := by
    cases q : F.params.args with
    | nil => have := Y.args; rw [q] at this; cases this
    | cons a r => exact ⟨a, r, rfl⟩
  have har : ar.arg = ("self" : Str) := by have := Y.args; rw [ha] at this; simp at this; exact this.1
  have hself : (fun y => ((("self" : Str) :: ps).zip (Value.ref x :: args)).reverse.lookup y) ar.arg = some (.ref x) := by
    rw [har]
    show List.lookup _ ((("self" : Str), Value.ref x) :: ps.zip args).reverse = _
    rw [List.reverse_cons]
    have hno : ∀ l : List (Str × Value), (∀ p ∈ l, p.1 ≠ ("self" : Str)) -> List.lookup ("self" : Str) (l ++ [(("self" : Str), Value.ref x)]) = some (.ref x) := by
      intro l
      induction l with
      | nil => intro _; simp [List.lookup]
      | cons p l ih =>
        intro hl
        rw [List.cons_append, List.lookup_cons]
        have : (("self" : Str) == p.1) = false := by rw [beq_eq_false_iff_ne]; exact fun q => hl p (.head _) q.symm
        rw [this]
        exact ih fun q hq => hl q (.tail _ hq)
    refine hno _ fun p hp e => ?_
    rw [List.mem_reverse] at hp
    have := (List.of_mem_zip (a := p.1) (b := p.2) hp).1
    rw [e] at this
    exact hns this
  have ME := menv X ok gle e1 e3 e4 e5 e6 e7 e8 Y.kind Y.pos ha hsup.1 hsup.2 (by rw [har]; exact Y.loc _ (.head _)) (hcell g ok) hn hself
  rw [har] at ME
  exact h env h₀ E' ME e1 e2 hn keep R' tk
noncomputable def SupCall (attr : Str) (e : Expr) : Prop := ∃ p0 p1 apos pos, e = .Call (.Attribute (.Call (.Name "super" p0) [] [] p1) attr apos) [] [] pos ∧ ∀ env, ∃ pl, eval e env = (do
      let ov <- attributeBase (.Call (.Name "super" p0) [] [] p1) attr env (eval (.Call (.Name "super" p0) [] [] p1) env)
      standAt apos.atName
      let (f, first) <- holding [ov] (getMethod ov attr pl)
      callWith pos f first (backTo pos (starEach [] env)) [])
theorem op_part_count {f c : Addr} {F : FnDef} {e : Expr} {rpos : Pos} (X : AccW W mN) (M : MethAt W f F [(("__class__" : Str), c)]) (hcell : ∀ g, WOK W g -> g.IsCell c (some (.ref W.C))) (hok : mOK F ["self"] = true) (hsup : supOK F = true)
    (hbody : F.body = [.Return (some e) rpos]) (hs : SupCall "__len__" e) : AOp W (k + 1) f (fun _ l ds => if ds = [] ∧ l.length ≤ 100000 then some (.int l.length, l) else none) := by
  intro first l ds d l' h A g s x dx vs n args Q E R ok le hx had hrd gx hargs K
  rw [Option.ite_none_right_eq_some] at h
  obtain ⟨⟨rfl, hz⟩, h⟩ := h
  cases h
  rw [hargs.nil_iff]
  have hlen := hrd.len
  rw [Array.length_toList] at hlen
  obtain ⟨p0, p1, apos, pos, rfl, he⟩ := hs
  refine meth_sup X M hcell hok hsup R ok le rfl (by simp) fun env h₀ E' ME _ _ hn keep R' tk => ?_
  obtain ⟨nm, N, k0, k1, k2, k3, k5, hC, hN⟩ := X.cls g ok
  have gle : Le g h₀ := le.trans keep
  obtain ⟨pl, he'⟩ := he env
  rw [hbody]
  refine ks_wpAt_execs_cons (ks_wpAt_Return_some ?_)
  refine sup_expr (s := { s with heap := h₀, toks := tk }) supB_len ME gle (gle _ _ hC) (keep _ _ hx) ((X.opq g ok).keeps gle) (C_ne X ok gx) he' fun A s₂ E k2 os gens => ?_
  have G : Grow g s g { s₂ with toks := s₂.toks + 1 } := ⟨keep.trans k2, os, fun q => by rw [gens]; exact q, Le.refl, gle.trans k2, fun _ _ _ e => e⟩
  exact acc_len_body (s := s₂) (k2 _ _ (gle _ _ hC)) (k2 _ _ (keep _ _ hx)) (K _ g _ vs n (IStep.of_grow G) (k2 _ _ (keep _ _ hx)) hrd (by rw [hlen]; exact .int ..))
end
section
variable {W : Wd} {k : Nat} {mN : Str -> Option Value}
noncomputable def MCall (attr : Str) (o : Expr) (args : List Expr) (e : Expr) : Prop := ∃ apos pos, e = .Call (.Attribute o attr apos) args [] pos ∧ ∀ env, ∃ pl, eval e env = (do
      let ov <- eval o env
      standAt apos.atName
      let (f, first) <- holding [ov] (getMethod ov attr pl)
      callWith pos f first (backTo pos (starEach args env)) [])
theorem accDict_ns {g h : Heap} {dx : Addr} {first : Int} (D : AccDict g dx first) (le : Le g h) : ∃ m, h.Ns dx m ∧ ∀ y, y ≠ ("_initial_size" : Str) -> m y = none := by
  obtain ⟨o, t, _, hn⟩ := D
  exact ⟨_, hn.keeps le, fun y hy => by simp [hy]⟩
theorem acc_mcall0 {f x dx : Addr} {F : FnDef} {clo : List (Str × Addr)} {first : Int} {vs : Array Value} {n : Nat} {g : Heap} {s : Shared} {A : Around} {env : Env} {attr sf : Str} {np : Pos} {e : Expr} {Q : Value -> Shared -> Prop} {E : Value -> Shared -> Prop}
    (X : AccW W mN) (ok : WOK W g) (le : Le g s.heap) (MC : MCall attr (.Name sf np) [] e) (hl : ∀ (Q : Value -> Shared -> Prop), Q (.ref x) s -> wpAny W.M A (loadName env sf) Q E s) (hdbg : (sf == ("__debug__" : Str)) = false)
    (hx : s.heap.get? x = some (accO W.C dx vs n)) (had : AccDict g dx first) (hm : mN attr = some (.ref f)) (M : MethAt W f F clo) (hne : attr ≠ ("_initial_size" : Str)) {y : Option Value} (hB : typeLookup (.type "list") attr = pure y)
    (ha : wpAny W.M A (call (.ref f) [.ref x]) Q E s) : wpAny W.M A (eval e env) Q E s := by
  obtain ⟨apos, pos, rfl, he⟩ := MC
  obtain ⟨pl, he⟩ := he env
  rw [he]
  refine wpAny_bind (wpAny_Name (hl _ ?_) hdbg)
  refine wpAny_bind (wpAny_standAt (wpAny_bind (wpAny_holding ?_)))
  obtain ⟨nm, N, k0, k1, k2, k3, k5, hC, hN⟩ := X.cls g ok
  obtain ⟨o, fd, cc, oc, ws, file, tf, h1, h2, h3, _⟩ := M.at_ g ok
  obtain ⟨m, hns, hmn⟩ := accDict_ns had le
  refine acc_method (le _ _ hC) (hN.keeps le) X.ga X.gattr hm (le _ _ h1) h2 hB hx hns (hmn _ hne) ?_
  refine PySem.Calls.callWith_function (o := o) (fd := fd) ?_
  exact wpAny_pure ⟨⟨le _ _ h1, h3⟩, ha⟩
theorem acc_mappend {x dx : Addr} {first : Int} {vs : Array Value} {n : Nat} {g : Heap} {s : Shared} {A : Around} {env : Env} {sf : Str} {np : Pos} {a e : Expr} {Q : Value -> Shared -> Prop} {E : Value -> Shared -> Prop}
    (X : AccW W mN) (ok : WOK W g) (le : Le g s.heap) (MC : MCall "append" (.Name sf np) [a] e) (hs : ∀ env, starEach [a] env = [(false, eval a env)]) (hl : ∀ (Q : Value -> Shared -> Prop), Q (.ref x) s -> wpAny W.M A (loadName env sf) Q E s) (hdbg : (sf == ("__debug__" : Str)) = false)
    (hx : s.heap.get? x = some (accO W.C dx vs n)) (had : AccDict g dx first)
    (ha : wpAny W.M A (eval a env) (fun v s₂ => Le s.heap s₂.heap ∧ vs.size ≤ 100000 ∧ Q .none { s₂ with heap := s₂.heap.update x (Obj.mapSeq (·.push v)) }) E s) : wpAny W.M A (eval e env) Q E s := by
  obtain ⟨apos, pos, rfl, he⟩ := MC
  obtain ⟨pl, he⟩ := he env
  rw [he]
  refine wpAny_bind (wpAny_Name (hl _ ?_) hdbg)
  refine wpAny_bind (wpAny_standAt (wpAny_bind (wpAny_holding ?_)))
  obtain ⟨nm, N, k0, k1, k2, k3, k5, hC, hN⟩ := X.cls g ok
  obtain ⟨m, hns, hmn⟩ := accDict_ns had le
  refine acc_inherited (le _ _ hC) (hN.keeps le) X.ga X.gattr X.app PySem.F.slot_list_append.lookup PySem.F.type_list_append hx hns (hmn _ (by decide)) ?_
  rw [hs]
  refine PySem.Calls.callWith_builtin rfl (PySem.Calls.evalArgs_plain ?_)
  refine spliced_cons (wpAny_mono ha (fun v s₂ h => ?_) fun _ _ h => h)
  exact spliced_nil (acc_append (h.1 _ _ (le _ _ hC)) (h.1 _ _ hx) h.2.1 h.2.2)
end
section
variable {W : Wd} {k : Nat} {mN : Str -> Option Value}
theorem IStep.upd {g g' : Heap} {s s₂ : Shared} {x dx : Addr} {vs : Array Value} {n tk : Nat} {f : Array Value -> Array Value} {C : Addr} (G : Grow g s g' s₂) (gx : g'.get? x = none) (hx : s₂.heap.get? x = some (accO C dx vs n)) :
    IStep (· = x) g s g' { s₂ with heap := s₂.heap.update x (Obj.mapSeq f), toks := tk } :=
  ⟨G.gg, fun b o hb e => le_upd b o hb (G.le _ _ e), G.gn, fun a ha e => (by
    cases q : s.heap.get? a with
    | none => rfl
    | some o => rw [show (s₂.heap.update x (Obj.mapSeq f)).get? a = some o from le_upd a o ha (G.le _ _ q)] at e; cases e), fun b o e => le_upd b o (by rintro rfl; rw [gx] at e; cases e) (G.gl _ _ e), G.os, G.gens⟩
theorem kind_of {env : Env} {F : FnDef} {ps : List Str} (e1 : env.scope = F.scope) (hok : mOK F ps = true) {y : Str} (hy : y ∈ ps) : env.kindOf y = some .local := by
  unfold Env.kindOf; rw [e1]; exact (mFacts hok).loc y hy
theorem sk_of {env : Env} {F : FnDef} {ps : List Str} (e1 : env.scope = F.scope) (hok : mOK F ps = true) : env.scope.kind = .function := by rw [e1]; exact (mFacts hok).kind
noncomputable def pushO (_ : Int) (l : List PyData) : List PyData -> Option (PyData × List PyData)
  | [a, b] => if l.length ≤ 100000 then some (.none, l ++ [.tuple [a, b]]) else none
  | _ => none
theorem op_push {f : Addr} {F : FnDef} {e : Expr} {sp np p1 p2 tp : Pos} {kk : Nat} (X : AccW W mN) (M : MethAt W f F []) (hok : mOK F ["self", "fws", "string"] = true)
    (hbody : F.body = [.Expr e sp]) (hs : MCall "append" (.Name "self" np) [.Tuple [.Name "fws" p1, .Name "string" p2] kk tp] e) (hsw : ∀ env, swapsWith e none sp.line env = pure false) :
    AOp W (k + 1) f pushO := by
  intro first l ds d l' h A g s x dx vs n args Q E R ok le hx had hrd gx hargs K
  unfold pushO at h
  split at h
  · rename_i a b
    rw [Option.ite_none_right_eq_some] at h
    obtain ⟨hz, h⟩ := h
    cases h
    obtain ⟨v, u, rfl, ra, rb⟩ := hargs.two
    have hlen := hrd.len
    rw [Array.length_toList] at hlen
    refine meth_call' M hok R ok le rfl fun env h₀ E' e1 e2 e3 e4 e5 e6 e7 e8 hn keep R' tk => ?_
    obtain ⟨nm, N, k0, k1, k2, k3, k5, hC, hN⟩ := X.cls g ok
    have gle : Le g h₀ := le.trans keep
    have hk := sk_of e1 hok
    rw [hbody]
    refine PySem.wpAt_of_wpAny (wpAny_execs_cons (wpAny_Expr ?_ (by unfold interactive; rw [hk]; rfl) (hsw _)))
    refine acc_mappend (s := { s with heap := h₀, toks := tk }) X ok gle hs (fun _ => rfl) (fun Q hq => wpAny_loadName_local hk (kind_of e1 hok (.head _)) hn (by rfl) hq) (by decide) (keep _ _ hx) had ?_
    refine wpAny_Tuple ?_
    refine spliced_cons (wpAny_Name (wpAny_loadName_local hk (kind_of e1 hok (.tail _ (.head _))) hn (v := v) (by rfl) ?_) (by decide))
    refine spliced_cons (wpAny_Name (wpAny_loadName_local hk (kind_of e1 hok (.tail _ (.tail _ (.head _)))) hn (v := u) (by rfl) ?_) (by decide))
    refine spliced_nil ⟨by show 2 ≤ sizeLine; rw [sizeLine_eq]; decide, ?_⟩
    obtain ⟨g', G, hg'⟩ := grow_push (g := g) (s := { s with heap := h₀, toks := tk }) (o := tupO #[v, u] 0) gle rfl
    have G0 : Grow g s g { s with heap := h₀, toks := tk } := ⟨keep, rfl, id, Le.refl, gle, fun _ _ _ e => e⟩
    have G' := G0.trans G
    have gx' : g'.get? x = none := G'.gn _ _ hx gx
    have hx' : (h₀.push (tupO #[v, u] 0)).get? x = some (accO W.C dx vs n) := G.le _ _ (keep _ _ hx)
    obtain ⟨n', hn'⟩ := acc_upd (s := { s with heap := h₀.push (tupO #[v, u] 0), toks := tk }) hx' (·.push (.ref h₀.objs.size))
    refine ⟨G.le, by lia, wpAny_execs_nil ?_⟩
    refine K .none g' _ _ n' (IStep.upd (tk := tk) G' gx' hx') hn' ?_ .none
    have rt : RD g' (.ref h₀.objs.size) (.tuple [a, b]) := RD.tuple hg' (.cons (RD.le G'.gg ra) (.cons (RD.le G'.gg rb) .nil))
    simpa using (RDs.le G'.gg hrd).append (.cons rt .nil)
  · cases h
theorem acc_subTail {x dx : Addr} {value : Expr} {lo : Option Expr} {p : Pos} {sl : Addr} {vl : Value} {i : Nat} {vs : Array Value} {n : Nat} {g : Heap} {s : Shared} {A : Around} {Q : Value -> Shared -> Prop} {E : Value -> Shared -> Prop} (X : AccW W mN) (ok : WOK W g) (le : Le g s.heap)
    (hx : s.heap.get? x = some (accO W.C dx vs n)) (hs : s.heap.IsSliceOf sl vl .none .none) (pl : IsPart vl (some (i : Int))) (hsz : vs.size ≤ 100000) (ht : ∀ o r, letTemporaryGo value o r = pure ())
    (hq : Q (.ref s.heap.objs.size) { s with heap := s.heap.push (listO (slicePick vs (some (i : Int)) none none) 0) }) : wpAny W.M A (subscriptTail value (.Slice lo none none p) (.ref x) (.ref sl)) Q E s := by
  obtain ⟨nm, N, k0, k1, k2, k3, k5, hC, hN⟩ := X.cls g ok
  unfold subscriptTail
  refine wpAny_bind ?_
  unfold getitemInPython
  refine wpAny_bind (acc_special (le _ _ hC) (hN.keeps le) PySem.F.slot_list_getitem.lookup hx ?_)
  rw [X.get]
  refine wpAny_pure ?_
  refine wpAny_bind ?_
  show wpAny _ _ (operate [.ref sl, .ref x] (getItem (.ref x) (.ref sl))) _ _ _
  refine wpAny_operateT (acc_getItem (le _ _ hC) (hN.keeps le) X.get hx hs pl .none hsz ?_)
  exact wpAny_bind (wpAny_of_eq (ht _ _) (wpAny_pure hq))
noncomputable def popfO (_ : Int) (l : List PyData) : List PyData -> Option (PyData × List PyData)
  | [.int i] => if 0 ≤ i ∧ i ≤ l.length ∧ l.length ≤ 100000 then some (.list (l.drop i.toNat), l.take i.toNat) else none
  | _ => none
theorem op_pop_from {f : Addr} {F : FnDef} {n1 n2 n3 n4 n5 n6 a1 a2 a3 b1 b2 b3 b4 b5 : Pos} (X : AccW W mN) (M : MethAt W f F []) (hok : mOK F ["self", "i"] = true) (hpop : F.scope.names.lookup ("popped" : Str) = some .local)
    (hbody : F.body = [.Assign [.Name "popped" n1] (.Subscript (.Name "self" n2) (.Slice (some (.Name "i" n3)) none none a1) a2) a3,
      .Assign [.Subscript (.Name "self" n4) (.Slice (some (.Name "i" n5)) none none b1) b2] (.List [] b3) b4, .Return (some (.Name "popped" n6)) b5])
    (hs1 : ∀ env, swapsWith (.Subscript (.Name "self" n2) (.Slice (some (.Name "i" n3)) none none a1) a2) (some (.Name "popped" n1)) a3.line env = pure false)
    (hs2 : ∀ env, swapsWith (.List [] b3) (some (.Subscript (.Name "self" n4) (.Slice (some (.Name "i" n5)) none none b1) b2)) b4.line env = pure false) : AOp W (k + 1) f popfO := by
  intro first l ds d l' h A g s x dx vs n args Q E R ok le hx had hrd gx hargs K
  unfold popfO at h
  split at h
  · rename_i i
    rw [Option.ite_none_right_eq_some] at h
    obtain ⟨⟨hi0, hi1, hz⟩, h⟩ := h
    cases h
    obtain ⟨v, rfl, ri⟩ := hargs.one
    obtain ⟨ti, rfl⟩ := ri.of_int
    have hlen := hrd.len
    rw [Array.length_toList] at hlen
    have ei : i = ((i.toNat : Nat) : Int) := by lia
    refine meth_call' M hok R ok le rfl fun env h₀ E' e1 e2 e3 e4 e5 e6 e7 e8 hn keep R' tk => ?_
    obtain ⟨nm, N, k0, k1, k2, k3, k5, hC, hN⟩ := X.cls g ok
    have gle : Le g h₀ := le.trans keep
    have hk := sk_of e1 hok
    have hkp : env.kindOf "popped" = some .local := by unfold Env.kindOf; rw [e1]; exact hpop
    have xL : x ≠ env.locals := by rw [e2]; rintro rfl; rw [size_none] at hx; cases hx
    have hx0 := keep _ _ hx
    rw [hbody]
    refine PySem.wpAt_of_wpAny (wpAny_execs_cons (wpAny_Assign_Name ?_ (hs1 _)))
    refine Subscript_ (wpAny_Name (wpAny_loadName_local hk (kind_of e1 hok (.head _)) hn (v := .ref x) (by rfl) ?_) (by decide))
    refine wpAny_Slice (evalPart_some_step (wpAny_Name (wpAny_loadName_local hk (kind_of e1 hok (.tail _ (.head _))) hn (v := .int i ti) (by rfl) (evalPart_none_step (evalPart_none_step ?_))) (by decide)))
    have c1 : Le h₀ (h₀.push { cls := .type "slice", data := .fields #[.int i ti, .none, .none] }) := le_push
    refine acc_subTail (s := { s with heap := h₀.push { cls := .type "slice", data := .fields #[.int i ti, .none, .none] }, toks := tk }) (i := i.toNat) X ok (gle.trans c1) (c1 _ _ hx0) ⟨_, Heap.get?_push_size _ rfl, rfl, rfl⟩ (by rw [<- ei]; exact .int i ti) (by lia) (fun _ _ => rfl) ?_
    have ep : slicePick vs (some ((i.toNat : Nat) : Int)) none none = (vs.toList.drop i.toNat).toArray := slicePick_from' vs i.toNat
    rw [ep]
    generalize hH1 : h₀.push { cls := .type "slice", data := .fields #[.int i ti, .none, .none] } = H1 at c1 ⊢
    have c2 : Le H1 (H1.push (listO (vs.toList.drop i.toNat).toArray 0)) := le_push
    have hD : (H1.push (listO (vs.toList.drop i.toNat).toArray 0)).get? H1.objs.size = some (listO (vs.toList.drop i.toNat).toArray 0) := Heap.get?_push_size _ rfl
    have nD : h₀.get? H1.objs.size = none := c1.none size_none
    generalize hDD : H1.objs.size = D at hD nD ⊢
    generalize hH2 : H1.push (listO (vs.toList.drop i.toNat).toArray 0) = H2 at c2 hD ⊢
    have c12 : Le h₀ H2 := c1.trans c2
    have DL : D ≠ env.locals := by rintro rfl; obtain ⟨o, _, _, ho, _⟩ := hn; rw [nD] at ho; cases ho
    refine wpAny_storeName_local hkp (Heap.Ns.of_get hn fun o e => c12 _ _ e) (fun h3 hn3 sb3 => ?_) (by rw [hk]; rfl)
    have c3 : ∀ b o, b ≠ env.locals -> H2.get? b = some o -> h3.get? b = some o := fun b o hb e => sb3.extBut b o hb e
    have nL : s.heap.get? env.locals = none := by rw [e2]; exact size_none
    have keep3 : Le s.heap h3 := fun b o e => c3 b o (by rintro rfl; rw [nL] at e; cases e) (c12 _ _ (keep _ _ e))
    refine wpAny_execs_cons (wpAny_Assign_Subscript ?_ (hs2 _))
    refine wpAny_List (spliced_nil ⟨by show 0 ≤ sizeLine; decide, ?_⟩)
    have d1 : Le h3 (h3.push (listO #[] 0)) := le_push
    show wpAny _ _ _ _ _ { s with heap := h3.push (listO #[] 0), toks := tk + 1 }
    refine wpAny_Name (wpAny_loadName_local hk (kind_of e1 hok (.head _)) (Heap.Ns.of_get hn3 fun o e => d1 _ _ e) (v := .ref x) (by rfl) ?_) (by decide)
    refine wpAny_Slice (evalPart_some_step (wpAny_Name (wpAny_loadName_local hk (kind_of e1 hok (.tail _ (.head _))) (Heap.Ns.of_get hn3 fun o e => d1 _ _ e) (v := .int i ti) (by rfl) (evalPart_none_step (evalPart_none_step ?_))) (by decide)))
    show wpAny _ _ (setItem _ _ (.ref h3.objs.size)) _ _ _
    have he : (h3.push (listO #[] 0)).get? h3.objs.size = some (listO #[] 0) := Heap.get?_push_size _ rfl
    generalize h3.objs.size = el at he ⊢
    generalize hH4 : h3.push (listO #[] 0) = H4 at d1 he ⊢
    have d2 : Le H4 (H4.push { cls := .type "slice", data := .fields #[.int i ti, .none, .none] }) := le_push
    have hsl : (H4.push { cls := .type "slice", data := .fields #[.int i ti, .none, .none] }).IsSliceOf H4.objs.size (.int i ti) .none .none := ⟨_, Heap.get?_push_size _ rfl, rfl, rfl⟩
    have g5 : Le s.heap (H4.push { cls := .type "slice", data := .fields #[.int i ti, .none, .none] }) := (keep3.trans d1).trans d2
    refine acc_setItem (s := { s with heap := H4.push { cls := .type "slice", data := .fields #[.int i ti, .none, .none] }, toks := tk + 1 }) (i := i.toNat) (g5 _ _ (le _ _ hC)) (hN.keeps (le.trans g5)) X.set (g5 _ _ hx) hsl (by rw [<- ei]; exact .int i ti) (d2 _ _ he) (by lia) (by lia) fun ff hff => ?_
    generalize hH5 : H4.push { cls := .type "slice", data := .fields #[.int i ti, .none, .none] } = H5 at g5 d2 ⊢
    have hn5 : H5.Ns env.locals _ := Heap.Ns.of_get hn3 fun o e => d2 _ _ (d1 _ _ e)
    have hn6 := Heap.Ns.of_get hn5 (h' := H5.update x (Obj.mapSeq ff)) fun o e => le_upd _ o (Ne.symm xL) e
    have hD5 : H5.get? D = some (listO (vs.toList.drop i.toNat).toArray 0) := d2 _ _ (d1 _ _ (c3 _ _ DL hD))
    have nDs : s.heap.get? D = none := keep.none nD
    refine wpAny_execs_cons (wpAny_Return_some (wpAny_Name (wpAny_loadName_local hk hkp hn6 (v := .ref D) (by simp) ?_) (by decide)))
    have hnew : ∀ a, a = D -> s.heap.get? a = none := fun a q => q ▸ nDs
    have G : Grow g s (addH g H5 (· = D)) { s with heap := H5, toks := tk + 1 } := Grow.add (s' := { s with heap := H5, toks := tk + 1 }) (· = D) hnew le g5 rfl id
    have gx' := G.gn _ _ hx gx
    obtain ⟨n', hn'⟩ := acc_upd (s := { s with heap := H5, toks := tk + 1 }) (g5 _ _ hx) ff
    rw [hff] at hn'
    have rD : RD (addH g H5 (· = D)) (.ref D) (.list (l.drop i.toNat)) := RD.list (addH_get.mpr ⟨.inr rfl, hD5⟩) (by simpa using RDs.le G.gg (hrd.drop i.toNat))
    exact K (.ref D) _ _ _ n' (IStep.upd (tk := tk + 1) G gx' (g5 _ _ hx)) hn' (by simpa using RDs.le G.gg (hrd.take i.toNat)) rD
  · cases h
end
section
variable {W : Wd} {k : Nat} {mN : Str -> Option Value}
noncomputable def pcO (_ : Int) (l : List PyData) (ds : List PyData) : Option (PyData × List PyData) := if ds = [] ∧ l.length ≤ 100000 then some (.int l.length, l) else none
noncomputable def popO (_ : Int) (l : List PyData) (ds : List PyData) : Option (PyData × List PyData) := if ds = [] ∧ l.length ≤ 100000 then l.getLast?.map fun d => (d, l.dropLast) else none
theorem IStep.trans {p : Addr -> Prop} {g₁ g₂ g₃ : Heap} {s₁ s₂ s₃ : Shared} (x : IStep p g₁ s₁ g₂ s₂) (y : IStep p g₂ s₂ g₃ s₃) (hp : ∀ a, p a -> ∃ o, s₂.heap.get? a = some o) : IStep p g₁ s₁ g₃ s₃ where
  gg := x.gg.trans y.gg
  hh := fun b o hb e => y.hh b o hb (x.hh b o hb e)
  gn := fun a o ha e => by
    by_cases h : p a
    · obtain ⟨o', q⟩ := hp a h
      exact y.gn a o' q (x.gn a o ha e)
    · exact y.gn a o (x.hh a o h ha) (x.gn a o ha e)
  lv := fun a ha e => x.lv a ha (y.lv a ha e)
  le := y.le
  os := y.os.trans x.os
  gens := y.gens ∘ x.gens
theorem op_pop {f c fpc : Addr} {F Fpc : FnDef} {e1 e2 : Expr} {rt : Expr} {ck : Nat} {np cpos cmpos rp0 ip rp : Pos} (X : AccW W mN) (M : MethAt W f F [(("__class__" : Str), c)]) (hcell : ∀ g, WOK W g -> g.IsCell c (some (.ref W.C))) (hok : mOK F ["self"] = true) (hsup : supOK F = true)
    (hbody : F.body = [.If (.Compare e1 [.Eq] [.Constant (.int 0) ck cpos] cmpos) [.Return (some rt) rp0] [] ip, .Return (some e2) rp]) (hs1 : MCall "part_count" (.Name "self" np) [] e1) (hs : SupCall "pop" e2)
    (hpc : AOp W k fpc pcO) (hm : mN "part_count" = some (.ref fpc)) {clo} (Mpc : MethAt W fpc Fpc clo) (hB : ∃ y, typeLookup (.type "list") "part_count" = pure y) : AOp W (k + 1) f popO := by
  intro first l ds d l' h A g s x dx vs n args Q E R ok le hx had hrd gx hargs K
  unfold popO at h
  rw [Option.ite_none_right_eq_some, Option.map_eq_some_iff] at h
  obtain ⟨⟨rfl, hz⟩, d', hd, h⟩ := h
  cases h
  rw [hargs.nil_iff]
  obtain ⟨p0, p1, apos, pos, rfl, he⟩ := hs
  obtain ⟨y, hB⟩ := hB
  refine meth_sup X M hcell hok hsup R ok le rfl (by simp) fun env h₀ E' ME e1' e2' hn keep R' tk => ?_
  have gle : Le g h₀ := le.trans keep
  have hk := sk_of e1' hok
  rw [hbody]
  refine ks_wpAt_execs_cons (ks_wpAt_If (PySem.wpAt_of_wpAny (wpAny_isTrue_Compare1 ?_ (by rfl))))
  refine acc_mcall0 (s := { s with heap := h₀, toks := tk }) X ok gle hs1 (fun Q hq => wpAny_loadName_local hk (kind_of e1' hok (.head _)) hn (by rfl) hq) (by decide) (keep _ _ hx) had hm Mpc (by decide) hB ?_
  refine hpc first l [] (.int l.length) l (by unfold pcO; rw [if_pos ⟨rfl, hz⟩]) _ g { s with heap := h₀, toks := tk } x dx vs n [] _ _ R' ok gle (keep _ _ hx) had hrd gx .nil fun v g₁ s₁ vs₁ n₁ y₁ hx₁ hr₁ rv => ?_
  obtain ⟨t, rfl⟩ := rv.of_int
  refine wpAny_Constant_int (PyProof.Rows.eq_int (wpAny_truthy_bool ?_))
  have hne : ((l.length : Int) == 0) = false := by
    cases l with
    | nil => simp at hd
    | cons a r => simp; lia
  rw [hne]
  simp only [Bool.false_eq_true, if_false]
  refine PySem.wpAt_of_wpAny (wpAny_execs_nil ?_)
  have ok₁ := ok.le y₁.gg
  obtain ⟨nm, N, k0, k1, k2, k3, k5, hC, hN⟩ := X.cls g₁ ok₁
  have gx₁ : g₁.get? x = none := y₁.gn _ _ (keep _ _ hx) gx
  have ME₁ : MEnv W g s₁.heap env "self" x := ME.step (keep _ _ hx) y₁.hh
  have ok' := X.cls g ok
  obtain ⟨pl, he'⟩ := he env
  obtain ⟨v, hv, hr', hrd'⟩ := hr₁.split_last hd
  have hlen := hr₁.len
  rw [Array.length_toList] at hv hlen
  have gs₁ : Le g s₁.heap := y₁.gg.trans y₁.le
  refine ks_wpAt_execs_cons (ks_wpAt_Return_some ?_)
  refine sup_expr (s := { s₁ with toks := s₁.toks + 1 }) supB_pop ME₁ gs₁ (y₁.le _ _ hC) hx₁ ((X.opq g₁ ok₁).keeps y₁.le) (C_ne X ok gx) he' fun A s₂ E k2 os gens => ?_
  have G0 : Grow g s g { s with heap := h₀, toks := tk } := ⟨keep, rfl, id, Le.refl, gle, fun _ _ _ e => e⟩
  have Y1 := (IStep.of_grow (p := (· = x)) G0).trans y₁ fun a q => ⟨_, q ▸ keep _ _ hx⟩
  have G2 : Grow g₁ s₁ g₁ s₂ := ⟨k2, os, fun q => by rw [gens]; exact q, Le.refl, y₁.le.trans k2, fun _ _ _ e => e⟩
  have Y2 := IStep.upd (f := (·.eraseIdxIfInBounds (vs₁.size - 1))) (tk := s₂.toks) G2 gx₁ (k2 _ _ hx₁)
  have Y := Y1.trans Y2 fun a q => ⟨_, q ▸ hx₁⟩
  obtain ⟨n', hn'⟩ := acc_upd (s := s₂) (k2 _ _ hx₁) (·.eraseIdxIfInBounds (vs₁.size - 1))
  refine acc_pop_body (s := s₂) (k2 _ _ (y₁.le _ _ hC)) (k2 _ _ hx₁) (by simpa using hv) (by lia) (K _ g₁ _ _ n' Y hn' ?_ hr')
  have : (vs₁.eraseIdxIfInBounds (vs₁.size - 1)).toList = vs₁.toList.dropLast := by
    rw [Array.toList_eraseIdxIfInBounds, List.dropLast_eq_take, List.eraseIdx_eq_take_drop_succ]
    have hne : 0 < vs₁.size := by
      rw [hlen]; cases l with
      | nil => simp at hd
      | cons => simp
    rw [List.drop_of_length_le (by simp; omega)]; simp
  rw [this]; exact hrd'
end
theorem split_lnew : splitId "list.__new__" = some ("list", "__new__") := by decide +kernel
theorem kind_lnew : builtinKind "list.__new__" = some .builtinFn := by decide +kernel
theorem sig_lnew : Manifest.signature? "list.__new__" = some ⟨.any, "list", "list", .cls, [⟨"args", .varPos, false⟩, ⟨"kwargs", .varKw, false⟩]⟩ := by kernel_rfl
section
variable {prog : Program} {w : World} {A : Around} {E : Value -> Shared -> Prop} {h : Heap} {g : Array GenState} {d : Drawn} {t : Nat} {os : OsState}
variable {nm q : Str} {C N x dx : Addr} {k0 k1 k2 k3 k5 : Option Value} {mN mA : Str -> Option Value} {name : Str} {v : Value} {vs : Array Value} {n : Nat}
theorem check_lnew {M : Model} {rest : List Value} {Q : Unit -> Shared -> Prop} (hC : h.get? C = some (clsO nm q C N k0 k1 k2 k3 k5)) (hq : Q () ⟨h, g, d, t, os⟩) :
    wpAny M A (checkBuiltinCall "list.__new__" ⟨.ref C :: rest, []⟩) Q E ⟨h, g, d, t, os⟩ := by
  have hcont : (Value.ref C :: lBases).contains (.type "list") = true := by rw [List.contains_cons, show lBases.contains (.type "list") = true from by decide, Bool.or_true]
  simp only [checkBuiltinCall, kind_lnew, split_lnew, sig_lnew]
  repeat (first | refine wpAny_loadPart_at hC ?_ | (refine wpAny_isSubtype_exc hC ?_; rw [hcont]) | refine wpAny_staticBase_exc hC ?_ | refine wpAny_madeBy_exc hC ?_ | simp only [bne_self_eq_false, Bool.false_eq_true, if_false] | wp_step)
  exact hq
theorem acc_new {rest : List Value} {Q : Value -> Shared -> Prop} (hC : h.get? C = some (clsO nm q C N k0 k1 k2 k3 k5))
    (hq : Q (.ref (h.objs.size + 1)) ⟨(h.push { cls := .type "dict", data := .dict #[] }).push (accO C h.objs.size #[] 0), g, d, t, os⟩) : wpAny (model prog w) A (call (.builtin "list.__new__") (.ref C :: rest)) Q E ⟨h, g, d, t, os⟩ := by
  refine wpAny_call (codeAny_of_tree ?_)
  show wpAny _ _ (do checkBuiltinCall "list.__new__" ⟨.ref C :: rest, []⟩; again (.builtin "list.__new__" ⟨.ref C :: rest, []⟩)) _ _ _
  refine wpAny_bind (check_lnew hC (wpAny_pure ⟨plainId_quiet F.plain_list_new _, codeAny_builtin_stack F.entry_list_new rfl fun p st => ?_⟩))
  rw [Around.under_plainId F.plain_list_new _]
  have hown := owner_list_new
  have hcont : (Value.ref C :: lBases).contains (.type "list") = true := by rw [List.contains_cons, show lBases.contains (.type "list") = true from by decide, Bool.or_true]
  dsimp only
  rw [hown]
  refine wpAny_bind (ks_wpAny_isType_cls hC rfl ?_)
  rw [if_neg (by decide)]
  refine wpAny_bind (wpAny_isSubtype_exc hC ?_)
  rw [hcont, if_neg (by decide)]
  refine wpAny_bind (wpAny_pure ?_)
  rw [if_neg (by simp [typeHasDict])]
  refine wpAny_bind (wpAny_bind (wpAny_alloc' (wpAny_pure ?_)))
  refine wpAny_bind (wpAny_bind (wpAny_alloc' ?_))
  have hC₁ : ((h.push { cls := .type "dict", data := .dict #[] }).push { cls := Value.ref C, dict := some h.objs.size, data := Data.seq #[] }).get? C = some (clsO nm q C N k0 k1 k2 k3 k5) := Heap.get?_push_of_some _ (Heap.get?_push_of_some _ hC)
  dsimp only
  refine wpAny_bind (m := classHasDel C) ?_
  unfold classHasDel
  refine wpAny_bind (wpAny_loadPart_at hC₁ ?_)
  refine wpAny_pure ?_
  rw [if_neg (by simp)]
  refine wpAny_pure (wpAny_pure ?_)
  show Q _ _
  rw [Heap.size_push]
  exact hq
theorem acc_make {W : Wd} {k : Nat} {mN : Str -> Option Value} {A : Around} {E : Value -> Shared -> Prop} (X : AccW W mN) {g : Heap} {s : Shared} {fI : Addr} {FI : FnDef} {clo : List (Str × Addr)} {rest : List Value} {Q : Value -> Shared -> Prop} (ok : WOK W g) (le : Le g s.heap) (R : Room A (k + 1))
    (hi : mN "__init__" = some (.ref fI)) (MI : MethAt W fI FI clo) {y : Option Value} (hB : typeLookup (.type "list") "__init__" = pure y)
    (hq : ∀ (A' : Around) (E : Value -> Shared -> Prop), Room A' k -> wpAny W.M A' (call (.ref fI) (.ref (s.heap.objs.size + 1) :: rest)) (fun r s' => r = .none ∧ Q (.ref (s.heap.objs.size + 1)) s') E { s with heap := (s.heap.push { cls := .type "dict", data := .dict #[] }).push (accO W.C s.heap.objs.size #[] 0) }) :
    wpAny W.M A (call (.ref W.C) rest) Q E s := by
  obtain ⟨nm, N, k0, k1, k2, k3, k5, hC₀, hN₀⟩ := X.cls g ok
  obtain ⟨of, fd, _, _, _, _, _, hf1, hf2, _⟩ := MI.at_ g ok
  obtain ⟨h, gg, d, t, os⟩ := s
  have hC := le _ _ hC₀
  have hN := hN₀.keeps le
  have f1 := tc_lookup
  have f2 := tc_bind (.ref W.C)
  have hT : (⟨h, gg, d, t, os⟩ : Shared).TypeIs (.ref W.C) "type" := ⟨_, hC, rfl⟩
  refine wpAny_call (codeAny_of_tree ?_)
  show wpAny _ _ (callAny (.ref W.C) _) _ _ _
  repeat (any_goals (first | assumption | with_reducible refine wpAny_loadPart_at hC ?_ | wp_step))
  refine ⟨rfl, ?_⟩
  refine codeAny_call_builtin_at (Code.quiet_builtin _ (by decide +kernel)) entry_typeCall (wpAny_check_type_call_sub hC ?_)
  have R' : Room (A.under (.builtin "type.__call__" ⟨.ref W.C :: rest, []⟩)) k := ⟨R.h, by have := R.d; show A.depth + 1 + k + 50 ≤ 1000; omega, by have := R.u; show A.units + 1 + 20 * k + 1000 ≤ 9900; omega, R.f⟩
  have hself : (Value.ref W.C :: lBases).contains (.ref W.C) = true := by simp
  unfold Builtin.«type.__call__»
  dsimp only [List.cons_append, List.nil_append]
  rw [if_neg (by rw [show (Value.ref W.C == Value.type "type") = false from rfl]; decide)]
  refine wpAny_bind (wpAny_mroOf_exc hC ?_)
  rw [if_neg (by simp)]
  refine wpAny_bind (wpAny_madeBy_exc hC (wpAny_bind (wpAny_pure ?_)))
  refine wpAny_bind (wpAny_holding (acc_new hC ?_))
  have s1 : Le h ((h.push { cls := .type "dict", data := .dict #[] }).push (accO W.C h.objs.size #[] 0)) := fun b o e => Heap.get?_push_of_some _ (Heap.get?_push_of_some _ e)
  have hx : ((h.push { cls := .type "dict", data := .dict #[] }).push (accO W.C h.objs.size #[] 0)).get? (h.objs.size + 1) = some (accO W.C h.objs.size #[] 0) := by
    have := Heap.get?_push_size (h.push { cls := .type "dict", data := .dict #[] }) (o := accO W.C h.objs.size #[] 0) rfl
    rwa [Heap.size_push] at this
  unfold isInstance
  refine wpAny_bind (wpAny_bind (acc_typeOf (s := ⟨_, gg, d, t, os⟩) hx ?_))
  refine wpAny_isSubtype_exc (s1 _ _ hC) ?_
  rw [hself]
  rw [if_neg (by decide)]
  refine wpAny_bind (wpAny_holding (acc_own (s := ⟨_, gg, d, t, os⟩) (s1 _ _ hC) (hN.keeps s1) hi (s1 _ _ (le _ _ hf1)) hf2 hB hx ?_))
  refine wpAny_mono (hq _ _ R') (fun r s' hr => ?_) fun _ _ h => h
  obtain ⟨rfl, hr⟩ := hr
  dsimp only
  rw [if_neg (by decide)]
  exact wpAny_pure hr
end
theorem store_list : StoreFacts "list" lBases "object.__setattr__" "object" where
  mro := F.mro_list
  slot := .of (owner := "object") (n := "__setattr__") (by rw [typeLookup_type, builtinLookup_eq_fast]; kernel_rfl) (by decide +kernel) (by decide +kernel) (by decide +kernel)
    (by first | exact .inl (by decide +kernel) | exact .inr (by decide +kernel)) (by rw [isSubtype_type]; kernel_rfl)
  entry := F.entry_object_sa
  kind := by decide +kernel
  split := by decide +kernel
  hasOwner := by decide +kernel
  args := fun a b c => by unfold argsOk; kernel_rfl
  passes := fun self => by kernel_rfl
theorem lk_list_size : typeLookup (.type "list") "_initial_size" = pure none := by rw [typeLookup_type, builtinLookup_eq_fast]; kernel_rfl
theorem lk_list_init : typeLookup (.type "list") "__init__" = pure (some (.builtin "list.__init__")) := PySem.F.slot_list_init.lookup
section
variable {W : Wd} {k : Nat} {mN : Str -> Option Value}
theorem ns_empty {h : Heap} {a : Addr} (e : h.get? a = some { cls := .type "dict", data := .dict #[] }) : h.Ns a fun _ => none := ⟨_, #[], _, e, rfl, fun e he => absurd he (by simp), fun _ => rfl⟩
theorem op_init {f c : Addr} {F : FnDef} {e2 : Expr} {np ap vp sp ep : Pos} (X : AccW W mN) (M : MethAt W f F [(("__class__" : Str), c)]) (hcell : ∀ g, WOK W g -> g.IsCell c (some (.ref W.C))) (hok : mOK F ["self", "initial_size"] = true) (hsup : supOK F = true) (hsa : mN "__setattr__" = none) (hsz : mN "_initial_size" = none)
    (hbody : F.body = [.Assign [.Attribute (.Name "self" np) "_initial_size" ap] (.Name "initial_size" vp) sp, .Expr e2 ep]) (hs : SupCall "__init__" e2)
    (hsw1 : ∀ env, swapsWith (.Name "initial_size" vp) (some (.Attribute (.Name "self" np) "_initial_size" ap)) sp.line env = pure false) (hsw2 : ∀ env, swapsWith e2 none ep.line env = pure false)
    {A : Around} {g : Heap} {s : Shared} {x dx : Addr} {n : Nat} {i : Int} {t : Tok} {Q : Value -> Shared -> Prop} {E : Value -> Shared -> Prop} (R : Room A (k + 1)) (ok : WOK W g) (le : Le g s.heap) (hx : s.heap.get? x = some (accO W.C dx #[] n)) (hd : s.heap.get? dx = some { cls := .type "dict", data := .dict #[] }) (hne : dx ≠ x) (gx : g.get? x = none) (gd : g.get? dx = none)
    (K : ∀ g' s' n', Le g g' -> (∀ b o, ¬ (b = x ∨ b = dx) -> s.heap.get? b = some o -> s'.heap.get? b = some o) -> (∀ a o, a ≠ dx -> s.heap.get? a = some o -> g.get? a = none -> g'.get? a = none) -> Le g' s'.heap -> s'.os = s.os -> (AllBare s.gens -> AllBare s'.gens) ->
      s'.heap.get? x = some (accO W.C dx #[] n') -> AccDict g' dx i -> g'.get? x = none -> Q .none s') : wpAny W.M A (call (.ref f) [.ref x, .int i t]) Q E s := by
  obtain ⟨p0, p1, apos, pos, rfl, he⟩ := hs
  refine meth_sup X M hcell hok hsup R ok le rfl (by decide) fun env h₀ E' ME e1 e2' hn keep R' tk => ?_
  have gle : Le g h₀ := le.trans keep
  have hk := sk_of e1 hok
  obtain ⟨nm, N, k0, k1, k2, k3, k5, hC, hN⟩ := X.cls g ok
  have xC : x ≠ W.C := by rintro rfl; rw [gx] at hC; cases hC
  have hx0 := keep _ _ hx
  have hd0 := keep _ _ hd
  rw [hbody]
  refine ks_wpAt_execs_cons (ks_wpAt_Assign_Attr (PySem.wpAt_of_wpAny ?_) (hsw1 _))
  refine wpAny_Name (wpAny_loadName_local hk (kind_of e1 hok (.tail _ (.head _))) hn (v := .int i t) (by rfl) ?_) (by decide)
  refine wpAny_Name (wpAny_loadName_local hk (kind_of e1 hok (.head _)) hn (v := .ref x) (by rfl) ?_) (by decide)
  have I : h₀.Inst x W.C fun _ => none := ⟨_, hx0, rfl, (fun c e => by cases e), .inr ⟨dx, rfl, hne, Heap.Ns1.of_empty (ns_empty hd0)⟩⟩
  obtain ⟨h, gg, d, t', os⟩ := s
  refine store_attr (ns := []) store_list (gle _ _ hC) (hN.keeps gle) hsa hsz lk_list_size xC I (fun h' tk' I' hk' hsame => ?_) (fun y h => absurd rfl h) (by simp)
  obtain ⟨o₁, hx₁, c1, c2, c3, c4⟩ := hsame _ hx0
  have hx' : h'.get? x = some (accO W.C dx #[] n) := by
    rw [hx₁]
    obtain ⟨oc, od, odt, osl⟩ := o₁
    simp only at c1 c2 c3 c4
    have := c4 dx rfl
    subst c1 c2 c3 this
    rfl
  have kp : ∀ b o, ¬ (b = x ∨ b = dx) -> h₀.get? b = some o -> h'.get? b = some o := fun b o hb e => by
    rw [not_or] at hb
    exact hk' b o hb.1 (fun o₀ dx' q1 q2 => by rw [hx0] at q1; cases q1; cases q2; exact hb.2) e
  have gle' : Le g h' := fun b o e => kp b o (fun q => by rcases q with rfl | rfl; · rw [gx] at e; cases e
                                                          · rw [gd] at e; cases e) (gle _ _ e)
  have ns' : h'.Ns dx fun y => if y = ("_initial_size" : Str) then some (.int i t) else none := by
    obtain ⟨o, q1, _, _, q4⟩ := I'
    rw [hx'] at q1
    cases q1
    rcases q4 with ⟨q, _⟩ | ⟨dx', q, _, q'⟩
    · cases q
    · cases q; exact q'.ns
  have ME₁ : MEnv W g h' env "self" x := ME.change (fun b o d0 d2 e => kp b o (fun q => q.elim (fun q => by rw [q, hx0] at e; exact d2 (by rw [<- Option.some.inj e]; rfl)) fun q => by rw [q, hd0] at e; exact d0 (by rw [<- Option.some.inj e]; rfl)) e)
    fun o e => kp _ o (fun q => by
      rw [e2'] at q
      exact q.elim (fun q => by rw [<- q, size_none] at hx; cases hx) fun q => by rw [<- q, size_none] at hd; cases hd) e
  refine ks_wpAt_execs_cons (ks_wpAt_Expr_any ?_ (by unfold interactive; rw [hk]; rfl) (hsw2 _))
  obtain ⟨pl, he'⟩ := he env
  refine sup_expr (s := ⟨h', gg, d, tk', os⟩) supB_init ME₁ gle' (gle' _ _ hC) hx' ((X.opq g ok).keeps gle') (C_ne X ok gx) he' fun A s₂ E k2 os₂ gens₂ => ?_
  refine acc_init_body (s := s₂) (k2 _ _ (gle' _ _ hC)) (k2 _ _ hx') (by simp) ?_
  refine PySem.wpAt_of_wpAny (wpAny_execs_nil ?_)
  obtain ⟨n', hn'⟩ := acc_upd (s := s₂) (k2 _ _ hx') (fun _ => #[])
  have ku : ∀ b o, b ≠ x -> s₂.heap.get? b = some o -> (s₂.heap.update x (Obj.mapSeq fun _ => #[])).get? b = some o := fun b o hb e => le_upd b o hb e
  have dns : (s₂.heap.update x (Obj.mapSeq fun _ => #[])).Ns dx _ := Heap.Ns.of_get (ns'.keeps k2) fun o e => ku _ o hne e
  obtain ⟨od, _, _, hod, _⟩ := id dns
  have gleF : Le g (s₂.heap.update x (Obj.mapSeq fun _ => #[])) := fun b o e => ku b o (by rintro rfl; rw [gx] at e; cases e) (k2 _ _ (gle' _ _ e))
  refine K (addH g (s₂.heap.update x (Obj.mapSeq fun _ => #[])) (· = dx)) { s₂ with heap := s₂.heap.update x (Obj.mapSeq fun _ => #[]) } n' (le_addH gleF) (fun b o hb e => ?_) (fun a o had ha e => addH_none e had) addH_le os₂ (fun q => ?_) hn' ⟨od, t, addH_get.mpr ⟨.inr rfl, hod⟩, ?_⟩ (addH_none gx (Ne.symm hne))
  · exact ku b o (fun q => hb (.inl q)) (k2 _ _ (kp b o hb (keep _ _ e)))
  · rw [show ({ s₂ with heap := s₂.heap.update x (Obj.mapSeq fun _ => #[]) } : Shared).gens = s₂.gens from rfl, gens₂]; exact q
  · exact Heap.Ns.of_get dns fun o e => addH_get.mpr ⟨.inr rfl, e⟩
end
section
variable {prog : Program} {w : World} {A : Around} {E : Value -> Shared -> Prop} {s : Shared}
variable {nm q : Str} {C N x dx : Addr} {k0 k1 k2 k3 k5 : Option Value} {mN mA : Str -> Option Value} {name : Str} {v : Value} {vs : Array Value} {n : Nat}
theorem acc_pyIter {Q : Value -> Shared -> Prop} (hC : s.heap.get? C = some (clsO nm q C N k0 k1 k2 k3 k5)) (hn : s.heap.Ns N mN) (hf : mN "__iter__" = none) (hx : s.heap.get? x = some (accO C dx vs n))
    (hq : Q (.ref s.heap.objs.size) { s with heap := s.heap.push { cls := .type "list_iterator", data := .fields #[.ref x, .int 0 0] } }) : wpAny (model prog w) A (pyIter (.ref x)) Q E s := by
  have slot := PySem.F.slot_list_iter
  unfold pyIter
  refine wpAny_bind (acc_special hC hn slot.lookup hx ?_)
  rw [hf]
  refine wpAny_bind ?_
  have hcall : wpAny (model prog w) A (call (.builtin "list.__iter__") [.ref x]) (fun v s' => v = .ref s.heap.objs.size ∧ s' = { s with heap := s.heap.push { cls := .type "list_iterator", data := .fields #[.ref x, .int 0 0] } }) E s := by
    refine acc_call hC hx kind_liter (.inr rfl) split_liter slot.plain PySem.F.entry_list_iter (PySem.F.args_list_iter_1 _) ?_
    unfold Builtin.«list.__iter__»
    refine wpAny_bind (wpAny_of_eq (a := (.ref x, [])) rfl ?_)
    exact wpAny_bind (wpAny_newObj_type (wpAny_pure ⟨_, rfl, rfl, rfl⟩))
  refine wpAny_mono (Q := fun r s' => r = some (.ref s.heap.objs.size) ∧ s' = { s with heap := s.heap.push { cls := .type "list_iterator", data := .fields #[.ref x, .int 0 0] } }) (E := E) ?_ (fun r s' h => ?_) fun _ _ h => h
  · simp only [callSpecialIfBoundUnlessNone?, bindSpecialIfBound?]
    refine wpAny_holding (wpAny_bind (wpAny_bind (acc_special hC hn slot.lookup hx ?_)))
    rw [hf]
    simp only [slot.bind]
    refine wpAny_bind (wpAny_askSetting (wpAny_ite ?_))
    have fin : wpAny (model prog w) A (if (Value.builtin "list.__iter__" == Value.none) = true then ((do rule "iter.none"; raiseError "TypeError" s!"'{<- typeNameOf (.ref x)}' object is not iterable") >>= fun v => pure (some v)) else (call (.builtin "list.__iter__") [.ref x] >>= fun v => pure (some v)))
        (fun r s' => r = some (.ref s.heap.objs.size) ∧ s' = { s with heap := s.heap.push { cls := .type "list_iterator", data := .fields #[.ref x, .int 0 0] } }) E s := by
      rw [if_neg (by decide)]
      exact wpAny_bind (wpAny_mono hcall (fun v s' h' => wpAny_pure ⟨by rw [h'.1], h'.2⟩) fun _ _ h' => h')
    split
    · exact wpAny_bind (wpAny_pure (wpAny_pure fin))
    · exact wpAny_tryCatch (wpAny_bind (wpAny_pure (wpAny_pure fin)))
  · obtain ⟨rfl, rfl⟩ := h
    have hT : ({ s with heap := s.heap.push { cls := .type "list_iterator", data := .fields #[.ref x, .int 0 0] } } : Shared).TypeIs (.ref s.heap.objs.size) "list_iterator" := ⟨_, Heap.get?_push_size _ rfl, rfl⟩
    exact wpAny_bind (wpAny_specialOf hT slot_listiter_next.lookup (wpAny_pure hq))
theorem acc_next_item {it : Addr} {i : Nat} {y : Value} {Q : Option Value -> Shared -> Prop} (hit : s.heap.IsListIter it x i) (hx : s.heap.get? x = some (accO C dx vs n)) (hy : vs[i]? = some y)
    (hQ : ∀ h', h'.IsListIter it x (i + 1) -> Heap.SameBut it s.heap h' -> Q (some y) { s with heap := h' }) : wpAny (model prog w) A (pyNext (.ref it)) Q E s := by
  obtain ⟨o, ho, hc, hd⟩ := id hit
  have hdl : (accO C dx vs n).data = .seq vs n := rfl
  unfold pyNext
  refine wpAny_bind (wpAny_attempt (wpAny_callSpecial?_slot (name := Str.ofString "__next__") hit.typeIs slot_listiter_next
    (wpAny_call_entry slot_listiter_next hit.typeIs entry_listiter_next ?_ (args_listiter_next _))))
  show wpAny _ _ (field (.ref it) 0 >>= _) _ _ s
  refine wpAny_bind (wpAny_field ho hd (x := .ref x) rfl ?_)
  show wpAny _ _ (if (Value.ref x == Value.none) = true then _ else _) _ _ s
  rw [if_neg (show ¬ ((Value.ref x == Value.none) = true) from Bool.false_ne_true)]
  show wpAny _ _ (field (.ref it) 1 >>= _) _ _ s
  refine wpAny_bind (wpAny_field ho hd (x := .int i 0) rfl ?_)
  show wpAny _ _ (seqItems? (.ref x) >>= _) _ _ s
  refine wpAny_bind (wpAny_seqItems hx hdl ?_)
  simp only [Int.toNat_natCast, hy]
  refine wpAny_bind (wpAny_setField ho hd (by simp) (wpAny_pure ⟨y, rfl, wpAny_pure (hQ _ ?_ (Heap.SameBut.update ..))⟩))
  exact ⟨_, Heap.get?_update_self _ ho (Obj.isFreed_of_fields (Obj.data_mapFields hd _)), (Obj.cls_mapFields ..).trans hc, by
    rw [Obj.data_mapFields hd]; simp [rawInt]⟩
theorem acc_next_end {it : Addr} {i : Nat} {Q : Option Value -> Shared -> Prop} (hh : A.handled = none) (hit : s.heap.IsListIter it x i) (hx : s.heap.get? x = some (accO C dx vs n)) (hy : vs[i]? = none)
    (hQ : ∀ h', Heap.ExtBut it s.heap h' -> Q none { s with heap := h' }) : wpAny (model prog w) A (pyNext (.ref it)) Q E s := by
  obtain ⟨o, ho, hc, hd⟩ := id hit
  have hdl : (accO C dx vs n).data = .seq vs n := rfl
  unfold pyNext
  refine wpAny_bind (wpAny_attempt (wpAny_callSpecial?_slot (name := Str.ofString "__next__") hit.typeIs slot_listiter_next
    (wpAny_call_entry slot_listiter_next hit.typeIs entry_listiter_next ?_ (args_listiter_next _))))
  show wpAny _ _ (field (.ref it) 0 >>= _) _ _ s
  refine wpAny_bind (wpAny_field ho hd (x := .ref x) rfl ?_)
  show wpAny _ _ (if (Value.ref x == Value.none) = true then _ else _) _ _ s
  rw [if_neg (show ¬ ((Value.ref x == Value.none) = true) from Bool.false_ne_true)]
  show wpAny _ _ (field (.ref it) 1 >>= _) _ _ s
  refine wpAny_bind (wpAny_field ho hd (x := .int i 0) rfl ?_)
  show wpAny _ _ (seqItems? (.ref x) >>= _) _ _ s
  refine wpAny_bind (wpAny_seqItems hx hdl ?_)
  simp only [Int.toNat_natCast, hy]
  refine wpAny_bind (wpAny_rule (wpAny_bind (wpAny_setField ho hd (by simp) ?_)))
  show wpAny _ _ (newExc (.type "StopIteration") [] >>= _) _ _ _
  refine wpAny_bind ?_
  simp only [newExc, newTuple]
  refine wpAny_bind (wpAny_newObj_type ?_ (by size_fits))
  refine wpAny_bind (m := firstArgMember _ _) (wpAny_of_eq (a := Value.none) (by first | rfl | (simp only [firstArgMember]; rfl)) ?_)
  refine wpAny_newObj_type ?_ (by size_fits)
  simp only [raiseNew]
  refine wpAny_bind (wpAny_handled ?_)
  rw [show A.in1.handled = none from hh]
  refine wpAny_bind (wpAny_pure (wpAny_throw ?_))
  refine wpAny_bind (wpAny_isInstance (T := "StopIteration") (b := true) ⟨_, Heap.get?_push_size _ rfl, rfl⟩ isSubtype_stop ?_)
  exact wpAny_pure (hQ _ (((Heap.SameBut.update ..).extBut.push _).push _))
theorem walks_acc (hh : A.handled = none) (I : Addr) (hne : x ≠ I) (Ts : Nat -> Addr) (vals : Nat -> Array Value) (hit : ∀ j, j < vs.size -> vs[j]? = some (.ref (Ts j))) (hTI : ∀ j, j < vs.size -> Ts j ≠ I) :
    WalksU prog w A I (I :: x :: (List.range vs.size).map Ts) [I] vs.size (fun j v => j < vs.size ∧ v = vals j)
      (fun j h => h.IsListIter I x j ∧ h.get? x = some (accO C dx vs n) ∧ ∀ k, k < vs.size -> h.IsTuple (Ts k) (vals k))
      (fun j T h => (j < vs.size ∧ T = Ts j) ∧ h.IsListIter I x (j + 1) ∧ h.get? x = some (accO C dx vs n) ∧ ∀ k, k < vs.size -> h.IsTuple (Ts k) (vals k)) where
  sub := fun b hb => by simp at hb; simp [hb]
  frame := fun _ _ _ st hk => ⟨st.1.at fun o e => hk I (by simp) o e, hk x (by simp) _ st.2.1,
    fun k hk' => (st.2.2 k hk').at fun o e => hk (Ts k) (List.mem_cons_of_mem _ (List.mem_cons_of_mem _ (List.mem_map.mpr ⟨k, List.mem_range.mpr hk', rfl⟩))) o e⟩
  item := fun i s Q E hi st hQ => by
    refine acc_next_item st.1 st.2.1 (y := .ref (Ts i)) (hit i hi) fun h' hit' hs' => ?_
    have tup : ∀ k, k < vs.size -> h'.IsTuple (Ts k) (vals k) := fun k hk' => (st.2.2 k hk').extBut hs'.extBut (hTI k hk')
    exact hQ (Ts i) (vals i) h' s.toks ⟨hi, rfl⟩ (tup i hi) ⟨⟨hi, rfl⟩, hit', hs'.extBut x _ hne st.2.1, tup⟩ fun b o hb e => hs'.extBut b o (fun h => hb (by simp [h])) e
  go := fun _ _ _ _ _ s Q _ hm hQ => wpAny_letOwnedTupleGo_listiter hm.2.1 (hQ s.heap hm.2 fun _ _ _ e => e)
  apart := fun j T _ hm hmem => by
    rcases List.mem_cons.mp hmem with e | e
    · exact hTI j hm.1.1 (hm.1.2 ▸ e)
    · cases e
  done := fun s Q E st hQ => acc_next_end hh st.1 st.2.1 (by simp) fun h' he' => hQ h' s.toks fun b o hb e => he' b o (fun h => hb (by simp [h])) e
  self := fun _ _ _ _ st hQ => wpAny_pyIter_listiter st.1 hQ
end
structure TabOf (oc : Obj) (ws : Array Value) (P : Addr) : Prop where
  k : oc.cls = .type "code"
  p : ws.getD 11 .none = .ref P
  a : ∃ file tf, ws.getD 18 .none = .str file tf
  b : ∃ flags tg, ws.getD 7 .none = .int flags tg
  c : ∃ inF, ws.getD 9 .none = .bool inF
  d : ∃ text tt, ws.getD 10 .none = .int text tt
inductive MethGObj (g : Heap) (f : Addr) (F : FnDef) (P : Addr) : Prop
  | mk (o : Obj) (fd : FuncData) (cc : Addr) (oc : Obj) (ws : Array Value) (h1 : g.get? f = some o) (h2 : o.cls = .type "function") (h3 : o.data = .func fd) (h4 : fd.params = F.params) (h5 : fd.body = .stmts F.body) (h6 : fd.scope = F.scope) (h7 : fd.closure = [])
    (h8 : fd.globals = mainGlobals) (h9 : fd.builtins = builtinsNs) (h10 : fd.code = .ref cc) (h11 : g.CodeRec fd.code fd.qualname) (h12 : g.get? cc = some oc) (h13 : oc.data = .fields ws) (h14 : TabOf oc ws P) (h15 : cc ≠ P)
    (h16 : ∀ (vs : List Value) (s : Shared), vs.length = F.params.args.length -> BindsTo s fd ⟨vs, []⟩ ((F.params.args.map (·.arg)).zip vs))
structure MethG (W : Wd) (f : Addr) (F : FnDef) (P : Addr) : Prop where
  at_ : ∀ g, WOK W g -> MethGObj g f F P
  mt : ∀ W' : Unit, W.mt P
theorem tab_code {g h : Heap} {cc P : Addr} {oc : Obj} {ws : Array Value} (le : Le g h) (h1 : g.get? cc = some oc) (h2 : oc.data = .fields ws) (T : TabOf oc ws P) (hne : cc ≠ P) (t : Tab h P) : ∃ ps, h.IsCode cc P ps ∧ h.TableAt cc P ps := by
  obtain ⟨f, tf, a⟩ := T.a
  obtain ⟨fl, tg, b⟩ := T.b
  obtain ⟨i, c⟩ := T.c
  obtain ⟨te, tt, d⟩ := T.d
  obtain ⟨op, ps, e1, e2⟩ := t
  have p11 : ws[11]? = some (.ref P) := by
    have := T.p
    rw [Array.getD_eq_getD_getElem?] at this
    cases q : ws[11]? with
    | none => rw [q] at this; cases this
    | some v => rw [q] at this; exact congrArg some this
  exact ⟨ps.1, ⟨oc, ws, f, tf, fl, tg, i, te, tt, op, le _ _ h1, h2, T.p, a, b, c, d, e1, e2, ps.2.1, hne⟩, ⟨oc, ws, le _ _ h1, T.k, h2, p11⟩, by rw [e1]; exact congrArg some ps.2.2⟩
theorem code_tab {h : Heap} {cc P : Addr} {ps : Array Value} (x : h.IsCode cc P ps) (y : h.TableAt cc P ps) : Tab h P := by
  obtain ⟨o, vs, _, _, _, _, _, _, _, op, _, _, _, _, _, _, _, h1, h2, h3, _⟩ := x
  have e := y.2
  exact ⟨_, ⟨ps, h3, rfl⟩, e, rfl⟩
theorem genexprCode_T {M : Model} {A : Around} {E : Value -> Shared -> Prop} {s : Shared} {env : Env} {c P : Addr} {ps : Array Value} {pos : Pos} {qualname : Str} {scope : Scope} {Q : Value -> Shared -> Prop} (hc : env.code = .ref c) (hok : s.heap.IsCode c P ps) (ht : s.heap.TableAt c P ps)
    (hQ : ∀ code h' tk ps', Heap.ExtBut P s.heap h' -> h'.IsCode c P ps' -> h'.TableAt c P ps' -> Q code { s with heap := h', toks := tk }) : wpAny M A (genexprCode env pos qualname scope) Q E s := by
  cases q : codeAmong pos ps.toList with
  | none => exact wpAny_genexprCodeX hc hok ht q fun c' h' tk x _ _ y _ t _ => hQ _ h' tk _ x y t
  | some c' => exact wpAny_genexprCode_hit hc hok q (hQ _ s.heap s.toks _ (fun _ _ _ e => e) hok ht)
section
variable {W : Wd} {k : Nat} {mN : Str -> Option Value}
theorem meth_callG {f P : Addr} {F : FnDef} {ps : List Str} {g : Heap} {s : Shared} {A : Around} {vals : List Value} {Q : Value -> Shared -> Prop} {E : Value -> Shared -> Prop} (M : MethG W f F P) (hok : mOK F ps = true) (R : Room A (k + 1)) (ok : WOK W g) (le : Le g s.heap) (hlen : vals.length = ps.length)
    (h : ∀ env h₀ E', env.scope = F.scope -> env.locals = s.heap.objs.size -> env.globals = mainGlobals -> env.builtins = builtinsNs ->
      (∃ cc oc ws, env.code = .ref cc ∧ g.get? cc = some oc ∧ oc.data = .fields ws ∧ TabOf oc ws P ∧ cc ≠ P) ->
      h₀.Ns env.locals (fun y => (ps.zip vals).reverse.lookup y) -> Le s.heap h₀ -> Room (A.deeper env) k -> ∀ tk,
      wpAny W.M (A.deeper env) (execs F.body env) (fun fl s' => Q (match fl with | .ret v => v | _ => .none) s') E' { s with heap := h₀, toks := tk }) : wpAny W.M A (call (.ref f) vals) Q E s := by
  have X := mFacts hok
  obtain ⟨o, fd, cc, oc, ws, h1, h2, h3, h4, h5, h6, h7, h8, h9, h10, h11, h12, h13, h14, h15, h16⟩ := M.at_ g ok
  have hcr : s.heap.CodeRec fd.code fd.qualname := by obtain ⟨c, o', vs', t, a, b, c', d'⟩ := h11; exact ⟨c, o', vs', t, a, le _ _ b, c', d'⟩
  refine wpAny_call (ks_codeAny_call_defAt (fd := fd) (body := F.body) (binds := (F.params.args.map (·.arg)).zip vals) (by have := R.d; unfold recursionLimit; lia) (le _ _ h1) h3 (ok.nolimit.keeps le) hcr h5 (h16 vals s (by rw [<- X.args] at hlen; simpa using hlen))
    (by rw [h6]; exact X.cell) (fun y hy => by rw [h6]; exact X.loc y.1 (by rw [<- X.args]; exact (List.of_mem_zip hy).1)) (fun h₀ hns keep => ?_) (by rw [h6]; exact X.co) (by rw [h6]; exact X.gen) (by rw [h6]; exact X.kind))
  have e1 : (callEnv fd s.heap.objs.size f).scope = F.scope := h6
  rw [X.args] at hns
  exact ks_wpAt_mono (PySem.wpAt_of_wpAny (h (callEnv fd s.heap.objs.size f) h₀ _ e1 rfl h8 h9 ⟨cc, oc, ws, h10, h12, h13, h14, h15⟩ hns keep (R.deeper _) _)) (fun fl s' hq => hq) fun _ _ q => q
noncomputable def allP : Nat -> Bool := fun _ => true
theorem passing_all (n : Nat) : passing allP n 0 = List.range n := by
  unfold passing allP
  simp
noncomputable def GenIs (W : Wd) (A : Around) (a : Addr) (n : Nat) (F : Nat -> Value -> Prop) (s₀ s : Shared) : Prop :=
  ∃ fp wr gi St, WalksS W.prog W.w A.in4 a fp wr (GenOnlyQ gi) n (fun j y => ∃ i, (List.range n)[j]? = some i ∧ F i y) St ∧ St 0 s ∧ (∀ i s', St i s' -> s'.TypeIs (.ref a) "generator") ∧ a ∈ fp ∧ (∀ b ∈ fp, b < s.heap.objs.size) ∧ ∀ b ∈ wr, s₀.heap.get? b = none
theorem gen_make {P x dx : Addr} {vs : Array Value} {n : Nat} {g : Heap} {s : Shared} {A : Around} {env : Env} {elt : Expr} {np pa pb pt pos : Pos} {kt : Nat} {scope : Scope} {xa xb : Str} {Q : Value -> Shared -> Prop} {E : Value -> Shared -> Prop}
    (X : AccW W mN) (ok : WOK W g) (le : Le g s.heap) (R : Room A k) (hx : s.heap.get? x = some (accO W.C dx vs n)) (hbi : ∀ (s : Shared) (Q : Addr -> Shared -> Prop) (E : Value -> Shared -> Prop), Le g s.heap -> Q builtinsNs s -> wpAny W.M A (builtinsFor mainGlobals builtinsNs) Q E s)
    (hcode : ∃ cc oc ws, env.code = .ref cc ∧ g.get? cc = some oc ∧ oc.data = .fields ws ∧ TabOf oc ws P ∧ cc ≠ P) (hP : Tab s.heap P) (gP : g.get? P = none) (e3 : env.globals = mainGlobals) (e4 : env.builtins = builtinsNs)
    (hself : ∀ (Q : Value -> Shared -> Prop) (E : Value -> Shared -> Prop), Q (.ref x) s -> wpAny W.M A (eval (.Name "self" np) env) Q E s)
    (hco : scope.isCoroutine = false) (hfree : ∀ y ∈ scope.names, y.2 ≠ .free) (hcell : ∀ y ∈ scope.names, y.2 ≠ .cell) (h0 : scope.names.lookup (".0" : Str) = some NameKind.local) (hxa : scope.names.lookup xa = some .local) (hxb : scope.names.lookup xb = some .local) (hab : xa ≠ xb) (hkind : scope.kind = .function)
    (va vb : Nat -> Value) (htup : ∀ j, j < vs.size -> ∃ a m, vs[j]? = some (.ref a) ∧ g.get? a = some (tupO #[va j, vb j] m)) {F : Nat -> Value -> Prop}
    (helt : ∀ (A' : Around) (E' : Value -> Shared -> Prop) (C' : Addr) (code : Value) i (s₂ : Shared) m₂, A'.handled = none -> i < vs.size -> s₂.heap.Ns C' m₂ -> m₂ xa = some (va i) -> m₂ xb = some (vb i) -> Le g s₂.heap -> wpAny W.M A' (eval elt (genEnv scope [] C' code builtinsNs env)) (fun y s₃ => F i y ∧ Keeps s₂ s₃) E' s₂)
    (hQ : ∀ a s₅, (∀ b o, b ≠ P -> s.heap.get? b = some o -> s₅.heap.get? b = some o) -> Tab s₅.heap P -> s₅.os = s.os -> (AllBare s.gens -> AllBare s₅.gens) -> GenIs W A a vs.size F s s₅ -> Q (.ref a) s₅) :
    wpAny W.M A (eval (.GeneratorExp elt [⟨.Tuple [.Name xa pa, .Name xb pb] kt pt, .Name "self" np, [], 0⟩] scope pos) env) Q E s := by
  obtain ⟨cc, oc, ws, c1, c2, c3, c4, c5⟩ := hcode
  obtain ⟨nm, N, k0, k1, k2, k3, k5, hC, hN⟩ := X.cls g ok
  refine wpAny_GeneratorExp_walksQT R.h hco (closureFor_none hfree) hcell h0 hxa hxb hab hkind (by have := R.d; unfold recursionLimit; omega) ?_ (fun _ => rfl)
  refine hself _ _ ?_
  refine acc_pyIter (le _ _ hC) (hN.keeps le) X.iter hx ?_
  have s1 : Le s.heap (s.heap.push { cls := .type "list_iterator", data := .fields #[.ref x, .int 0 0] }) := le_push
  refine ⟨(ok.nolimit.keeps le).keeps s1, ?_⟩
  have hIP : s.heap.objs.size ≠ P := by
    rintro rfl
    obtain ⟨op, ps, e1, _⟩ := hP
    rw [size_none] at e1; cases e1
  have hxP : x ≠ P := by
    rintro rfl
    obtain ⟨op, ps, e1, e2⟩ := hP
    rw [hx] at e1; cases e1; cases e2
  have hxI : x ≠ s.heap.objs.size := by rintro rfl; rw [size_none] at hx; cases hx
  have hP₂ : Tab (s.heap.push { cls := .type "list_iterator", data := .fields #[.ref x, .int 0 0] }) P := by
    obtain ⟨op, ps, e1, e2⟩ := hP
    exact ⟨op, ps, s1 _ _ e1, e2⟩
  obtain ⟨ps, hps, htab⟩ := tab_code (le.trans s1) c2 c3 c4 c5 hP₂
  refine genexprCode_T c1 hps htab fun code h₃ tk₃ ps' hx₃ hcode₃ htab₃ => ?_
  replace hx₃ : Heap.ExtBut P (s.heap.push { cls := .type "list_iterator", data := .fields #[.ref x, .int 0 0] }) h₃ := hx₃
  have s3 : ∀ b o, b ≠ P -> s.heap.get? b = some o -> h₃.get? b = some o := fun b o hb e => hx₃ b o hb (s1 _ _ e)
  have gle₃ : Le g h₃ := fun b o e => s3 b o (by rintro rfl; rw [gP] at e; cases e) (le _ _ e)
  rw [e3, e4]
  refine hbi _ _ _ gle₃ ?_
  have hTs : ∀ j, j < vs.size -> ∃ a m, vs[j]? = some (.ref a) ∧ g.get? a = some (tupO #[va j, vb j] m) := htup
  let Ts : Nat -> Addr := fun j => match vs[j]? with | some (.ref a) => a | _ => 0
  have hit : ∀ j, j < vs.size -> vs[j]? = some (.ref (Ts j)) := fun j hj => by
    obtain ⟨a, m, q1, _⟩ := hTs j hj
    simp only [Ts, q1]
  have hgT : ∀ j, j < vs.size -> ∃ m, g.get? (Ts j) = some (tupO #[va j, vb j] m) := fun j hj => by
    obtain ⟨a, m, q1, q2⟩ := hTs j hj
    refine ⟨m, ?_⟩
    simp only [Ts, q1]; exact q2
  have hTI : ∀ j, j < vs.size -> Ts j ≠ s.heap.objs.size := fun j hj q => by
    obtain ⟨m, q2⟩ := hgT j hj
    have := le _ _ q2
    rw [q, size_none] at this; cases this
  have hI₃ : h₃.IsListIter s.heap.objs.size x 0 := ⟨_, hx₃ _ _ hIP (Heap.get?_push_size _ rfl), rfl, rfl⟩
  have hst : h₃.IsListIter s.heap.objs.size x 0 ∧ h₃.get? x = some (accO W.C dx vs n) ∧ ∀ k, k < vs.size -> h₃.IsTuple (Ts k) #[va k, vb k] :=
    ⟨hI₃, s3 x _ hxP hx, fun k hk => by obtain ⟨m, q⟩ := hgT k hk; exact ⟨_, gle₃ _ _ q, rfl, m, rfl⟩⟩
  have hlt : ∀ b ∈ (s.heap.objs.size :: x :: (List.range vs.size).map Ts), b < h₃.objs.size := fun b hb => by
    rcases List.mem_cons.mp hb with rfl | hb
    · obtain ⟨o, ho, _⟩ := hI₃; exact Heap.lt_size ho
    · rcases List.mem_cons.mp hb with rfl | hb
      · exact Heap.lt_size hst.2.1
      · obtain ⟨j, hj, rfl⟩ := List.mem_map.mp hb
        obtain ⟨m, q⟩ := hgT j (List.mem_range.mp hj)
        exact Heap.lt_size (gle₃ _ _ q)
  refine ⟨s.heap.objs.size, _, _, vs.size, _, _, _, allP, F, rfl, fun A' hh => walks_acc (prog := W.prog) (w := W.w) hh s.heap.objs.size hxI Ts (fun j => #[va j, vb j]) hit hTI, fun i vals hv => ⟨_, _, hv.2⟩, hst, hlt, ok.nolimit.keeps gle₃, ?_, fun href hhref => ⟨?_, ?_⟩, fun a h₅ tk gs hgb hag hsz₅ hk₅ Wk hat => ?_⟩
  · intro hm
    obtain ⟨_, hns, _⟩ := ok.nolimit
    obtain ⟨o, es, ep, ho, hd, _⟩ := hns
    have := le _ _ ho
    rw [List.mem_singleton.mp hm, size_none] at this; cases this
  · intro A' E' i va' vb' s₂ m₂ hh hv hns q1 q2 hk
    exact wpAny_pure ⟨rfl, s₂.heap, s₂.toks, rfl, fun _ _ e => e⟩
  · intro A' E' i va' vb' s₂ m₂ hh hv _ hns q1 q2 hk
    obtain ⟨hi, hv⟩ := hv
    have e1 : va' = va i := by have := congrArg (·[0]?) hv; simpa using this
    have e2 : vb' = vb i := by have := congrArg (·[1]?) hv; simpa using this
    subst e1 e2
    refine helt A' E' _ code i s₂ m₂ hh hi hns q1 q2 fun b o e => ?_
    have hb3 := gle₃ _ _ e
    refine hk b (List.mem_range.mpr (Heap.lt_size hb3)) (fun hm => ?_) o (hhref b o hb3)
    have := le _ _ e
    rw [List.mem_singleton.mp hm, size_none] at this; cases this
  · have t3 := code_tab hcode₃ htab₃
    rw [passing_all, List.length_range] at Wk
    refine hQ a { s with heap := h₅, toks := tk, gens := s.gens.push gs } (fun b o hb e => hk₅ b o (s3 b o hb e)) ?_ rfl (fun G => AllBare.push G hgb) ⟨_, _, _, _, Wk, hat, (fun i s' st => st.1.typeIs), List.mem_cons_self, ?_, ?_⟩
    · obtain ⟨op, ps, e1, e2⟩ := t3
      exact ⟨op, ps, hk₅ _ _ e1, e2⟩
    · intro b hb
      show b < h₅.objs.size
      rw [hsz₅]
      rcases List.mem_cons.mp hb with rfl | hb
      · exact Nat.lt_succ_self _
      · rcases List.mem_cons.mp hb with rfl | hb
        · exact Nat.lt_succ_of_lt hag
        · exact Nat.lt_succ_of_lt (Nat.lt_trans (List.mem_range.mp hb) hag)
    · intro b hb
      rcases List.mem_cons.mp hb with rfl | hb
      · cases e : s.heap.get? h₃.objs.size with
        | none => rfl
        | some o =>
          by_cases q : h₃.objs.size = P
          · obtain ⟨op, ps, e1, e2⟩ := t3
            rw [<- q, size_none] at e1; cases e1
          · have := s3 _ _ q e
            rw [size_none] at this; cases this
      · rw [List.mem_singleton.mp hb]; exact size_none
end
section
variable {prog : Program} {w : World} {A : Around} {E : Value -> Shared -> Prop} {h : Heap} {g : Array GenState} {d : Drawn} {t : Nat} {os : OsState}
variable {nm q : Str} {C N x dx : Addr} {k0 k1 k2 k3 k5 : Option Value} {mN mA : Str -> Option Value} {name : Str} {v : Value} {vs : Array Value} {n : Nat}
theorem kind_lga : builtinKind "list.__getattribute__" = some .slot := by decide +kernel
theorem split_lga : splitId "list.__getattribute__" = some ("list", "__getattribute__") := by decide +kernel
theorem acc_ga {tk : Tok} {Q : PySem.Fin -> Shared -> Prop} (hC : h.get? C = some (clsO nm q C N k0 k1 k2 k3 k5)) (hn : h.Ns N mN) (hna : mN name = none) (hB : typeLookup (.type "list") name = pure none)
    (hx : h.get? x = some (accO C dx vs n)) (hd : h.Ns dx mA) (hv : mA name = some v) (hq : Q (.done (.ret v)) ⟨h, g, d, t, os⟩) :
    wpAny (model prog w) A (Builtin.«object.__getattribute__» ⟨[.ref x, .str name tk], []⟩) Q E ⟨h, g, d, t, os⟩ := by
  have hc : (accO C dx vs n).cls = .ref C := rfl
  unfold Builtin.«object.__getattribute__»
  repeat (first | (with_reducible refine wpAny_nsGet hd ?_; rw [hv]) | (with_reducible refine wpAny_loadPart_at hx ?_; rw [hc]) | (with_reducible refine wpAny_typeLookup_exc hC hn F.mro_list hB ?_; rw [hna]) | wp_step)
  exact hq
theorem acc_load_attr {expr : Bool} {Q : Value -> Shared -> Prop} (hC : h.get? C = some (clsO nm q C N k0 k1 k2 k3 k5)) (hn : h.Ns N mN) (hng : mN "__getattribute__" = none) (hnh : mN "__getattr__" = none) (hna : mN name = none) (hB : typeLookup (.type "list") name = pure none)
    (hx : h.get? x = some (accO C dx vs n)) (hd : h.Ns dx mA) (hv : mA name = some v) (hh : handedOut v = pure v) (hq : Q v ⟨h, g, d, t + 1, os⟩) : wpAny (model prog w) A (getAttr (.ref x) name expr) Q E ⟨h, g, d, t, os⟩ := by
  have hc : (accO C dx vs n).cls = .ref C := rfl
  have slot := PySem.F.slot_list_getattribute
  unfold getAttr getAttrBy
  repeat (first | (with_reducible refine wpAny_loadPart_at hx ?_; rw [hc]) | (with_reducible refine wpAny_typeLookup_exc hC hn F.mro_list lk_list_ga ?_; rw [hng]) | (with_reducible refine wpAny_typeLookup_exc hC hn F.mro_list lk_list_getattr ?_; rw [hnh]) | wp_step)
  rw [if_neg (by rw [show onTheHeap (Value.builtin "list.__getattribute__") = false from rfl]; simp)]
  unfold boundAndCalled
  refine wpAny_bind (wpAny_of_eq (slot.bind _) ?_)
  refine acc_call (s := ⟨h, g, d, t + 1, os⟩) hC hx kind_lga (.inr rfl) split_lga slot.plain PySem.am_entry_list_getattribute (PySem.F.args_list_getattribute_2 _ _) (acc_ga hC hn hna hB hx hd hv ⟨v, rfl, ?_⟩)
  show wpAny _ _ (handedOut v) _ _ _
  rw [hh]
  exact wpAny_pure hq
end
section
variable {prog : Program} {w : World} {A : Around} {E : Value -> Shared -> Prop} {R : Result -> Shared -> Prop} {I : Addr} {fp wr : List Addr} {G : Array GenState -> Array GenState -> Prop} {n : Nat} {P : Nat -> Value -> Prop} {St : Nat -> Shared -> Prop}
theorem sum_loop_start (W : WalksS prog w A.in1 I fp wr G n P St) (val : Nat -> Int) (hval : ∀ i v, P i v -> ∃ t, v = .int (val i) t) (z : Int) (hfit : ∀ j, j < n -> InLong (val j) ∧ InLong (z + preSum val (j + 1))) (S : Addr) (hSf : S ∉ fp) :
    ∀ (k i : Nat) (s : Shared) (tA : Tok) (c : Nat), n - i = k -> i ≤ n -> St i s -> s.heap.get? S = some { cls := .type "list", dict := none, data := .seq #[.int (z + preSum val i) tA] c, slots := #[] } ->
    (∀ s' t', Moved (S :: wr) G s s' -> R (.ok (.ret (.int (z + preSum val n) t'))) s') -> codeAny (model prog w) A (.builtin "sum.loop" ⟨[.ref I, .ref S, rawInt 0, rawInt 0], []⟩) R s := by
  have hSw : S ∉ wr := fun h => hSf (W.sub _ h)
  have hsub : ∀ b ∈ wr, b ∈ S :: wr := fun b hb => List.mem_cons_of_mem _ hb
  intro k
  induction k with
  | zero =>
    intro i s tA c hk hi hst hS hR
    have hin : i = n := by grind
    subst hin
    refine codeAny_builtin F.entry_sum_loop ?_
    rw [Around.under_plainId F.plain_sum_loop _]
    show wpAny _ A.in1 (seqItems? (.ref S) >>= _) _ _ s
    refine wpAny_bind (wpAny_seqItems hS rfl ?_)
    show wpAny _ A.in1 (tryCatch (pyNext (.ref I)) _ >>= _) _ _ s
    refine wpAny_bind (wpAny_tryCatch (W.done s _ _ hst fun s' hm => ?_))
    exact wpAny_pure (hR s' tA (hm.mono hsub))
  | succ k ih =>
    intro i s tA c hk hi hst hS hR
    have hlt : i < n := by omega
    refine codeAny_builtin F.entry_sum_loop ?_
    rw [Around.under_plainId F.plain_sum_loop _]
    show wpAny _ A.in1 (seqItems? (.ref S) >>= _) _ _ s
    refine wpAny_bind (wpAny_seqItems hS rfl ?_)
    show wpAny _ A.in1 (tryCatch (pyNext (.ref I)) _ >>= _) _ _ s
    refine wpAny_bind (wpAny_tryCatch (W.item i s _ _ hlt hst fun v s' hP hst' hm => ?_))
    obtain ⟨t, rfl⟩ := hval i v hP
    have hS' := hm.heap S _ hSw hS
    obtain ⟨⟨f1, f2⟩, f3, f4⟩ := hfit i hlt
    have ep : z + preSum val (i + 1) = z + preSum val i + val i := by simp only [preSum]; lia
    rw [ep] at f3 f4
    have hc : ((decide (-(2 ^ 63) ≤ val i) && decide (val i < 2 ^ 63)) && (decide (-(2 ^ 63) ≤ z + preSum val i + val i) && decide (z + preSum val i + val i < 2 ^ 63))) = true := by
      simp only [Bool.and_eq_true, decide_eq_true_eq]
      exact ⟨⟨f1, f2⟩, f3, f4⟩
    show wpAny _ A.in1 (if (_ : Bool) = true then (mkInt (z + preSum val i + val i) >>= _) else _) _ _ _
    split
    · refine wpAny_bind (wpAny_mkInt ?_)
      show wpAny _ A.in1 (updateSeq S (fun _ => #[.int (z + preSum val i + val i) s'.toks]) >>= _) _ _ _
      refine wpAny_bind ?_
      refine wpAny_updateSeq hS' rfl (wpAny_pure ⟨plainId_quiet F.plain_sum_loop _, ih (i + 1) _ s'.toks _ (by omega) hlt (W.frame _ s' _ _ hst' (by first | exact Nat.le_refl _ | exact Nat.le_succ _ | omega) fun b hb o e => ?_) (by rw [ep]; exact Heap.get?_update_self _ hS' rfl) fun s'' t'' hm'' => ?_⟩)
      · exact (Heap.get?_update_other _ _ (fun h : S = b => hSf (by rw [h]; exact hb))).trans e
      · refine hR s'' t'' (Moved.trans W.gtrans ((hm.mono hsub).then_heap (by first | exact Nat.le_refl _ | exact Nat.le_succ _ | omega) fun b o hb e => ?_) hm'')
        exact (Heap.get?_update_other _ _ (fun h : S = b => hb (by rw [h]; exact List.mem_cons_self))).trans e
    · rename_i hneg
      exact absurd hc hneg
theorem args_sum_2 (a b : Value) : argsOk "sum" ⟨[a, b], []⟩ := by unfold argsOk; kernel_rfl
theorem call_sum_start {s : Shared} {z : Int} {tz : Tok} {Q : Value -> Shared -> Prop} (W : WalksS prog w A.in1 I fp wr G n P St) (hst : St 0 s) (hT : s.TypeIs (.ref I) "generator") (hself : ∀ (Q : Value -> Shared -> Prop) (E : Value -> Shared -> Prop), Q (.ref I) s -> wpAny (model prog w) A.in1 (pyIter (.ref I)) Q E s) (hfp : ∀ b ∈ fp, b < s.heap.objs.size)
    (val : Nat -> Int) (hval : ∀ i v, P i v -> ∃ t, v = .int (val i) t) (hz : InLong z) (hfit : ∀ j, j < n -> InLong (val j) ∧ InLong (z + preSum val (j + 1)))
    (hQ : ∀ s' t', Moved wr G s s' -> Q (.int (z + preSum val n) t') s') : wpAny (model prog w) A (call (.builtin "sum") [.ref I, .int z tz]) Q E s := by
  refine call_function_tree F.kind_sum F.plain_sum F.entry_sum (args_sum_2 _ _) ?_
  unfold Builtin.«sum»
  simp only [List.length_cons, List.length_nil]
  rw [if_neg (by decide)]
  refine wpAny_bind (wpAny_of_eq (show Builtin.Builtins.bindParams "sum" ["start"] 0 ⟨[.int z tz], []⟩ = pure [some (.int z tz)] from rfl) ?_)
  refine wpAny_bind (hself _ _ ?_)
  have hf : (decide (-(2 ^ 63) ≤ z) && decide (z < 2 ^ 63)) = true := by
    obtain ⟨a, b⟩ := hz
    simp only [Bool.and_eq_true, decide_eq_true_eq]
    exact ⟨a, b⟩
  dsimp only
  split
  rotate_left
  · rename_i hneg
    exact absurd hf hneg
  refine wpAny_bind (wpAny_rule (wpAny_bind (wpAny_mkInt (wpAny_bind (wpAny_pure ?_)))))
  simp only [List.forIn_cons, List.forIn_nil]
  refine wpAny_bind (wpAny_bind (wpAny_bind (wpAny_isInstance (T := "int") (b := false) (typeIs_int _ _ _) PySem.sub_int_str ?_)))
  simp only [Bool.false_eq_true, if_false]
  refine wpAny_pure (wpAny_bind (wpAny_bind (wpAny_isInstance (T := "int") (b := false) (typeIs_int _ _ _) PySem.sub_int_bytes ?_)))
  simp only [Bool.false_eq_true, if_false]
  refine wpAny_pure (wpAny_bind (wpAny_bind (wpAny_isInstance (T := "int") (b := false) (typeIs_int _ _ _) PySem.sub_int_bytearray ?_)))
  simp only [Bool.false_eq_true, if_false]
  refine wpAny_pure (wpAny_pure ?_)
  refine wpAny_bind (wpAny_newObj_type ?_)
  have hSf : s.heap.objs.size ∉ fp := fun hm => Nat.lt_irrefl _ (hfp _ hm)
  refine wpAny_pure ⟨plainId_quiet F.plain_sum_loop _, sum_loop_start W val hval z hfit s.heap.objs.size hSf n 0 _ s.toks 0 rfl (Nat.zero_le _)
    (W.frame 0 s _ _ hst (by first | exact Nat.le_refl _ | exact Nat.le_succ _ | omega) fun b _ o e => Heap.get?_push_of_some _ e) (by rw [show z + preSum val 0 = z from by simp [preSum]]; exact Heap.get?_push_size _ rfl) fun s' t' hm => ?_⟩
  exact hQ s' t' (hm.drop_new (by first | exact Nat.le_refl _ | exact Nat.le_succ _ | omega))
end
noncomputable def pairD : PyData -> Option (Str × Str)
  | .tuple [.str a, .str b] => some (a, b)
  | _ => none
theorem pairD_some {d : PyData} {p : Str × Str} (h : pairD d = some p) : d = .tuple [.str p.1, .str p.2] := by
  unfold pairD at h
  split at h
  · cases h; rfl
  · cases h
theorem mapM_pairD : ∀ {l : List PyData} {ps : List (Str × Str)}, l.mapM pairD = some ps -> l = ps.map fun p => .tuple [.str p.1, .str p.2]
  | [], ps, h => by simp at h; subst h; rfl
  | d :: l, ps, h => by
    rw [List.mapM_cons] at h
    cases q : pairD d with
    | none => rw [q] at h; cases h
    | some p =>
      rw [q] at h
      cases q' : l.mapM pairD with
      | none => simp [q'] at h
      | some ps' =>
        simp [q'] at h
        subst h
        rw [List.map_cons, <- mapM_pairD q', pairD_some q]
theorem pairs_rd {g : Heap} {vs : Array Value} {ps : List (Str × Str)} (h : RDs g vs.toList (ps.map fun p => .tuple [.str p.1, .str p.2])) :
    vs.size = ps.length ∧ ∃ va vb : Nat -> Value, ∀ j, j < vs.size -> (∃ a m, vs[j]? = some (.ref a) ∧ g.get? a = some (tupO #[va j, vb j] m)) ∧ (∃ t, va j = .str (ps.getD j default).1 t) ∧ ∃ t, vb j = .str (ps.getD j default).2 t := by
  have hl := h.len
  simp only [Array.length_toList, List.length_map] at hl
  refine ⟨hl, ?_⟩
  have key : ∀ j, ∃ v : Value × Value, j < vs.size -> (∃ a m, vs[j]? = some (.ref a) ∧ g.get? a = some (tupO #[v.1, v.2] m)) ∧ (∃ t, v.1 = .str (ps.getD j default).1 t) ∧ ∃ t, v.2 = .str (ps.getD j default).2 t := by
    intro j
    by_cases hj : j < vs.size
    · have hp : (ps.map fun p => PyData.tuple [.str p.1, .str p.2])[j]? = some (.tuple [.str (ps.getD j default).1, .str (ps.getD j default).2]) := by
        have : j < ps.length := by lia
        simp [List.getD, this]
      obtain ⟨v, hv, rv⟩ := h.get hp
      obtain ⟨a, ws, n, rfl, ha, rw_⟩ := rv.of_tuple
      obtain ⟨u1, u2, hu, r1, r2⟩ := rw_.two
      obtain ⟨t1, rfl⟩ := r1.of_str
      obtain ⟨t2, rfl⟩ := r2.of_str
      have hws : ws = #[.str (ps.getD j default).1 t1, .str (ps.getD j default).2 t2] := by
        rw [<- Array.toList_inj]; exact hu
      subst hws
      refine ⟨(_, _), fun _ => ⟨⟨a, n, by simpa using hv, ha⟩, ⟨t1, rfl⟩, t2, rfl⟩⟩
    · exact ⟨(.none, .none), fun h => absurd h hj⟩
  refine ⟨fun j => (Classical.choose (key j)).1, fun j => (Classical.choose (key j)).2, fun j hj => Classical.choose_spec (key j) hj⟩
section
variable {W : Wd} {k : Nat} {mN : Str -> Option Value}
theorem load_glob {g : Heap} {env : Env} {x : Str} {pos : Pos} {v : Value} {A : Around} {s : Shared} {Q : Value -> Shared -> Prop} {E : Value -> Shared -> Prop} (ok : WOK W g) (le : Le g s.heap) (hv : (x, v) ∈ W.globs) (hk : env.scope.kind = .function) (hg : env.kindOf x = some .globalImplicit) (e3 : env.globals = mainGlobals) (e4 : env.builtins = builtinsNs) (hd : (x == ("__debug__" : Str)) = false) (h : Q v s) : wpAny W.M A (eval (.Name x pos) env) Q E s := by
  obtain ⟨mg, mb, h1, h2, h3⟩ := ok.gl
  refine Name_function_global hk hg ?_ hd
  rcases h3 _ hv with q | ⟨q, r⟩
  · exact loadGlobal_global (by rw [e3]; exact h1.keeps le) q h
  · exact loadGlobal_builtin (by rw [e3]; exact h1.keeps le) q (by rw [e4]; exact h2.keeps le) r h
noncomputable def lensum (ps : List (Str × Str)) : Int := preSum (fun j => ((ps.getD j default).1.length : Int) + ((ps.getD j default).2.length : Int)) ps.length
noncomputable def lenO (first : Int) (l : List PyData) : Option PyData := do
  let ps <- l.mapM pairD
  if -1000000 ≤ first ∧ first ≤ 1000000 ∧ ps.length ≤ 1000 ∧ ∀ p ∈ ps, p.1.length ≤ 1000000 ∧ p.2.length ≤ 1000000 then some (.int (first + lensum ps)) else none
noncomputable def AOpT (W : Wd) (k : Nat) (f P : Addr) (o : Int -> List PyData -> Option PyData) : Prop :=
  ∀ first l d, o first l = some d -> ∀ (A : Around) g s x dx vs n (Q : Value -> Shared -> Prop) (E : Value -> Shared -> Prop), Room A k -> WOK W g -> Le g s.heap -> s.heap.get? x = some (accO W.C dx vs n) -> AccDict g dx first -> RDs g vs.toList l -> g.get? x = none -> g.get? P = none -> Tab s.heap P ->
    (∀ v s', IStep (· = P) g s g s' -> Tab s'.heap P -> s'.heap.get? x = some (accO W.C dx vs n) -> RD g v d -> Q v s') -> wpAny W.M A (call (.ref f) [.ref x]) Q E s
theorem preSum_bound {val : Nat -> Int} {b : Int} (hb : 0 ≤ b) : ∀ n, (∀ j, j < n -> 0 ≤ val j ∧ val j ≤ b) -> 0 ≤ preSum val n ∧ preSum val n ≤ n * b := by
  intro n
  induction n with
  | zero => intro _; simp [preSum]
  | succ n ih =>
    intro h
    have a := ih fun j hj => h j (by lia)
    have c := h n (by lia)
    simp only [preSum]
    refine ⟨by omega, ?_⟩
    have : ((n + 1 : Nat) : Int) * b = n * b + b := by rw [Int.natCast_add, Int.add_mul]; simp
    omega
end
section
variable {W : Wd} {k : Nat} {mN : Str -> Option Value}
structure GenOK (scope : Scope) (xa xb : Str) : Prop where
  co : scope.isCoroutine = false
  nf : ∀ y ∈ scope.names, y.2 ≠ .free
  nc : ∀ y ∈ scope.names, y.2 ≠ .cell
  d0 : scope.names.lookup (".0" : Str) = some NameKind.local
  la : scope.names.lookup xa = some .local
  lb : scope.names.lookup xb = some .local
  ab : xa ≠ xb
  fn : scope.kind = .function
theorem op_len {f P : Addr} {F : FnDef} {np0 np gp ap ap2 cp rp l1 l2 n1 n2 c1 c2 bp pa pb pt : Pos} {kt : Nat} {scope : Scope} (X : AccW W mN) (M : MethG W f F P) (hok : mOK F ["self"] = true)
    (hbody : F.body = [.Return (some (.Call (.Name "sum" np0) [.GeneratorExp (.BinOp (.Call (.Name "len" l1) [.Name "fws" n1] [] c1) .Add (.Call (.Name "len" l2) [.Name "part" n2] [] c2) bp) [⟨.Tuple [.Name "fws" pa, .Name "part" pb] kt pt, .Name "self" np, [], 0⟩] scope gp, .Attribute (.Name "self" ap) "_initial_size" ap2] [] cp)) rp])
    (hF : F.scope.names.lookup ("sum" : Str) = some .globalImplicit) (hlen : scope.names.lookup ("len" : Str) = some .globalImplicit) (GO : GenOK scope "fws" "part")
    (g1 : (("sum" : Str), Value.builtin "sum") ∈ W.globs) (g2 : (("len" : Str), Value.builtin "len") ∈ W.globs) (hsz : mN "_initial_size" = none)
    (hbi : ∀ A (s : Shared) (Q : Addr -> Shared -> Prop) (E : Value -> Shared -> Prop) g, WOK W g -> Le g s.heap -> Q builtinsNs s -> wpAny W.M A (builtinsFor mainGlobals builtinsNs) Q E s) : AOpT W (k + 1) f P lenO := by
  intro first l d h A g s x dx vs n Q E R ok le hx had hrd gx gP hP K
  unfold lenO at h
  cases hps : l.mapM pairD with
  | none => simp [hps] at h
  | some ps =>
  simp only [hps, Option.bind_eq_bind, Option.bind_some, Option.ite_none_right_eq_some] at h
  obtain ⟨⟨hf1, hf2, hn, hb⟩, h⟩ := h
  cases h
  rw [mapM_pairD hps] at hrd
  obtain ⟨hsz', va, vb, hv⟩ := pairs_rd hrd
  refine meth_callG M hok R ok le rfl fun env h₀ E' e1 e2 e3 e4 hcode hn₀ keep R' tk => ?_
  have hk := sk_of e1 hok
  have gle : Le g h₀ := le.trans keep
  have hP₀ : Tab h₀ P := by obtain ⟨op, ws, q1, q2⟩ := hP; exact ⟨op, ws, keep _ _ q1, q2⟩
  rw [hbody]
  refine PySem.wpAny_execs_cons (PySem.wpAny_Return_some ?_)
  refine wpAny_Call_NameR ?_
  refine load_glob (s := { s with heap := h₀, toks := tk }) ok gle g1 hk (by unfold Env.kindOf; rw [e1]; exact hF) e3 e4 (by decide) ?_
  refine PyProof.Rows.callWith_builtin1 ?_
  obtain ⟨nm, N, k0, k1, k2, k3, k5, hC, hN⟩ := X.cls g ok
  have hPx : P < s.heap.objs.size := by obtain ⟨op, ws, q1, q2⟩ := hP; exact Heap.lt_size q1
  have hxP : x ≠ P := by
    rintro rfl
    obtain ⟨op, ps, e1, e2⟩ := hP
    rw [hx] at e1; cases e1; cases e2
  let val : Nat -> Int := fun j => ((ps.getD j default).1.length : Int) + ((ps.getD j default).2.length : Int)
  refine spliced_more ?_
  refine gen_make (s := { s with heap := h₀, toks := tk }) (F := fun i y => i < vs.size ∧ ∃ t, y = .int (val i) t) X ok gle R' (keep _ _ hx) (fun s Q E q r => hbi _ s Q E g ok q r) hcode hP₀ gP e3 e4 (fun Q E hq => wpAny_Name (wpAny_loadName_local hk (kind_of e1 hok (.head _)) hn₀ (v := .ref x) (by rfl) hq) (by decide)) GO.co GO.nf GO.nc GO.d0 GO.la GO.lb GO.ab GO.fn va vb (fun j hj => (hv j hj).1) (fun A' E' C' code i s₂ m₂ hh hi hns q1 q2 gl₂ => ?_) (fun a s₅ kp₅ tab₅ os₅ gens₅ gi => ?_)
  · obtain ⟨_, ⟨ta, hva⟩, tb, hvb⟩ := hv i hi
    rw [hva] at q1; rw [hvb] at q2
    obtain ⟨z1, z2⟩ := hb (ps.getD i default) (by
      have : i < ps.length := by lia
      simp [List.getD, this])
    refine wpAny_BinOp (wpAny_Call_NameR ?_)
    refine load_glob ok gl₂ g2 GO.fn hlen e3 rfl (by decide) ?_
    refine PyProof.Rows.callWith_builtin1 (spliced_more (wpAny_Name (wpAny_loadName_local GO.fn GO.la hns q1 (spliced_none ?_)) (by decide)))
    refine PyProof.Rows.len_str (by lia) (wpAny_Call_NameR ?_)
    refine load_glob ok gl₂ g2 GO.fn hlen e3 rfl (by decide) ?_
    refine PyProof.Rows.callWith_builtin1 (spliced_more (wpAny_Name (wpAny_loadName_local GO.fn GO.lb hns q2 (spliced_none ?_)) (by decide)))
    refine PyProof.Rows.len_str (by omega) (wpAny_add_int ⟨⟨hi, _, rfl⟩, s₂.heap, _, rfl, fun _ _ e => e⟩)
  · obtain ⟨h5, gg5, d5, t5, o5⟩ := s₅
    have gle5 : Le g h5 := fun b o e => kp₅ b o (by rintro rfl; rw [gP] at e; cases e) (gle _ _ e)
    have hn5 : h5.Ns env.locals (fun y => ((["self"] : List Str).zip [Value.ref x]).reverse.lookup y) := Heap.Ns.of_get hn₀ fun o e => kp₅ _ o (by rw [e2]; exact Nat.ne_of_gt hPx) e
    have hx5 : h5.get? x = some (accO W.C dx vs n) := kp₅ _ _ hxP (keep _ _ hx)
    obtain ⟨od, ti, hod, hdn⟩ := had
    refine spliced_more (Attribute_name (wpAny_Name (wpAny_loadName_local hk (kind_of e1 hok (.head _)) hn5 (v := .ref x) (by rfl) ?_) (by decide)))
    refine acc_load_attr (gle5 _ _ hC) (hN.keeps gle5) X.ga X.gattr hsz lk_list_size hx5 (hdn.keeps gle5) (by rfl) (by rfl) (spliced_none ?_)
    obtain ⟨fp, wr, gn, St, Wk, hst, hTI, ha, hfp, hwr⟩ := gi
    have hst' := Wk.frame 0 _ h5 (t5 + 1) hst (Nat.le_succ _) fun b _ o e => e
    refine call_sum_start (z := first) Wk.in4_1 hst' (hTI _ _ hst') (fun Q E hq => Wk.in4_1.self 0 _ Q E hst' hq) hfp val (fun i v hv => ?_) ?_ (fun j hj => ?_) (fun s' t' hm => ?_)
    · obtain ⟨i', hi', _, t, rfl⟩ := hv
      rw [List.getElem?_eq_some_iff] at hi'
      obtain ⟨_, hi'⟩ := hi'
      rw [List.getElem_range] at hi'
      subst hi'
      exact ⟨t, rfl⟩
    · unfold InLong; omega
    · have hval : ∀ j, j < vs.size -> 0 ≤ val j ∧ val j ≤ 2000000 := fun j hj => by
        obtain ⟨z1, z2⟩ := hb (ps.getD j default) (by
          have : j < ps.length := by omega
          simp [List.getD, this])
        simp only [val]; omega
      have q1 := preSum_bound (val := val) (b := 2000000) (by omega) (j + 1) fun i hi => hval i (by omega)
      have q2 := hval j hj
      unfold InLong; omega
    · have kp' : ∀ b o, b ≠ P -> s.heap.get? b = some o -> s'.heap.get? b = some o := fun b o hb' e => hm.heap b o (fun hw => by have q := hwr b hw; rw [show Shared.heap { s with heap := h₀, toks := tk } = h₀ from rfl, keep _ _ e] at q; cases q) (kp₅ b o hb' (keep _ _ e))
      refine K _ s' ⟨Le.refl, fun b o hb' e => ?_, fun _ _ _ e => e, fun a ha' e => ?_, ?_, hm.os.trans os₅, fun q => AllBare.movedS (s := ⟨h5, gg5, d5, t5 + 1, o5⟩) (gens₅ q) hm⟩ ?_ ?_ ?_
      · exact kp' b o hb' e
      · cases q : s.heap.get? a with
        | none => rfl
        | some o => rw [kp' a o ha' q] at e; cases e
      · exact fun b o e => kp' b o (by rintro rfl; rw [gP] at e; cases e) (le _ _ e)
      · obtain ⟨op, ws, q1, q2⟩ := tab₅
        refine ⟨op, ws, hm.heap P op (fun hw => ?_) q1, q2⟩
        have q := hwr P hw
        obtain ⟨op', ws', q1', _⟩ := hP₀
        rw [show Shared.heap { s with heap := h₀, toks := tk } = h₀ from rfl, q1'] at q
        cases q
      · exact kp' x _ hxP hx
      · rw [hsz']
        exact .int ..
end
section
variable {W : Wd} {k : Nat} {mN : Str -> Option Value}
noncomputable def strO (_ : Int) (l : List PyData) : Option PyData := do
  let ps <- l.mapM pairD
  if ps.length ≤ 1000 ∧ ∀ p ∈ ps, p.1.length ≤ 1000 ∧ p.2.length ≤ 1000 then some (.str (Txt.join "" (ps.map fun p => Txt.join "" [p.1, p.2]))) else none
theorem join2_len (a b : Str) : (Txt.join "" [a, b]).length = a.length + b.length := by
  rw [join_nil rfl]
  simp [Str.length]
theorem sum_le {α : Type} {f : α -> Nat} {b : Nat} : ∀ {l : List α}, (∀ x ∈ l, f x ≤ b) -> (l.map f).sum ≤ l.length * b
  | [], _ => by simp
  | a :: l, h => by
    have := sum_le (l := l) fun x hx => h x (.tail _ hx)
    have := h a (.head _)
    simp only [List.map_cons, List.sum_cons, List.length_cons]
    rw [Nat.succ_mul]; omega
theorem items_texts {P : Nat -> Value -> Prop} {n : Nat} {l : List (Str × Tok)} {tx : Nat -> Str} (h : ItemsOf P (strValues l).toArray n) (hP : ∀ j v, P j v -> ∃ t, v = .str (tx j) t) : l.map (·.1) = (List.range n).map tx := by
  obtain ⟨h1, h2⟩ := h
  have hl : l.length = n := by simpa [strValues] using h1
  apply List.ext_getElem?
  intro j
  by_cases hj : j < l.length
  · have := h2 j (.str (l[j]).1 (l[j]).2) (by simp [strValues, hj])
    obtain ⟨t, q⟩ := hP _ _ this
    simp only [Value.str.injEq] at q
    have hj' : j < n := by lia
    simp [hj, hj', q.1]
  · have hj' : ¬ j < n := by lia
    simp [hj, hj']
theorem op_str {f P : Addr} {F : FnDef} {np gp rp n1 n2 pa pb pt e1p e2p a1 a2 c1 c2 tp : Pos} {kt kt2 : Nat} {scope : Scope} (X : AccW W mN) (M : MethG W f F P) (hok : mOK F ["self"] = true)
    (hbody : F.body = [.Return (some (.Call (.Attribute (.Name "EMPTYSTRING" e1p) "join" a1) [.GeneratorExp (.Call (.Attribute (.Name "EMPTYSTRING" e2p) "join" a2) [.Tuple [.Name "fws" n1, .Name "part" n2] kt2 tp] [] c2) [⟨.Tuple [.Name "fws" pa, .Name "part" pb] kt pt, .Name "self" np, [], 0⟩] scope gp] [] c1)) rp])
    (hl1 : (a1.endLine == c1.line) = true) (hl2 : (a2.endLine == c2.line) = true)
    (hF : F.scope.names.lookup ("EMPTYSTRING" : Str) = some .globalImplicit) (hlen : scope.names.lookup ("EMPTYSTRING" : Str) = some .globalImplicit) (GO : GenOK scope "fws" "part")
    {tE : Tok} (g1 : (("EMPTYSTRING" : Str), Value.str "" tE) ∈ W.globs)
    (hbi : ∀ A (s : Shared) (Q : Addr -> Shared -> Prop) (E : Value -> Shared -> Prop) g, WOK W g -> Le g s.heap -> Q builtinsNs s -> wpAny W.M A (builtinsFor mainGlobals builtinsNs) Q E s) : AOpT W (k + 1) f P strO := by
  intro first l d h A g s x dx vs n Q E R ok le hx had hrd gx gP hP K
  unfold strO at h
  cases hps : l.mapM pairD with
  | none => simp [hps] at h
  | some ps =>
  simp only [hps, Option.bind_eq_bind, Option.bind_some, Option.ite_none_right_eq_some] at h
  obtain ⟨⟨hn, hb⟩, h⟩ := h
  cases h
  rw [mapM_pairD hps] at hrd
  obtain ⟨hsz', va, vb, hv⟩ := pairs_rd hrd
  refine meth_callG M hok R ok le rfl fun env h₀ E' e1 e2 e3 e4 hcode hn₀ keep R' tk => ?_
  have hk := sk_of e1 hok
  have gle : Le g h₀ := le.trans keep
  have hP₀ : Tab h₀ P := by obtain ⟨op, ws, q1, q2⟩ := hP; exact ⟨op, ws, keep _ _ q1, q2⟩
  rw [hbody]
  refine PySem.wpAny_execs_cons (PySem.wpAny_Return_some ?_)
  refine wpAny_Call_method (by rfl) (by rfl) hl1 PySem.F.plainAttrs_str PySem.F.slot_str_join PySem.F.type_str_join ?_
  refine load_glob (s := { s with heap := h₀, toks := tk }) ok gle g1 hk (by unfold Env.kindOf; rw [e1]; exact hF) e3 e4 (by decide) ?_
  refine ⟨rfl, (by intro a q; cases q), ?_⟩
  refine PyProof.Rows.callWith_method1 ?_
  obtain ⟨nm, N, k0, k1, k2, k3, k5, hC, hN⟩ := X.cls g ok
  have hPx : P < s.heap.objs.size := by obtain ⟨op, ws, q1, q2⟩ := hP; exact Heap.lt_size q1
  have hxP : x ≠ P := by
    rintro rfl
    obtain ⟨op, ps, e1, e2⟩ := hP
    rw [hx] at e1; cases e1; cases e2
  let tx : Nat -> Str := fun j => Txt.join "" [(ps.getD j default).1, (ps.getD j default).2]
  refine spliced_more ?_
  refine gen_make (s := { s with heap := h₀, toks := tk }) (F := fun i y => i < vs.size ∧ ∃ t, y = .str (tx i) t) X ok gle R' (keep _ _ hx) (fun s Q E q r => hbi _ s Q E g ok q r) hcode hP₀ gP e3 e4 (fun Q E hq => wpAny_Name (wpAny_loadName_local hk (kind_of e1 hok (.head _)) hn₀ (v := .ref x) (by rfl) hq) (by decide)) GO.co GO.nf GO.nc GO.d0 GO.la GO.lb GO.ab GO.fn va vb (fun j hj => (hv j hj).1) (fun A' E' C' code i s₂ m₂ hh hi hns q1 q2 gl₂ => ?_) (fun a s₅ kp₅ tab₅ os₅ gens₅ gi => ?_)
  · obtain ⟨_, ⟨ta, hva⟩, tb, hvb⟩ := hv i hi
    rw [hva] at q1; rw [hvb] at q2
    obtain ⟨z1, z2⟩ := hb (ps.getD i default) (by
      have : i < ps.length := by lia
      simp [List.getD, this])
    refine wpAny_Call_method (by rfl) (by rfl) hl2 PySem.F.plainAttrs_str PySem.F.slot_str_join PySem.F.type_str_join ?_
    refine load_glob ok gl₂ g1 GO.fn hlen e3 rfl (by decide) ?_
    refine ⟨rfl, (by intro a q; cases q), ?_⟩
    refine PyProof.Rows.callWith_method1 (spliced_more (wpAny_Tuple ?_))
    refine spliced_more (wpAny_Name (wpAny_loadName_local GO.fn GO.la hns q1 ?_) (by decide))
    refine spliced_more (wpAny_Name (wpAny_loadName_local GO.fn GO.lb hns q2 ?_) (by decide))
    refine spliced_none ⟨(by show 2 ≤ sizeLine; decide), spliced_none ?_⟩
    refine join_tupleC (D := s₂.heap.objs.size) (ys := [(ps.getD i default).1, (ps.getD i default).2]) ⟨_, Heap.get?_push_size _ rfl, rfl, _, rfl⟩ (.cons _ _ (.cons _ _ .nil)) (by decide) (by simp only [List.map_cons, List.map_nil, List.sum_cons, List.sum_nil, List.length_cons, List.length_nil]; lia) fun t' tk' => ?_
    exact ⟨⟨hi, _, rfl⟩, _, _, rfl, fun _ _ e => Heap.get?_push_of_some _ e⟩
  · obtain ⟨h5, gg5, d5, t5, o5⟩ := s₅
    have hx5 : h5.get? x = some (accO W.C dx vs n) := kp₅ _ _ hxP (keep _ _ hx)
    obtain ⟨fp, wr, gn, St, Wk, hst, hTI, ha, hfp, hwr⟩ := gi
    refine spliced_none ?_
    refine SC.joinGen Wk.in4_2 hTI hst hfp ha (fun i v hv => ?_) (fun s' l hm hit => ?_) (by size_fits)
    · obtain ⟨i', _, _, t, rfl⟩ := hv
      exact ⟨_, _, rfl⟩
    · have kp' : ∀ b o, b ≠ P -> s.heap.get? b = some o -> s'.heap.get? b = some o := fun b o hb' e => hm.heap b o (fun hw => by have q := hwr b hw; rw [show Shared.heap { s with heap := h₀, toks := tk } = h₀ from rfl, keep _ _ e] at q; cases q) (kp₅ b o hb' (keep _ _ e))
      have hl : l.map (·.1) = ps.map fun p => Txt.join "" [p.1, p.2] := by
        rw [items_texts (tx := tx) hit fun j v hv => by
          obtain ⟨i', hi', _, t, rfl⟩ := hv
          rw [List.getElem?_eq_some_iff] at hi'
          obtain ⟨_, hi'⟩ := hi'
          rw [List.getElem_range] at hi'
          subst hi'
          exact ⟨t, rfl⟩]
        apply List.ext_getElem?
        intro j
        by_cases hj : j < ps.length
        · simp [hsz', hj, tx, List.getD]
        · simp [hsz', hj]
      rw [hl]
      refine ⟨?_, fun t' k' => K _ { s' with toks := k' } ⟨Le.refl, fun b o hb' e => ?_, fun _ _ _ e => e, fun a ha' e => ?_, ?_, hm.os.trans os₅, fun q => show AllBare s'.gens from AllBare.movedS (s := ⟨h5, gg5, d5, t5, o5⟩) (gens₅ q) hm⟩ ?_ ?_ (.str ..)⟩
      · refine joinOk_of ?_
        rw [List.map_map]
        have := sum_le (l := ps) (f := (fun x : Str => x.length) ∘ fun p : Str × Str => Txt.join "" [p.1, p.2]) (b := 2000) fun p hp => by
          simp only [Function.comp, join2_len]
          have := hb p hp
          lia
        have h0 : ("" : Str).length = 0 := rfl
        rw [h0, Nat.mul_zero]
        have : ps.length * 2000 ≤ 1000 * 2000 := Nat.mul_le_mul_right _ hn
        omega
      · exact kp' b o hb' e
      · cases q : s.heap.get? a with
        | none => rfl
        | some o =>
          have := kp' a o ha' q
          rw [show s'.heap.get? a = none from e] at this; cases this
      · exact fun b o e => kp' b o (by rintro rfl; rw [gP] at e; cases e) (le _ _ e)
      · obtain ⟨op, ws, q1, q2⟩ := tab₅
        refine ⟨op, ws, hm.heap P op (fun hw => ?_) q1, q2⟩
        have q := hwr P hw
        obtain ⟨op', ws', q1', _⟩ := hP₀
        rw [show Shared.heap { s with heap := h₀, toks := tk } = h₀ from rfl, q1'] at q
        cases q
      · exact kp' x _ hxP hx
end
section
variable {W : Wd} {k : Nat} {mN : Str -> Option Value} {sc : Scope} {cs : Option Scope}
noncomputable def accOf : Option (Option Loc) -> Option (Int × List PyData)
  | some (some (.acc f l)) => some (f, l)
  | _ => none
theorem accOf_some {d : Option (Option Loc)} {p : Int × List PyData} (h : accOf d = some p) : d = some (some (.acc p.1 p.2)) := by
  unfold accOf at h
  split at h
  · cases h; rfl
  · cases h
theorem acc_step {cx : Cx} {S : St} {vals cv : Nat -> Value} {g g' : Heap} {s s' : Shared} {i : Nat} {first : Int} {l l' : List PyData} {x dx : Addr} {vs vs' : Array Value} {n n' : Nat} (I : Inv W cx S vals cv g s.heap) (hi : S.loc[i]? = some (some (.acc first l)))
    (hv : vals i = .ref x) (hx : s.heap.get? x = some (accO W.C dx vs n)) (had : AccDict g dx first) (gx : g.get? x = none) (Y : IStep (· = x) g s g' s') (hx' : s'.heap.get? x = some (accO W.C dx vs' n')) (hr : RDs g' vs'.toList l') :
    Step (Fp cx S vals) g s (Fp cx ⟨setL S.loc i (.acc first l'), S.cmp⟩ vals) g' s' ∧ Inv W cx ⟨setL S.loc i (.acc first l'), S.cmp⟩ vals cv g' s'.heap := by
  have hox : ownA (.acc first l) (vals i) = some x := by rw [hv]; rfl
  have hfx : Fp cx S vals x := .inr (.inr (.inl ⟨i, _, hi, hox⟩))
  have gx' : g'.get? x = none := Y.gn _ _ hx gx
  have I₁ := I.hid hi
  have hnot := I.hid_out hi hox
  have I₂ := I₁.side Y fun a q => by rw [q]; exact hnot
  have own : ∀ b, ownA (.acc first l') (vals i) = some b -> b = x := fun b q => by rw [hv] at q; cases q; rfl
  have I₃ := I₂.slot (l := .acc first l') (setL_self hi) ⟨x, dx, vs', n', hv, hx', had.le Y.gg, hr, gx'⟩ fun b hb j lj hj hl q => hnot (.inr (.inr (.inl ⟨j, lj, hl, by rw [q, own b hb]⟩)))
  rw [setL_setL] at I₃
  refine ⟨⟨Y.gg, fun b o hb e => Y.hh b o (fun q => hb (q ▸ hfx)) e, fun a o ha _ e => Y.gn a o ha e, ?_, fun a e => ?_, Y.os, Y.gens⟩, I₃⟩
  · exact fun b hb => .inl (I.sub_slot hi hox own hb)
  · by_cases q : a = x
    · subst q; rw [hx'] at e; cases e
    · exact Y.lv a q e
end
section
variable {W : Wd} {k : Nat} {mN : Str -> Option Value} {sc : Scope} {cs : Option Scope}
noncomputable def pileF (i : Nat) (o : Int -> List PyData -> List PyData -> Option (PyData × List PyData)) (f : St -> Option (List PyData × St)) (S : St) : Option (PyData × St) :=
  (accOf S.loc[i]?).bind fun _ => (f S).bind fun p => (accOf p.2.loc[i]?).bind fun q => (o q.1 q.2 p.1).map fun r => (r.1, ⟨setL p.2.loc i (.acc q.1 r.2), p.2.cmp⟩)
theorem acc_at {cx : Cx} {S : St} {vals cv : Nat -> Value} {g : Heap} {s : Shared} (I : Inv W cx S vals cv g s.heap) {i : Nat} {first : Int} {l : List PyData} (hi : S.loc[i]? = some (some (.acc first l))) : AccR W.C g s.heap first l (vals i) := I.rep i _ hi
theorem ev_pile1 {attr x : Str} {np : Pos} {e : Expr} {ae : Expr} {ar : List Expr} {i f : Nat} {F : FnDef} {clo : List (Str × Addr)} {fa : St -> Option (List PyData × St)} {o : Int -> List PyData -> List PyData -> Option (PyData × List PyData)}
    (X : AccW W mN) (hr : resolve sc cs x = some (.loc i)) (MC : MCall attr (.Name x np) (ae :: ar) e) (hm : mN attr = some (.ref f)) (M : MethAt W f F clo) (hne : attr ≠ ("_initial_size" : Str)) {y : Option Value} (hB : typeLookup (.type "list") attr = pure y)
    (hs : ∀ env, starEach (ae :: ar) env = (false, eval ae env) :: starEach ar env)
    (he : EvL W k sc cs (ae :: ar) fa) (hop : AOp W k f o) : Ev W k sc cs e (pileF i o fa) := by
  intro S d S' h A cx vals cv g s Q E R e1 e2 I K
  simp only [pileF, Option.bind_eq_some_iff, Option.map_eq_some_iff, Prod.exists, Prod.mk.injEq] at h
  obtain ⟨f0, l0, h0, ds, S₁, h1, f1, l1, h2, d', l', h3, rfl, rfl⟩ := h
  have h0 := accOf_some h0
  have h2 := accOf_some h2
  obtain ⟨a, dx, vs, n, hv, ha, had, hrd, ga⟩ := acc_at I h0
  obtain ⟨apos, pos, rfl, hev⟩ := MC
  obtain ⟨pl, hev⟩ := hev cx.ev
  subst e1 e2
  rw [hev]
  refine wpAny_bind (wpAny_Name (I.load hr h0 ?_) (resolve_debug hr))
  rw [hv]
  refine wpAny_bind (wpAny_standAt (wpAny_bind (wpAny_holding ?_)))
  obtain ⟨nm, N, k0, k1, k2, k3, k5, hC, hN⟩ := X.cls g I.wok
  obtain ⟨o', fd, cc, oc, ws, file, tf, q1, q2, q3, _⟩ := M.at_ g I.wok
  obtain ⟨m, hns, hmn⟩ := accDict_ns had I.le
  refine acc_method (I.le _ _ hC) (hN.keeps I.le) X.ga X.gattr hm (I.le _ _ q1) q2 hB ha hns (hmn _ hne) ?_
  refine PySem.Calls.callWith_function (o := o') (fd := fd) ?_
  rw [hs]
  refine PySem.Calls.evalArgs_plain ?_
  show wpAny _ _ (spliced (backTo pos ((false, eval ae cx.ev) :: starEach ar cx.ev))) _ _ _
  rw [<- hs]
  refine he _ _ _ h1 pos A cx vals cv g s _ E R rfl rfl I fun ws g₂ s₂ st₂ I₂ r₂ => ?_
  obtain ⟨a₂, dx₂, vs₂, n₂, hv₂, ha₂, had₂, hrd₂, ga₂⟩ := acc_at I₂ h2
  rw [hv] at hv₂; cases hv₂
  refine ⟨⟨I₂.le _ _ (st₂.gg _ _ q1), q3⟩, ?_⟩
  refine hop _ _ _ _ _ h3 A g₂ s₂ a dx₂ vs₂ n₂ ws Q E R I₂.wok I₂.le ha₂ had₂ hrd₂ ga₂ r₂ fun v g' s' vs' n' Y hx' hr' rv => ?_
  obtain ⟨st₃, I₃⟩ := acc_step I₂ h2 hv ha₂ had₂ ga₂ Y hx' hr'
  exact K v g' s' (st₂.trans st₃) I₃ rv
theorem ev_pile0 {attr x : Str} {np : Pos} {e : Expr} {i f : Nat} {F : FnDef} {clo : List (Str × Addr)} {o : Int -> List PyData -> List PyData -> Option (PyData × List PyData)}
    (X : AccW W mN) (hr : resolve sc cs x = some (.loc i)) (MC : MCall attr (.Name x np) [] e) (hm : mN attr = some (.ref f)) (M : MethAt W f F clo) (hne : attr ≠ ("_initial_size" : Str)) {y : Option Value} (hB : typeLookup (.type "list") attr = pure y)
    (hop : AOp W k f o) : Ev W k sc cs e (pileF i o fun S => some ([], S)) := by
  intro S d S' h A cx vals cv g s Q E R e1 e2 I K
  simp only [pileF, Option.bind_eq_some_iff, Option.map_eq_some_iff, Prod.exists, Prod.mk.injEq] at h
  obtain ⟨f0, l0, h0, ds, S₁, h1, f1, l1, h2, d', l', h3, rfl, rfl⟩ := h
  have h0 := accOf_some h0
  have h2 := accOf_some h2
  obtain ⟨a, dx, vs, n, hv, ha, had, hrd, ga⟩ := acc_at I h0
  obtain ⟨apos, pos, rfl, hev⟩ := MC
  obtain ⟨pl, hev⟩ := hev cx.ev
  subst e1 e2
  rw [hev]
  refine wpAny_bind (wpAny_Name (I.load hr h0 ?_) (resolve_debug hr))
  rw [hv]
  refine wpAny_bind (wpAny_standAt (wpAny_bind (wpAny_holding ?_)))
  obtain ⟨nm, N, k0, k1, k2, k3, k5, hC, hN⟩ := X.cls g I.wok
  obtain ⟨o', fd, cc, oc, ws, file, tf, q1, q2, q3, _⟩ := M.at_ g I.wok
  obtain ⟨m, hns, hmn⟩ := accDict_ns had I.le
  refine acc_method (I.le _ _ hC) (hN.keeps I.le) X.ga X.gattr hm (I.le _ _ q1) q2 hB ha hns (hmn _ hne) ?_
  refine PySem.Calls.callWith_function (o := o') (fd := fd) ?_
  cases h1
  refine wpAny_pure ⟨⟨I.le _ _ q1, q3⟩, ?_⟩
  rw [h0] at h2; cases h2
  refine hop _ _ _ _ _ h3 A g s a dx vs n [] Q E R I.wok I.le ha had hrd ga .nil fun v g' s' vs' n' Y hx' hr' rv => ?_
  obtain ⟨st₃, I₃⟩ := acc_step I h0 hv ha had ga Y hx' hr'
  exact K v g' s' st₃ I₃ rv
end
section
variable {W : Wd} {k : Nat} {mN : Str -> Option Value} {sc : Scope} {cs : Option Scope}
theorem Room.in1' {A : Around} {k : Nat} (R : Room A (k + 1)) : Room A.in1 k := ⟨R.h, by have := R.d; show A.depth + k + 50 ≤ 1000; lia, by have := R.u; show A.units + 1 + 20 * k + 1000 ≤ 9900; lia, R.f⟩
theorem acc_callSpecial {prog : Program} {w : World} {A : Around} {E : Value -> Shared -> Prop} {nm q : Str} {C N x dx f : Addr} {k0 k1 k2 k3 k5 : Option Value} {name : Str} {vs : Array Value} {n : Nat} {s : Shared} {y : Option Value} {of : Obj} {Q : Option Value -> Shared -> Prop} (hC : s.heap.get? C = some (clsO nm q C N k0 k1 k2 k3 k5)) (hn : s.heap.Ns N mN) (hB : typeLookup (.type "list") name = pure y)
    (hx : s.heap.get? x = some (accO C dx vs n)) (hf : mN name = some (.ref f)) (hfo : s.heap.get? f = some of) (hfc : of.cls = .type "function")
    (hc : wpAny (model prog w) A (call (.ref f) [.ref x]) (fun v => Q (some v)) E s) : wpAny (model prog w) A (callSpecial? (.ref x) name) Q E s := by
  simp only [callSpecial?]
  refine wpAny_bind (acc_special hC hn hB hx ?_)
  rw [hf]
  refine wpAny_holding (wpAny_bind (wpAny_bindSpecial_def hfo hfc ?_))
  exact wpAny_bind (wpAny_mono hc (fun v s' h' => wpAny_pure h') fun _ _ h' => h')
theorem lk_list_len : typeLookup (.type "list") "__len__" = pure (some (.builtin "list.__len__")) := by rw [typeLookup_type, builtinLookup_eq_fast]; kernel_rfl
theorem acc_call_len {prog : Program} {w : World} {A : Around} {E : Value -> Shared -> Prop} {nm q : Str} {C N x dx f : Addr} {k0 k1 k2 k3 k5 : Option Value} {vs : Array Value} {n : Nat} {s : Shared} {of : Obj} {Q : Value -> Shared -> Prop} (hC : s.heap.get? C = some (clsO nm q C N k0 k1 k2 k3 k5)) (hn : s.heap.Ns N mN)
    (hx : s.heap.get? x = some (accO C dx vs n)) (hf : mN "__len__" = some (.ref f)) (hfo : s.heap.get? f = some of) (hfc : of.cls = .type "function")
    (hc : ∀ E, wpAny (model prog w) A.in1 (call (.ref f) [.ref x]) (fun v s' => ∃ i t, v = .int i t ∧ 0 ≤ i ∧ i < 2 ^ 63 ∧ Q (.int i s'.toks) { s' with toks := s'.toks + 1 }) E s) : wpAny (model prog w) A (call (.builtin "len") [.ref x]) Q E s := by
  refine Calls.call_function_entry kind_len plain_len entry_len (args_len1 _) ?_
  unfold Builtin.«len»
  refine wpAny_bind (m := oneArg "len" _) (wpAny_pure ?_)
  refine wpAny_bind (m := callSpecial? (.ref x) (Str.ofString "__len__")) (acc_callSpecial hC hn lk_list_len hx hf hfo hfc (wpAny_mono (hc _) (fun v s' h => ?_) fun _ _ h => h))
  obtain ⟨i, t, rfl, h0, h1, hq⟩ := h
  refine wpAny_bind (wpAny_holding (wpAny_pure ?_))
  refine wpAny_bind (wpAny_letGo ?_)
  show wpAny _ _ (if i < 0 then _ else _) _ _ _
  rw [if_neg (by lia)]
  show wpAny _ _ (if i ≥ 2 ^ 63 then _ else _) _ _ _
  rw [if_neg (by lia)]
  exact wpAny_bind (wpAny_mkInt (wpAny_pure ⟨_, rfl, hq⟩))
end
section
variable {W : Wd} {k : Nat} {mN : Str -> Option Value} {sc : Scope} {cs : Option Scope}
theorem p_step {p : Addr -> Prop} {cx : Cx} {S : St} {vals cv : Nat -> Value} {g g' : Heap} {s s' : Shared} (I : Inv W cx S vals cv g s.heap) (Y : IStep p g s g' s') (hp : ∀ a, p a -> cx.mt a) (hT : ∀ a, p a -> Tab s'.heap a) :
    Step (Fp cx S vals) g s (Fp cx S vals) g' s' ∧ Inv W cx S vals cv g' s'.heap := by
  have hfP : ∀ a, p a -> Fp cx S vals a := fun a ha => .inr (.inr (.inr (.inr (hp a ha))))
  have kh : ∀ {a k}, KAt s.heap a k -> k ≠ 3 -> ∀ o, s.heap.get? a = some o -> s'.heap.get? a = some o := fun ka hk o e => Y.hh _ o (fun q => ka.ne (I.kM (hp _ q)) hk rfl) e
  have kn : ∀ a, Fp cx S vals a -> g'.get? a = none := fun a ha => (by obtain ⟨⟨o, ho⟩, hg⟩ := I.there ha; exact Y.gn a o ho hg)
  refine ⟨⟨Y.gg, fun b o hb e => Y.hh b o (fun q => hb (hfP b q)) e, fun a o ha _ e => Y.gn a o ha e, fun _ => .inl, fun a e => ?_, Y.os, Y.gens⟩, ?_⟩
  · by_cases q : p a
    · obtain ⟨o, e'⟩ := (KAt.tab (hT a q)).there
      rw [e'] at e; cases e
    · exact Y.lv a q e
  · exact { le := Y.le, wok := I.wok.le Y.gg, esc := I.esc, nd := I.nd, cinj := I.cinj, sep := I.sep
            dict := (by obtain ⟨md, a, b⟩ := I.dict; exact ⟨md, Heap.Ns.of_get a (kh I.kL (by decide)), b⟩)
            gl := kn _ (.inl rfl)
            cell := fun i x hx => (by obtain ⟨c, v, h1, h2, h3⟩ := I.cell i x hx; exact ⟨c, v, h1, Heap.IsCell.of_get h2 (kh (I.kC h1) (by decide)), h3⟩)
            gcell := fun x c hx => ⟨kn _ (.inr (.inl ⟨_, hx⟩)), (by obtain ⟨v, h⟩ := (I.gcell x c hx).2; exact ⟨v, Heap.IsCell.of_get h (kh (I.kC hx) (by decide))⟩)⟩
            rep := fun i l hl => (I.rep i l hl).change Y.gg fun a ha => ⟨kh (I.kO hl ha) (by decide), fun _ => kn a (.inr (.inr (.inl ⟨i, l, hl, ha⟩)))⟩
            cmp := fun cs cl C hc =>
              let ⟨d, a, b, c, e, f, g⟩ := I.cmp cs cl C hc
              ⟨(by obtain ⟨md, p, q⟩ := d; exact ⟨md, Heap.Ns.of_get p (kh (I.kP hc) (by decide)), q⟩), kn _ (.inr (.inr (.inr (.inl ⟨_, _, hc⟩)))), b, fun i d h => RD.le Y.gg (c i d h), e, f, g⟩
            mu := ⟨I.mu.1, fun a ha => ⟨kn a (.inr (.inr (.inr (.inr ha)))), (Classical.em (p a)).elim (hT a) fun q => let ⟨o, ws, e, d⟩ := (I.mu.2 a ha).2; ⟨o, ws, Y.hh a o q e, d⟩⟩⟩ }
theorem tab_step {cx : Cx} {S : St} {vals cv : Nat -> Value} {g : Heap} {s s' : Shared} {P : Addr} (I : Inv W cx S vals cv g s.heap) (hP : cx.mt P) (Y : IStep (· = P) g s g s') (hT : Tab s'.heap P) :
    Step (Fp cx S vals) g s (Fp cx S vals) g s' ∧ Inv W cx S vals cv g s'.heap := p_step I Y (fun a q => q ▸ hP) fun a q => q ▸ hT
end
section
variable {W : Wd} {k : Nat} {mN : Str -> Option Value} {sc : Scope} {cs : Option Scope}
theorem AOpT.sub {f P : Nat} {o o' : Int -> List PyData -> Option PyData} (h : AOpT W k f P o) (hs : ∀ a b d, o' a b = some d -> o a b = some d) : AOpT W k f P o' := fun first l d q => h first l d (hs _ _ _ q)
noncomputable def pileT (i : Nat) (o : Int -> List PyData -> Option PyData) (S : St) : Option (PyData × St) :=
  (accOf S.loc[i]?).bind fun q => (o q.1 q.2).map fun d => (d, S)
theorem ev_lenPile {x : Str} {p np pos : Pos} {i f P : Nat} {F : FnDef} (X : AccW W mN) (hr : resolve sc cs x = some (.loc i)) (hl : resolve sc cs "len" = some .glob) (hg : (("len" : Str), Value.builtin "len") ∈ W.globs) (hm : mN "__len__" = some (.ref f)) (M : MethG W f F P)
    (hop : AOpT W k f P fun a b => (lenO a b).bind fun d => match d with | .int z => if 0 ≤ z ∧ z < 2 ^ 62 then some d else none | _ => none) : Ev W (k + 1) sc cs (.Call (.Name "len" p) [.Name x np] [] pos) (pileT i fun a b => (lenO a b).bind fun d => match d with | .int z => if 0 ≤ z ∧ z < 2 ^ 62 then some d else none | _ => none) := by
  intro S d S' h A cx vals cv g s Q E R e1 e2 I K
  simp only [pileT, Option.bind_eq_some_iff, Option.map_eq_some_iff, Prod.exists, Prod.mk.injEq] at h
  obtain ⟨f0, l0, h0, d', hd, rfl, rfl⟩ := h
  have h0 := accOf_some h0
  obtain ⟨a, dx, vs, n, hv, ha, had, hrd, ga⟩ := acc_at I h0
  subst e1 e2
  obtain ⟨nm, N, k0, k1, k2, k3, k5, hC, hN⟩ := X.cls g I.wok
  obtain ⟨o', fd, cc, oc, ws, q1, q2, _⟩ := M.at_ g I.wok
  refine wpAny_Call_NameR (I.loadGlob hl hg ?_)
  refine PyProof.Rows.callWith_builtin1 (spliced_more (wpAny_Name (I.load hr h0 (spliced_none ?_)) (resolve_debug hr)))
  rw [hv]
  refine acc_call_len (I.le _ _ hC) (hN.keeps I.le) ha hm (I.le _ _ q1) q2 fun E => ?_
  obtain ⟨gP, tP⟩ := I.mu.2 P (I.mu.1 P (M.mt ()))
  refine hop f0 l0 d' (by simp only [Option.bind_eq_some_iff]; exact hd) A.in1 g s a dx vs n _ E R.in1' I.wok I.le ha had hrd ga gP tP fun v s' Y hT hx' rv => ?_
  obtain ⟨d₀, hd0, hd1⟩ := hd
  split at hd1
  · rename_i z
    rw [Option.ite_none_right_eq_some] at hd1
    obtain ⟨⟨z0, z1⟩, hd1⟩ := hd1
    cases hd1
    obtain ⟨t, rfl⟩ := rv.of_int
    obtain ⟨st, I'⟩ := tab_step I (I.mu.1 P (M.mt ())) Y hT
    refine ⟨z, t, rfl, z0, by lia, ?_⟩
    exact K _ g { s' with toks := s'.toks + 1 } ⟨st.gg, st.hh, st.gn, st.ff, st.lv, st.os, st.gens⟩ I' (.int ..)
  · cases hd1
end
open Builtin Builtin.ObjectAttr Builtin.Str
section
variable {W : Wd} {k : Nat} {mN : Str -> Option Value} {sc : Scope} {cs : Option Scope}
theorem lk_list_str : typeLookup (.type "list") "__str__" = pure (some (.builtin "object.__str__")) := by rw [typeLookup_type, builtinLookup_eq_fast]; kernel_rfl
theorem acc_call_str {prog : Program} {w : World} {A : Around} {E : Value -> Shared -> Prop} {nm q : Str} {C N x dx f : Addr} {k0 k1 k2 k3 k5 : Option Value} {vs : Array Value} {n : Nat} {s : Shared} {of : Obj} {Q : Value -> Shared -> Prop} (hC : s.heap.get? C = some (clsO nm q C N k0 k1 k2 k3 k5)) (hn : s.heap.Ns N mN)
    (hx : s.heap.get? x = some (accO C dx vs n)) (hf : mN "__str__" = some (.ref f)) (hfo : s.heap.get? f = some of) (hfc : of.cls = .type "function") (hu : A.in1.in1.units < cLine)
    (hc : ∀ E, wpAny (model prog w) A.in1.in1 (call (.ref f) [.ref x]) (fun v s' => ∃ y t, v = .str y t ∧ Q (.str y t) s') E s) : wpAny (model prog w) A (call (.type "str") [.ref x]) Q E s := by
  refine callType_codes (T := "str") (Bi := Builtin.«object.__init__») (Q₁ := fun r s₁ => ∃ y u, r = .str y u ∧ Q r s₁) PySem.F.called_str (PySem.F.typeCall_str_1 _) PySem.F.entry_object_init ?_ ?_
  · refine codeAny_of_tree ?_
    show wpAny _ A.in1.in1 (do checkBuiltinCall "str.__new__" ⟨[.type "str", .ref x], []⟩; again (.builtin "str.__new__" ⟨[.type "str", .ref x], []⟩)) _ _ s
    refine wpAny_bind (wpAny_of_eq (PySem.F.newCall_str_1 _) (wpAny_pure ⟨plainId_quiet (by decide +kernel) _, codeAny_builtin PySem.F.entry_str_new ?_⟩))
    rw [Around.under_plainId (by decide +kernel) _]
    rw [str_new_tree]
    refine wpAny_bind (wpAny_pure ?_)
    refine wpAny_bind (wpAny_of_eq isSubtype_str_str ?_)
    refine wpAny_bind ?_
    unfold PySem.Builtin.Str.strOf
    rw [show isExactStr (.ref x) = false from rfl]
    refine wpAny_bind (m := cRoomFor _ _) (wpAny_cRoomFor hu ?_)
    refine wpAny_bind (m := callSpecial? (.ref x) (Str.ofString "__str__")) (acc_callSpecial hC hn lk_list_str hx hf hfo hfc (wpAny_mono (hc _) (fun r s' hr => ?_) fun _ _ y => y))
    obtain ⟨y, t, rfl, hq⟩ := hr
    exact wpAny_pure (wpAny_pure ⟨y, t, rfl, hq⟩)
  · rintro obj s₁ ⟨y, u, rfl, hq⟩
    exact ⟨typeIs_str _ _ _, PySem.F.args_object_init_2 _ _, object_init_meets PySem.F.called_str.init.lookup PySem.F.called_str.made (by decide) prog w A.in1 _ s₁ ⟨typeIs_str _ _ _, rfl, hq⟩⟩
end
section
variable {W : Wd} {k : Nat} {mN : Str -> Option Value} {sc : Scope} {cs : Option Scope}
theorem strO_str {a : Int} {l : List PyData} {d : PyData} (h : strO a l = some d) : ∃ y, d = .str y := by
  unfold strO at h
  cases hps : l.mapM pairD with
  | none => simp [hps] at h
  | some ps =>
    simp only [hps, Option.bind_eq_bind, Option.bind_some, Option.ite_none_right_eq_some] at h
    obtain ⟨_, h⟩ := h
    cases h
    exact ⟨_, rfl⟩
theorem ev_strPile {x : Str} {p np pos : Pos} {i f P : Nat} {F : FnDef} (X : AccW W mN) (hr : resolve sc cs x = some (.loc i)) (hl : resolve sc cs "str" = some .glob) (hg : (("str" : Str), Value.type "str") ∈ W.globs) (hm : mN "__str__" = some (.ref f)) (M : MethG W f F P)
    (hop : AOpT W k f P strO) : Ev W (k + 1) sc cs (.Call (.Name "str" p) [.Name x np] [] pos) (pileT i strO) := by
  intro S d S' h A cx vals cv g s Q E R e1 e2 I K
  simp only [pileT, Option.bind_eq_some_iff, Option.map_eq_some_iff, Prod.exists, Prod.mk.injEq] at h
  obtain ⟨f0, l0, h0, d', hd, rfl, rfl⟩ := h
  have h0 := accOf_some h0
  obtain ⟨a, dx, vs, n, hv, ha, had, hrd, ga⟩ := acc_at I h0
  subst e1 e2
  obtain ⟨nm, N, k0, k1, k2, k3, k5, hC, hN⟩ := X.cls g I.wok
  obtain ⟨o', fd, cc, oc, ws, q1, q2, _⟩ := M.at_ g I.wok
  refine wpAny_Call_NameR (I.loadGlob hl hg ?_)
  refine PyProof.Rows.callWith_type1 (spliced_more (wpAny_Name (I.load hr h0 (spliced_none ?_)) (resolve_debug hr)))
  rw [hv]
  have hu := (Room.in1 R).units
  refine acc_call_str (I.le _ _ hC) (hN.keeps I.le) ha hm (I.le _ _ q1) q2 (by omega) fun E => ?_
  obtain ⟨gP, tP⟩ := I.mu.2 P (I.mu.1 P (M.mt ()))
  refine hop f0 l0 d' hd A.in1.in1 g s a dx vs n _ E R.in1 I.wok I.le ha had hrd ga gP tP fun v s' Y hT hx' rv => ?_
  obtain ⟨y, rfl⟩ := strO_str hd
  obtain ⟨t, rfl⟩ := rv.of_str
  obtain ⟨st, I'⟩ := tab_step I (I.mu.1 P (M.mt ())) Y hT
  exact ⟨y, t, rfl, K _ g s' st I' (.str ..)⟩
end
section
variable {W : Wd} {k : Nat} {mN : Str -> Option Value} {sc : Scope} {cs : Option Scope}
noncomputable def InitOK (W : Wd) (k : Nat) (f : Addr) : Prop :=
  ∀ (A : Around) (g : Heap) (s : Shared) (x dx : Addr) (n : Nat) (i : Int) (t : Tok) (Q : Value -> Shared -> Prop) (E : Value -> Shared -> Prop), Room A k -> WOK W g -> Le g s.heap -> s.heap.get? x = some (accO W.C dx #[] n) -> s.heap.get? dx = some { cls := .type "dict", data := .dict #[] } -> dx ≠ x -> g.get? x = none -> g.get? dx = none ->
    (∀ g' s' n', Le g g' -> (∀ b o, ¬ (b = x ∨ b = dx) -> s.heap.get? b = some o -> s'.heap.get? b = some o) -> (∀ a o, a ≠ dx -> s.heap.get? a = some o -> g.get? a = none -> g'.get? a = none) -> Le g' s'.heap -> s'.os = s.os -> (AllBare s.gens -> AllBare s'.gens) ->
      s'.heap.get? x = some (accO W.C dx #[] n') -> AccDict g' dx i -> g'.get? x = none -> Q .none s') -> wpAny W.M A (call (.ref f) [.ref x, .int i t]) Q E s
theorem call_pile {fI : Addr} {FI : FnDef} {clo : List (Str × Addr)} (X : AccW W mN) (hi : mN "__init__" = some (.ref fI)) (MI : MethAt W fI FI clo) {y : Option Value} (hB : typeLookup (.type "list") "__init__" = pure y) (hI : InitOK W k fI)
    {A : Around} {g : Heap} {s : Shared} {i : Int} {t : Tok} {Q : Value -> Shared -> Prop} {E : Value -> Shared -> Prop} (R : Room A (k + 1)) (ok : WOK W g) (le : Le g s.heap)
    (K : ∀ a g' s', IStep (fun _ => False) g s g' s' -> s.heap.get? a = none -> LocRep W g' s'.heap (.acc i []) (.ref a) -> Q (.ref a) s') : wpAny W.M A (call (.ref W.C) [.int i t]) Q E s := by
  refine acc_make X ok le R hi MI hB fun A' E R' => ?_
  have n0 : s.heap.get? s.heap.objs.size = none := size_none
  have n1 : s.heap.get? (s.heap.objs.size + 1) = none := by
    cases q : s.heap.get? (s.heap.objs.size + 1) with
    | none => rfl
    | some o => exact absurd (Heap.lt_size q) (Nat.not_lt_of_le (Nat.le_succ _))
  have e1 : ((s.heap.push { cls := .type "dict", data := .dict #[] }).push (accO W.C s.heap.objs.size #[] 0)).get? (s.heap.objs.size + 1) = some (accO W.C s.heap.objs.size #[] 0) := by
    have hsz : (s.heap.push { cls := .type "dict", data := .dict #[] }).objs.size = s.heap.objs.size + 1 := by simp [Heap.push]
    rw [<- hsz]
    exact Heap.get?_push_size _ rfl
  have e0 : ((s.heap.push { cls := .type "dict", data := .dict #[] }).push (accO W.C s.heap.objs.size #[] 0)).get? s.heap.objs.size = some { cls := .type "dict", data := .dict #[] } := Heap.get?_push_of_some _ (Heap.get?_push_size _ rfl)
  have le2 : Le s.heap ((s.heap.push { cls := .type "dict", data := .dict #[] }).push (accO W.C s.heap.objs.size #[] 0)) := le_push.trans le_push
  refine hI A' g _ _ _ 0 i t _ E R' ok (le.trans le2) e1 e0 (Nat.ne_of_lt (Nat.lt_succ_self _)) (le.none n1) (le.none n0) fun g' s' n' gg hh gn gl os gens hx had gx => ⟨rfl, ?_⟩
  have kp : ∀ b o, s.heap.get? b = some o -> s'.heap.get? b = some o := fun b o e => hh b o (fun q => by
    rcases q with rfl | rfl
    · rw [n1] at e; cases e
    · rw [n0] at e; cases e) (le2 _ _ e)
  refine K _ g' s' ⟨gg, fun b o _ e => kp b o e, fun a o ha e => gn a o (fun q => by rw [q, n0] at ha; cases ha) (le2 _ _ ha) e, fun a _ e => ?_, gl, os, gens⟩ n1 ⟨_, _, #[], n', rfl, hx, had, .nil, gx⟩
  cases q : s.heap.get? a with
  | none => rfl
  | some o => rw [kp a o q] at e; cases e
end
section
variable {W : Wd} {k : Nat} {mN : Str -> Option Value} {sc : Scope} {cs : Option Scope}
theorem looks_keeper {g : Heap} {nm q : Str} {C N : Addr} {k0 k1 k2 k3 k5 : Option Value} (hC : g.get? C = some (clsO nm q C N k0 k1 k2 k3 k5)) : Looks W.M g (keeperOf (.ref C)) Keeper.machine := by
  intro A Q E s hk hq
  have hC' := hk _ _ hC
  have hT : s.TypeIs (.ref C) "type" := ⟨_, hC', rfl⟩
  unfold keeperOf
  refine wpAny_bind (wpAny_load hC' ?_)
  show wpAny _ _ (specialOf (.ref C) "__call__" >>= _) _ _ _
  refine wpAny_bind (wpAny_specialOf hT tc_lookup ?_)
  exact wpAny_pure hq
noncomputable def intOfN : PyData -> Option Int
  | .int i => some i
  | _ => none
noncomputable def pileN (i : Nat) (f : St -> Option (PyData × St)) (S : L) : Option (Fl × L) :=
  (f ⟨S, []⟩).bind fun p => (intOfN p.1).map fun z => (.next, setL p.2.loc i (.acc z []))
theorem ex_assignPile {x cn : Str} {np cp pos cpos : Pos} {e : Expr} {i : Nat} {f : St -> Option (PyData × St)} {fI : Addr} {FI : FnDef} {clo : List (Str × Addr)} (X : AccW W mN) (hi : mN "__init__" = some (.ref fI)) (MI : MethAt W fI FI clo) {y : Option Value} (hB : typeLookup (.type "list") "__init__" = pure y) (hI : InitOK W k fI)
    (hr : resolve sc none x = some (.loc i)) (hc : resolve sc none cn = some .glob) (hg : (cn, Value.ref W.C) ∈ W.globs) (he : Ev W (k + 1) sc none e f) (hst : ∀ env, starEach [e] env = [(false, eval e env)])
    (hs : ∀ env, env.scope = sc -> swapsWith (.Call (.Name cn cp) [e] [] cpos) (some (.Name x np)) pos.line env = pure false) : Ex W (k + 1) sc (.Assign [.Name x np] (.Call (.Name cn cp) [e] [] cpos) pos) (pileN i f) := by
  intro S fl S' h A cx vals cv g s Q E R e1 e2 I K
  simp only [pileN, Option.bind_eq_some_iff, Option.map_eq_some_iff, Prod.exists, Prod.mk.injEq] at h
  obtain ⟨d, S₁, h1, z, hz, rfl, rfl⟩ := h
  have hd : d = .int z := by cases d <;> simp [intOfN] at hz; rw [hz]
  subst hd
  refine wpAny_Assign_Name ?_ (hs _ (I.esc.1.trans e1))
  rw [<- Cx.ev_fn e2]
  refine wpAny_Call_NameR (I.loadGlob (by rw [e1, Cx.cs_fn e2]; exact hc) hg ?_)
  rw [hst]
  refine callWith_of (P := fun h => Le g h) rfl (fun h hh => ?_) ?_
  · obtain ⟨nm, N, k0, k1, k2, k3, k5, hC, hN⟩ := X.cls g I.wok
    exact ⟨_, .inr (.inl rfl), looks_keeper (hh _ _ hC)⟩
  refine PySem.Calls.evalArgs_plain (spliced_cons ?_)
  simp only [Bool.false_eq_true, if_false, List.map_nil]
  rw [Cx.ev_fn e2]
  refine he.fn h1 R e1 e2 I fun v g₁ s₁ st₁ I₁ r₁ => spliced_nil ⟨st₁.gg.trans I₁.le, ?_⟩
  obtain ⟨t, rfl⟩ := r₁.of_int
  refine call_pile X hi MI hB hI R I₁.wok I₁.le fun a g' s' Y ha rep => ?_
  have I₂ := I₁.side Y (fun a q => q.elim)
  have st₂ := st₁.side Y (fun a q => q.elim)
  exact I₂.store st₂ e2 (e1 ▸ hr) (.acc z []) (.ref a) rep (fun b q => by cases q; exact ⟨st₁.lv _ ha, fun q => I₁.fresh ha q⟩) fun s'' st'' I'' => K _ _ _ _ st'' I'' rfl
end
noncomputable def Wd.withMt (W : Wd) (p : Addr -> Prop) : Wd := { W with mt := p }
theorem WOK.withMt {W : Wd} {p : Addr -> Prop} {g : Heap} (x : WOK (W.withMt p) g) : WOK W g := ⟨x.K, x.gl, x.nolimit⟩
theorem OpN.withMt {W : Wd} {p : Addr -> Prop} {k : Nat} {t : List Value -> Sem Value} {o : List PyData -> Option PyData} (h : OpN W k t o) : OpN (W.withMt p) k t o :=
  fun ds d hd A g s vs Q E R ok le r K => h ds d hd A g s vs Q E R ok.withMt le r K
theorem Tab.keeps {h h' : Heap} {a : Addr} (x : Tab h a) (k : Le h h') : Tab h' a := (by obtain ⟨o, ws, e, d⟩ := x; exact ⟨o, ws, k _ _ e, d⟩)
noncomputable def OpM (W : Wd) (k : Nat) (t : List Value -> Sem Value) (o : List PyData -> Option PyData) : Prop :=
  ∀ ds d, o ds = some d -> ∀ (A : Around) g s vs (Q : Value -> Shared -> Prop) (E : Value -> Shared -> Prop), Room A k -> WOK W g -> Le g s.heap -> (∀ a, W.mt a -> g.get? a = none ∧ Tab s.heap a) -> RDs g vs ds ->
    (∀ v g' s', IStep W.mt g s g' s' -> (∀ a, W.mt a -> g'.get? a = none ∧ Tab s'.heap a) -> RD g' v d -> Q v s') -> wpAny W.M A (t vs) Q E s
theorem fn_okM {W : Wd} {k : Nat} {f : Addr} {F : FnDef} {fB : List (Option Loc) -> Option (Fl × List (Option Loc))} {n : Nat} (hf : ∀ g, WOK W g -> FnAt g f F) (hB : Exs W k F.scope F.body fB)
    (hk : F.scope.kind = .function) (hco : F.scope.isCoroutine = false) (hgen : F.scope.isGenerator = false) (nd : (F.scope.names.map (·.1)).Nodup)
    (hps : F.params.args.map (·.arg) = (F.scope.names.take n).map (·.1)) (hkinds : (F.scope.names.take n).all (fun x => x.2 == .local || x.2 == .cell) = true)
    (hbind : ∀ vs : List Value, vs.length = n -> ∀ pm code doc, bindArgs (docDef F.name F.params F.body F.scope pm code doc) ⟨vs, []⟩ = pure ((F.params.args.map (·.arg)).zip vs))
    (hn : n ≤ F.scope.names.length) : OpM W (k + 1) (fun vs => call (.ref f) vs) (fnA n F.scope.names.length fB) := by
  intro ds d h A g s vs Q E R ok le mu r K
  simp only [fnA, Option.ite_none_right_eq_some] at h
  obtain ⟨hlen, h⟩ := h
  simp only [fnF, Option.map_eq_some_iff, Prod.exists] at h
  obtain ⟨fl, S', h1, h2⟩ := h
  obtain ⟨o, pm, code, doc, f1, f2, f3⟩ := hf g ok
  have vlen : vs.length = n := r.len.trans hlen
  have pl : (F.params.args.map (·.arg)).length = n := by rw [hps, List.length_map, List.length_take]; lia
  have zk : ((F.params.args.map (·.arg)).zip vs).map (·.1) = F.params.args.map (·.arg) := by
    rw [<- List.unzip_fst, List.unzip_zip (by rw [pl, vlen])]
  have zn : (((F.params.args.map (·.arg)).zip vs).map (·.1)).Nodup := by rw [zk, hps]; exact nd.sublist ((List.take_sublist n _).map _)
  have pget : ∀ (i : Nat) (x : Str) (kd : NameKind), i < n -> F.scope.names[i]? = some (x, kd) -> (F.params.args.map (·.arg))[i]? = some x := fun i x kd hi hx => by
    rw [hps, List.getElem?_map, List.getElem?_take_of_lt hi, hx]; rfl
  refine wpAny_call ?_
  refine codeAny_call_cells (binds := (F.params.args.map (·.arg)).zip vs) (by have := R.d; unfold recursionLimit; lia) (le _ _ f1) f2 (ok.nolimit.keeps le)
    (by obtain ⟨c, o', vs', t, a, b, c', d'⟩ := f3; exact ⟨c, o', vs', t, a, le _ _ b, c', d'⟩) rfl (hbind vs vlen pm code doc) rfl ?_ (fun s₁ X => ?_) hco hgen hk
  · intro x hx
    obtain ⟨y, v⟩ := x
    have hy : y ∈ F.params.args.map (·.arg) := (List.of_mem_zip hx).1
    rw [hps] at hy
    obtain ⟨⟨y', kd⟩, hm, e⟩ := List.mem_map.mp hy
    simp only at e
    subst e
    have hkd := List.all_eq_true.mp hkinds _ hm
    obtain ⟨i, hi⟩ := List.mem_iff_getElem?.mp (List.mem_of_mem_take hm)
    have lk := lookup_of_get nd hi
    simp only [Bool.or_eq_true, beq_iff_eq] at hkd
    rcases hkd with rfl | rfl
    · exact .inl lk
    · exact .inr ⟨lk, cellsFrom_some _ _ _ (.inl lk)⟩
  · generalize hfd : docDef F.name F.params F.body F.scope pm code doc = fd at X ⊢
    have esc : (callEnvC fd s.heap.objs.size f).scope = F.scope := by rw [<- hfd]; rfl
    have egl : (callEnvC fd s.heap.objs.size f).globals = mainGlobals ∧ (callEnvC fd s.heap.objs.size f).builtins = builtinsNs := by rw [<- hfd]; exact ⟨rfl, rfl⟩
    have eL : (callEnvC fd s.heap.objs.size f).locals = s.heap.objs.size := rfl
    have eC : (callEnvC fd s.heap.objs.size f).cells = cellsFrom (s.heap.objs.size + 1) F.scope.names [] := by rw [<- hfd]; rfl
    generalize callEnvC fd s.heap.objs.size f = env at X esc egl eL eC
    have keep := X.toInCall.keep
    obtain ⟨H₁, tk, es₁⟩ := X.toInCall.same
    have Lb : ∀ x c, env.cells.lookup x = some c -> s.heap.objs.size < c := fun x c hx => by have := X.above x c (lookup_mem hx); rwa [eL] at this
    have kd : ∀ i x kd, F.scope.names[i]? = some (x, kd) -> env.kindOf x = some kd := fun i x kd hx => by unfold Env.kindOf; rw [esc]; exact lookup_of_get nd hx
    have big : ∀ a, s.heap.objs.size ≤ a -> s.heap.get? a = none := fun a ha => by
      cases e : s.heap.get? a with
      | none => rfl
      | some o => exact absurd (Heap.lt_size e) (Nat.not_lt.mpr ha)
    have I : Inv W ⟨F.scope, env, none, W.mt⟩ ⟨initL F.scope.names.length ds, []⟩ (fun i => vs.getD i .none) (fun _ => .none) g s₁.heap := by
      refine ⟨le.trans keep, ok, ⟨esc, hk, egl⟩, nd, ⟨_, X.toInCall.ns, fun i x l hx hl => ?_⟩, le.none (by rw [eL]; exact size_none), fun i x hx => ?_, fun x c hx => ⟨le.none (big _ (Nat.le_of_lt (Lb x c hx))), _, X.cell x c hx⟩, fun x y c => cells_inj X.apart, fun i l hl => ?_, fun i j li lj a hi hj h1 _ => ?_, fun _ _ _ q => (by cases q), ⟨fun a ha => ha, fun a ha => ⟨(mu a ha).1, (mu a ha).2.keeps keep⟩⟩⟩
      · obtain ⟨d', hd, rfl⟩ := initL_get hl
        have hi : i < n := by have := (List.getElem?_eq_some_iff.mp hd).1; lia
        obtain ⟨v, hv, _⟩ := r.get hd
        refine bindL_get (kd i x _ hx) _ _ zn (.inl (zip_mem (pget i x _ hi hx) ?_))
        simp [List.getD, hv]
      · have hc := cellsFrom_some F.scope.names (s.heap.objs.size + 1) [] (.inl (lookup_of_get nd hx))
        rw [<- eC] at hc
        obtain ⟨c, hc⟩ := Option.isSome_iff_exists.mp hc
        refine ⟨c, _, hc, X.cell x c hc, fun l hl => ?_⟩
        obtain ⟨d', hd, rfl⟩ := initL_get hl
        have hi : i < n := by have := (List.getElem?_eq_some_iff.mp hd).1; lia
        obtain ⟨v, hv, _⟩ := r.get hd
        refine bindC_get (kd i x _ hx) _ _ zn (.inl (zip_mem (pget i x _ hi hx) ?_))
        simp [List.getD, hv]
      · obtain ⟨d', hd, rfl⟩ := initL_get hl
        obtain ⟨v, hv, hr⟩ := r.get hd
        simpa [LocRep, List.getD, hv] using hr
      · obtain ⟨d', hd, rfl⟩ := initL_get hi
        simp [ownA] at h1
    have nofp : ∀ a o, ¬ W.mt a -> s.heap.get? a = some o -> ¬ Fp ⟨F.scope, env, none, W.mt⟩ ⟨initL F.scope.names.length ds, []⟩ (fun i => vs.getD i .none) a := by
      rintro a o hm ha (q | ⟨x, hx⟩ | ⟨i, l, hl, h⟩ | ⟨_, _, q⟩ | q)
      · simp only at q; rw [eL] at q; subst q; rw [size_none] at ha; cases ha
      · rw [big a (Nat.le_of_lt (Lb x a hx))] at ha; cases ha
      · obtain ⟨d', hd, rfl⟩ := initL_get hl; simp [ownA] at h
      · cases q
      · exact hm q
    have R' := R.deeper env
    refine hB _ _ _ h1 (A.deeper env) ⟨F.scope, env, none, W.mt⟩ _ _ g s₁ _ _ R' rfl rfl I fun flow vals' g' s' st I' fr => ?_
    have keep' : ∀ b o, ¬ W.mt b -> s.heap.get? b = some o -> s'.heap.get? b = some o := fun b o hm e => st.hh b o (nofp b o hm e) (keep b o e)
    have mu' : ∀ a, W.mt a -> g'.get? a = none ∧ Tab s'.heap a := fun a ha => I'.mu.2 a ha
    have G : IStep W.mt g s g' s' := by
      refine ⟨st.gg, keep', fun a o ha e => ?_, fun a hm e => ?_, I'.le, ?_, ?_⟩
      · by_cases hm : W.mt a
        · exact (mu' a hm).1
        · exact st.gn a o (keep a o ha) (nofp a o hm ha) e
      · cases q : s.heap.get? a with
        | none => rfl
        | some o => rw [keep' a o hm q] at e; cases e
      · rw [st.os, es₁]
      · intro q; exact st.gens (by rw [es₁]; exact q)
    cases fl with
    | next => simp only [FlRep] at fr; subst fr; subst h2; exact K _ _ _ G mu' .none
    | ret d' => obtain ⟨v, rfl, hv⟩ := fr; subst h2; exact K _ _ _ G mu' hv
theorem OpM.N {W : Wd} {k : Nat} {t : List Value -> Sem Value} {o : List PyData -> Option PyData} (hW : ∀ a, ¬ W.mt a) (h : OpM W k t o) : OpN W k t o :=
  fun ds d hd A g s vs Q E R ok le r K => h ds d hd A g s vs Q E R ok le (fun a ha => (hW a ha).elim) r fun v g' s' y _ r' => K v g' s' ⟨fun b o e => y.hh b o (hW b) e, y.os, y.gens, y.gg, y.le, y.gn⟩ r'
theorem fn_ok {W : Wd} {k : Nat} {f : Addr} {F : FnDef} {fB : List (Option Loc) -> Option (Fl × List (Option Loc))} {n : Nat} (hf : ∀ g, WOK W g -> FnAt g f F) (hB : Exs W k F.scope F.body fB)
    (hk : F.scope.kind = .function) (hco : F.scope.isCoroutine = false) (hgen : F.scope.isGenerator = false) (nd : (F.scope.names.map (·.1)).Nodup)
    (hps : F.params.args.map (·.arg) = (F.scope.names.take n).map (·.1)) (hkinds : (F.scope.names.take n).all (fun x => x.2 == .local || x.2 == .cell) = true)
    (hbind : ∀ vs : List Value, vs.length = n -> ∀ pm code doc, bindArgs (docDef F.name F.params F.body F.scope pm code doc) ⟨vs, []⟩ = pure ((F.params.args.map (·.arg)).zip vs))
    (hn : n ≤ F.scope.names.length) (hW : ∀ a, ¬ W.mt a) : OpN W (k + 1) (fun vs => call (.ref f) vs) (fnA n F.scope.names.length fB) :=
  OpM.N hW (fn_okM hf hB hk hco hgen nd hps hkinds hbind hn)
section
variable {W : Wd} {k : Nat} {sc : Scope} {cs : Option Scope}
theorem mt_step {cx : Cx} {S : St} {vals cv : Nat -> Value} {g g' : Heap} {s s' : Shared} (I : Inv W cx S vals cv g s.heap) (Y : IStep W.mt g s g' s') (hT : ∀ a, W.mt a -> g'.get? a = none ∧ Tab s'.heap a) :
    Step (Fp cx S vals) g s (Fp cx S vals) g' s' ∧ Inv W cx S vals cv g' s'.heap := p_step I Y I.mu.1 fun a ha => (hT a ha).2
theorem ev_callM {x : Str} {np pos : Pos} {e : Expr} {es : List Expr} {f : St -> Option (List PyData × St)} {o : List PyData -> Option PyData} {a : Addr} {F : FnDef} (hr : resolve sc cs x = some .glob) (hg : (x, .ref a) ∈ W.globs) (hf : ∀ g, WOK W g -> FnAt g a F)
    (he : EvL W k sc cs (e :: es) f) (ho : OpM W k (fun vs => call (.ref a) vs) o) (hs : ∀ env, starEach (e :: es) env = (false, eval e env) :: starEach es env) : Ev W k sc cs (.Call (.Name x np) (e :: es) [] pos) (callF o f) := by
  intro S d S' h A cx vals cv g s Q E R e1 e2 I K
  obtain ⟨l, h1, h2⟩ := callF_some h
  subst e1 e2
  refine wpAny_Call_NameR (I.loadGlob hr hg ?_)
  obtain ⟨ob, pm, code, doc, f1, f2, _⟩ := hf g I.wok
  refine callWith_def f2 (he _ _ _ h1 pos A cx vals cv g s _ E R rfl rfl I fun vs g' s' st I' r => ⟨I'.le _ _ (st.gg _ _ f1), ?_⟩) (hs _)
  refine ho _ _ h2 A g' s' vs Q E R I'.wok I'.le (fun a ha => I'.mu.2 a (I'.mu.1 a ha)) r fun v g'' s'' G T r' => ?_
  obtain ⟨st', I''⟩ := mt_step I' G T
  exact K _ _ _ (st.trans st') I'' r'
end
structure Env0 (W : Wd) : Prop where
  globs : W.globs = gl
  C : W.C = 122
  at_strcoll : ∀ g, WOK W g -> FnAt g 28 F_strcoll
  at_strxfrm : ∀ g, WOK W g -> FnAt g 35 F_strxfrm
  at_strip : ∀ g, WOK W g -> FnAt g 42 F_strip
  at_isterm : ∀ g, WOK W g -> FnAt g 136 F_isterm
  at_isnont : ∀ g, WOK W g -> FnAt g 143 F_isnont
  at_iseof : ∀ g, WOK W g -> FnAt g 150 F_iseof
  at_cells : ∀ g, WOK W g -> FnAt g 157 F_cells
  at_pile : ∀ g, WOK W g -> FnAt g 162 F_pile
  at_order : ∀ g, WOK W g -> FnAt g 167 F_order
  at_heights : ∀ g, WOK W g -> FnAt g 172 F_heights
  at_cards : ∀ g, WOK W g -> FnAt g 177 F_cards
  at_rising : ∀ g, WOK W g -> FnAt g 182 F_rising
  at_lnames : ∀ g, WOK W g -> FnAt g 187 F_lnames
  at_where : ∀ g, WOK W g -> FnAt g 192 F_where
  at_bared : ∀ g, WOK W g -> FnAt g 197 F_bared
  at_lines : ∀ g, WOK W g -> FnAt g 202 F_lines
  at_law : ∀ g, WOK W g -> FnAt g 207 F_law
section
variable {W : Wd} (X : Env0 W)
include X
theorem Env0.g_fn_strcoll : (("_strcoll" : Str), (.ref 28 : Value)) ∈ W.globs := by rw [X.globs]; exact List.mem_of_getElem? (i := 0) rfl
theorem Env0.g_fn_strxfrm : (("_strxfrm" : Str), (.ref 35 : Value)) ∈ W.globs := by rw [X.globs]; exact List.mem_of_getElem? (i := 1) rfl
theorem Env0.g_fn_strip : (("_strip_padding" : Str), (.ref 42 : Value)) ∈ W.globs := by rw [X.globs]; exact List.mem_of_getElem? (i := 2) rfl
theorem Env0.g_fn_isterm : (("ISTERMINAL" : Str), (.ref 136 : Value)) ∈ W.globs := by rw [X.globs]; exact List.mem_of_getElem? (i := 3) rfl
theorem Env0.g_fn_isnont : (("ISNONTERMINAL" : Str), (.ref 143 : Value)) ∈ W.globs := by rw [X.globs]; exact List.mem_of_getElem? (i := 4) rfl
theorem Env0.g_fn_iseof : (("ISEOF" : Str), (.ref 150 : Value)) ∈ W.globs := by rw [X.globs]; exact List.mem_of_getElem? (i := 5) rfl
theorem Env0.g_fn_cells : (("_law_cells" : Str), (.ref 157 : Value)) ∈ W.globs := by rw [X.globs]; exact List.mem_of_getElem? (i := 6) rfl
theorem Env0.g_fn_pile : (("_law_pile" : Str), (.ref 162 : Value)) ∈ W.globs := by rw [X.globs]; exact List.mem_of_getElem? (i := 7) rfl
theorem Env0.g_fn_order : (("_law_order" : Str), (.ref 167 : Value)) ∈ W.globs := by rw [X.globs]; exact List.mem_of_getElem? (i := 8) rfl
theorem Env0.g_fn_heights : (("_law_heights" : Str), (.ref 172 : Value)) ∈ W.globs := by rw [X.globs]; exact List.mem_of_getElem? (i := 9) rfl
theorem Env0.g_fn_cards : (("_law_cards" : Str), (.ref 177 : Value)) ∈ W.globs := by rw [X.globs]; exact List.mem_of_getElem? (i := 10) rfl
theorem Env0.g_fn_rising : (("_law_rising" : Str), (.ref 182 : Value)) ∈ W.globs := by rw [X.globs]; exact List.mem_of_getElem? (i := 11) rfl
theorem Env0.g_fn_lnames : (("_law_names" : Str), (.ref 187 : Value)) ∈ W.globs := by rw [X.globs]; exact List.mem_of_getElem? (i := 12) rfl
theorem Env0.g_fn_where : (("_law_where" : Str), (.ref 192 : Value)) ∈ W.globs := by rw [X.globs]; exact List.mem_of_getElem? (i := 13) rfl
theorem Env0.g_fn_bared : (("_law_bared" : Str), (.ref 197 : Value)) ∈ W.globs := by rw [X.globs]; exact List.mem_of_getElem? (i := 14) rfl
theorem Env0.g_fn_lines : (("_law_lines" : Str), (.ref 202 : Value)) ∈ W.globs := by rw [X.globs]; exact List.mem_of_getElem? (i := 15) rfl
theorem Env0.g_cls : (("_Accumulator" : Str), (.ref 122 : Value)) ∈ W.globs := by rw [X.globs]; exact List.mem_of_getElem? (i := 16) rfl
theorem Env0.g_tab : (("EXACT_TOKEN_TYPES" : Str), (.ref 127 : Value)) ∈ W.globs := by rw [X.globs]; exact List.mem_of_getElem? (i := 17) rfl
theorem Env0.g_empty : (("EMPTYSTRING" : Str), (.str (Str.ofString "") 223 : Value)) ∈ W.globs := by rw [X.globs]; exact List.mem_of_getElem? (i := 18) rfl
theorem Env0.g_nt : (("NT_OFFSET" : Str), (.int 256 421 : Value)) ∈ W.globs := by rw [X.globs]; exact List.mem_of_getElem? (i := 19) rfl
theorem Env0.g_em : (("ENDMARKER" : Str), (.int 0 323 : Value)) ∈ W.globs := by rw [X.globs]; exact List.mem_of_getElem? (i := 20) rfl
theorem Env0.g_b_len : (("len" : Str), (.builtin "len" : Value)) ∈ W.globs := by rw [X.globs]; exact List.mem_of_getElem? (i := 21) rfl
theorem Env0.g_b_sum : (("sum" : Str), (.builtin "sum" : Value)) ∈ W.globs := by rw [X.globs]; exact List.mem_of_getElem? (i := 22) rfl
theorem Env0.g_b_max : (("max" : Str), (.builtin "max" : Value)) ∈ W.globs := by rw [X.globs]; exact List.mem_of_getElem? (i := 23) rfl
theorem Env0.g_b_isinstance : (("isinstance" : Str), (.builtin "isinstance" : Value)) ∈ W.globs := by rw [X.globs]; exact List.mem_of_getElem? (i := 24) rfl
theorem Env0.g_b_sorted : (("sorted" : Str), (.builtin "sorted" : Value)) ∈ W.globs := by rw [X.globs]; exact List.mem_of_getElem? (i := 25) rfl
theorem Env0.g_b_bool : (("bool" : Str), (.type "bool" : Value)) ∈ W.globs := by rw [X.globs]; exact List.mem_of_getElem? (i := 26) rfl
theorem Env0.g_b_range : (("range" : Str), (.type "range" : Value)) ∈ W.globs := by rw [X.globs]; exact List.mem_of_getElem? (i := 27) rfl
theorem Env0.g_b_str : (("str" : Str), (.type "str" : Value)) ∈ W.globs := by rw [X.globs]; exact List.mem_of_getElem? (i := 28) rfl
theorem Env0.g_b_enumerate : (("enumerate" : Str), (.type "enumerate" : Value)) ∈ W.globs := by rw [X.globs]; exact List.mem_of_getElem? (i := 29) rfl
end
noncomputable def cI (i : Int) : St -> Option (PyData × St) := fun S => some (.int i, S)
noncomputable def cS (x : Str) : St -> Option (PyData × St) := fun S => some (.str x, S)
noncomputable def cB (b : Bool) : St -> Option (PyData × St) := fun S => some (.bool b, S)
noncomputable def cN : St -> Option (PyData × St) := fun S => some (.none, S)
noncomputable def noP : St -> Option (Option Int × St) := fun S => some (none, S)
noncomputable def lenP (a : Int) (b : List PyData) : Option PyData := (lenO a b).bind fun d => match d with | .int z => if 0 ≤ z ∧ z < 2 ^ 62 then some d else none | _ => none
theorem Env0.clear {W : Wd} (X : Env0 W) : Env0 (W.withMt fun _ => False) where
  globs := X.globs
  C := X.C
  at_strcoll := fun g h => X.at_strcoll g h.withMt
  at_strxfrm := fun g h => X.at_strxfrm g h.withMt
  at_strip := fun g h => X.at_strip g h.withMt
  at_isterm := fun g h => X.at_isterm g h.withMt
  at_isnont := fun g h => X.at_isnont g h.withMt
  at_iseof := fun g h => X.at_iseof g h.withMt
  at_cells := fun g h => X.at_cells g h.withMt
  at_pile := fun g h => X.at_pile g h.withMt
  at_order := fun g h => X.at_order g h.withMt
  at_heights := fun g h => X.at_heights g h.withMt
  at_cards := fun g h => X.at_cards g h.withMt
  at_rising := fun g h => X.at_rising g h.withMt
  at_lnames := fun g h => X.at_lnames g h.withMt
  at_where := fun g h => X.at_where g h.withMt
  at_bared := fun g h => X.at_bared g h.withMt
  at_lines := fun g h => X.at_lines g h.withMt
  at_law := fun g h => X.at_law g h.withMt
theorem lift {W : Wd} {k : Nat} {t : List Value -> Sem Value} {o : List PyData -> Option PyData} (h : OpN (W.withMt fun _ => False) k t o) : OpN W k t o := h.withMt (p := W.mt)
section
variable {W : Wd} {k : Nat} {sc : Scope} {cs : Option Scope}
theorem ev_globI {x : Str} {pos : Pos} {i : Int} {t : Tok} (hr : resolve sc cs x = some .glob) (hv : (x, Value.int i t) ∈ W.globs) : Ev W k sc cs (.Name x pos) (cI i) := by
  intro S d S' h A cx vals cv g s Q E R e1 e2 I K
  subst e1 e2
  cases h
  exact I.loadGlob hr hv (K _ _ _ Step.refl I (.int ..))
theorem ev_callBI {x : Str} {np pos : Pos} {e : Expr} {es : List Expr} {f : St -> Option (List PyData × St)} {o : List PyData -> Option PyData} {id : String} (hr : resolve sc cs x = some .glob) (hg : (x, .builtin id) ∈ W.globs)
    (he : EvL W k sc cs (e :: es) f) (ho : OpI W 0 (fun vs => call (.builtin id) vs) o) (hs : ∀ env, starEach (e :: es) env = (false, eval e env) :: starEach es env) (hp : ∀ env pos, (backTo pos (starEach es env)).any (·.1) = false) : Ev W k sc cs (.Call (.Name x np) (e :: es) [] pos) (callF o f) := by
  intro S d S' h A cx vals cv g s Q E R e1 e2 I K
  obtain ⟨l, h1, h2⟩ := callF_some h
  subst e1 e2
  refine wpAny_Call_NameR (I.loadGlob hr hg ?_)
  refine PyProof.Rows.callWith_builtin1 (he _ _ _ h1 pos A cx vals cv g s _ E R rfl rfl I fun vs g' s' st I' r => ?_) (hs _) (hp _ _)
  exact ho _ _ h2 A cx S' vals cv g' s' vs Q E R.zero I' r fun v g'' s'' st' I'' r' => K _ _ _ (st.trans st') I'' r'
variable {ob e : Expr} {apos pos : Pos} {f : St -> Option (PyData × St)} {g : St -> Option (List PyData × St)}
theorem ev_join (hbase : ∀ env, attributeBase ob "join" env (eval ob env) = eval ob env) (hline : (apos.endLine == pos.line) = true) (ho : Ev W k sc cs ob f) (he : EvL W k sc cs [e] g) (hs : ∀ env, starEach [e] env = [(false, eval e env)]) :
    Ev W k sc cs (.Call (.Attribute ob "join" apos) [e] [] pos) (methF isStrD joinD f g) :=
  ev_meth hbase (fun env => by rw [hs]; rfl) hline hs (fun _ _ => rfl) PySem.F.plainAttrs_str PySem.F.slot_str_join PySem.F.type_str_join ty_str ho he opI_join
theorem ev_lstrip (hbase : ∀ env, attributeBase ob "lstrip" env (eval ob env) = eval ob env) (hline : (apos.endLine == pos.line) = true) (ho : Ev W k sc cs ob f) (he : EvL W k sc cs [e] g) (hs : ∀ env, starEach [e] env = [(false, eval e env)]) :
    Ev W k sc cs (.Call (.Attribute ob "lstrip" apos) [e] [] pos) (methF isStrD lstripD f g) :=
  ev_meth hbase (fun env => by rw [hs]; rfl) hline hs (fun _ _ => rfl) PySem.F.plainAttrs_str PySem.F.slot_str_lstrip PySem.F.type_str_lstrip ty_str ho he opI_lstrip
theorem ev_split (hbase : ∀ env, attributeBase ob "split" env (eval ob env) = eval ob env) (hline : (apos.endLine == pos.line) = true) (ho : Ev W k sc cs ob f) (he : EvL W k sc cs [e] g) (hs : ∀ env, starEach [e] env = [(false, eval e env)]) :
    Ev W k sc cs (.Call (.Attribute ob "split" apos) [e] [] pos) (methF isStrD splitD f g) :=
  ev_meth hbase (fun env => by rw [hs]; rfl) hline hs (fun _ _ => rfl) PySem.F.plainAttrs_str PySem.F.slot_str_split PySem.F.type_str_split ty_str ho he opI_split
theorem ev_index (hbase : ∀ env, attributeBase ob "index" env (eval ob env) = eval ob env) (hline : (apos.endLine == pos.line) = true) (ho : Ev W k sc cs ob f) (he : EvL W k sc cs [e] g) (hs : ∀ env, starEach [e] env = [(false, eval e env)]) :
    Ev W k sc cs (.Call (.Attribute ob "index" apos) [e] [] pos) (methF isLstD indexD f g) :=
  ev_meth hbase (fun env => by rw [hs]; rfl) hline hs (fun _ _ => rfl) PySem.F.plainAttrs_list PySem.F.slot_list_index PySem.F.type_list_index ty_list ho he opI_index
end
theorem sw_false {sc cs : Scope} {elt : Expr} {gens : List Comprehension} {p tp : Pos} {t : Str} {line : Nat} (h : (sc.names.lookup t == some .local && tp.line == p.line && !(cs.names.any fun (n, k) => n == t && (k == .local || k == .cell))) = false) :
    ∀ env : Env, env.scope = sc -> swapsWith (.ListComp elt gens cs p) (some (.Name t tp)) line env = pure false := fun env e => by
  show (pure (env.blockKind == .function && env.scope.names.lookup t == some .local && tp.line == p.line && !(cs.names.any fun (n, k) => n == t && (k == .local || k == .cell))) : Sem Bool) = _
  rw [e, Bool.and_assoc, Bool.and_assoc, <- Bool.and_assoc (List.lookup t sc.names == some .local), h, Bool.and_false]
theorem sw_true {sc cs : Scope} {elt : Expr} {gens : List Comprehension} {p tp : Pos} {t : Str} {line : Nat} (hk : sc.kind = .function) (h : (sc.names.lookup t == some .local && tp.line == p.line && !(cs.names.any fun (n, k) => n == t && (k == .local || k == .cell))) = true) :
    ∀ env : Env, env.scope = sc -> swapsWith (.ListComp elt gens cs p) (some (.Name t tp)) line env = pure true := fun env e => by
  show (pure (env.blockKind == .function && env.scope.names.lookup t == some .local && tp.line == p.line && !(cs.names.any fun (n, k) => n == t && (k == .local || k == .cell))) : Sem Bool) = _
  have hb : (env.blockKind == .function) = true := by unfold Env.blockKind; rw [e, hk]; rfl
  rw [e, Bool.and_assoc, Bool.and_assoc, <- Bool.and_assoc (List.lookup t sc.names == some .local), h, hb]; rfl
theorem aug_add {W : Wd} (A : Around) (a : Int) (t : Tok) (b : Int) (u : Tok) (Q : Value -> Shared -> Prop) (E : Value -> Shared -> Prop) (s : Shared) (h : Q (.int (a + b) s.toks) { s with toks := s.toks + 1 }) : wpAny W.M A (inplaceOp .Add (.int a t) (.int b u)) Q E s :=
  AutoIntOps.iadd_0 h
theorem aug_sub {W : Wd} (A : Around) (a : Int) (t : Tok) (b : Int) (u : Tok) (Q : Value -> Shared -> Prop) (E : Value -> Shared -> Prop) (s : Shared) (h : Q (.int (a - b) s.toks) { s with toks := s.toks + 1 }) : wpAny W.M A (inplaceOp .Sub (.int a t) (.int b u)) Q E s :=
  AutoIntOps.isub_0 h
theorem form_pos {o : Expr} {env : Env} {apos pos : Pos} (hline : (apos.endLine == pos.line) = true) : methodCallPos true o env apos pos = pure pos := by unfold methodCallPos; simp [hline]
theorem mcall {attr : Str} {o : Expr} {args : List Expr} {apos pos : Pos} (hbase : ∀ env, attributeBase o attr env (eval o env) = eval o env) (hfew : ∀ env, methodCallForm args.length (backTo pos (starEach args env)) [] = true) (hline : (apos.endLine == pos.line) = true) :
    MCall attr o args (.Call (.Attribute o attr apos) args [] pos) := by
  refine ⟨apos, pos, rfl, fun env => ⟨(do return (<- importBound o env).getD true), ?_⟩⟩
  rw [arm_eval_Call, hbase]
  have e : ∀ ov, methodCall o attr apos pos env ov (args.length + ([] : List Keyword).length) (backTo pos (starEach args env)) (backToKw pos (keywordEach [] env)) = (do
      let (f, first) <- holding [ov] (getMethod ov attr (do return (<- importBound o env).getD true))
      callWith pos f first (backTo pos (starEach args env)) []) := fun ov => by
    unfold methodCall
    have hf : methodCallForm (args.length + ([] : List Keyword).length) (backTo pos (starEach args env)) (backToKw pos (keywordEach [] env)) = true := hfew env
    rw [hf, form_pos hline]
    rfl
  simp only [e]
theorem scall {attr : Str} {p0 p1 apos pos : Pos} (hline : (apos.endLine == pos.line) = true) :
    SupCall attr (.Call (.Attribute (.Call (.Name "super" p0) [] [] p1) attr apos) [] [] pos) := by
  refine ⟨p0, p1, apos, pos, rfl, fun env => ⟨(do return (<- importBound (.Call (.Name "super" p0) [] [] p1) env).getD true), ?_⟩⟩
  rw [arm_eval_Call]
  have e : ∀ ov, methodCall (.Call (.Name "super" p0) [] [] p1) attr apos pos env ov (([] : List Expr).length + ([] : List Keyword).length) (backTo pos (starEach [] env)) (backToKw pos (keywordEach [] env)) = (do
      let (f, first) <- holding [ov] (getMethod ov attr (do return (<- importBound (.Call (.Name "super" p0) [] [] p1) env).getD true))
      callWith pos f first (backTo pos (starEach [] env)) []) := fun ov => by
    unfold methodCall
    have hf : methodCallForm (([] : List Expr).length + ([] : List Keyword).length) (backTo pos (starEach [] env)) (backToKw pos (keywordEach [] env)) = true := rfl
    rw [hf, form_pos hline]
    rfl
  simp only [e]
noncomputable def t_strcoll_1 : L -> Option (Fl × L) := (retF (bin2 subD (bin2 gtD (nameF 0) (nameF 1)) (bin2 ltD (nameF 0) (nameF 1))))
noncomputable def m_strcoll : L -> Option (Fl × L) :=
  (seqF t_strcoll_1 nextF)
noncomputable def o_strcoll : List PyData -> Option PyData := fnA 2 2 m_strcoll
theorem d_strcoll {W : Wd} (X : Env0 W) (k : Nat) : Exs W k F_strcoll.scope F_strcoll.body m_strcoll :=
  (exs_cons (ex_return (ev_bin (ev_cmp1 (ev_name (by decide +kernel)) (ev_name (by decide +kernel)) op2_gt rfl) (ev_cmp1 (ev_name (by decide +kernel)) (ev_name (by decide +kernel)) op2_lt rfl) op2_sub))
  exs_nil)
theorem ok_strcoll {W : Wd} (X : Env0 W) (k : Nat) : OpN W (k + 1) (fun vs => call (.ref 28) vs) o_strcoll :=
  lift (fn_ok (n := 2) X.clear.at_strcoll (d_strcoll X.clear k) rfl rfl rfl (by decide +kernel) (by decide +kernel) (by decide +kernel) (len2 fun a0 a1 pm code doc => rfl) (by decide +kernel) (fun _ h => h))
noncomputable def t_strxfrm_1 : L -> Option (Fl × L) := (retF (nameF 0))
noncomputable def m_strxfrm : L -> Option (Fl × L) :=
  (seqF t_strxfrm_1 nextF)
noncomputable def o_strxfrm : List PyData -> Option PyData := fnA 1 1 m_strxfrm
theorem d_strxfrm {W : Wd} (X : Env0 W) (k : Nat) : Exs W k F_strxfrm.scope F_strxfrm.body m_strxfrm :=
  (exs_cons (ex_return (ev_name (by decide +kernel)))
  exs_nil)
theorem ok_strxfrm {W : Wd} (X : Env0 W) (k : Nat) : OpN W (k + 1) (fun vs => call (.ref 35) vs) o_strxfrm :=
  lift (fn_ok (n := 1) X.clear.at_strxfrm (d_strxfrm X.clear k) rfl rfl rfl (by decide +kernel) (by decide +kernel) (by decide +kernel) (len1 fun a0 pm code doc => rfl) (by decide +kernel) (fun _ h => h))
noncomputable def t_strip_1 : L -> Option (Fl × L) := (asgF 2 (cI 0))
noncomputable def t_strip_2 : L -> Option (Fl × L) := (augF 2 (fun a b => a + b) (cI 1))
noncomputable def t_strip_3 : L -> Option (Fl × L) := (augF 1 (fun a b => a - b) (cI 1))
noncomputable def t_strip_4 : L -> Option (Fl × L) := (whileF (andF (tstF (nameF 1)) (tstF (bin2 eqD (bin2 itemD (nameF 0) (nameF 2)) (cS " ")))) (seqF t_strip_2 (seqF t_strip_3 nextF)) 1000)
noncomputable def t_strip_5 : L -> Option (Fl × L) := (asgF 3 (bin2 subD (callF lenD (consL (nameF 0) nilL)) (cI 1)))
noncomputable def t_strip_6 : L -> Option (Fl × L) := (augF 3 (fun a b => a - b) (cI 1))
noncomputable def t_strip_7 : L -> Option (Fl × L) := (augF 1 (fun a b => a - b) (cI 1))
noncomputable def t_strip_8 : L -> Option (Fl × L) := (whileF (andF (tstF (nameF 1)) (tstF (bin2 eqD (bin2 itemD (nameF 0) (nameF 3)) (cS " ")))) (seqF t_strip_6 (seqF t_strip_7 nextF)) 1000)
noncomputable def t_strip_9 : L -> Option (Fl × L) := (retF (cutF (nameF 0) (intP (nameF 2)) (intP (bin2 addD (nameF 3) (cI 1)))))
noncomputable def m_strip : L -> Option (Fl × L) :=
  (seqF t_strip_1 (seqF t_strip_4 (seqF t_strip_5 (seqF t_strip_8 (seqF t_strip_9 nextF)))))
noncomputable def o_strip : List PyData -> Option PyData := fnA 2 5 m_strip
theorem d_strip {W : Wd} (X : Env0 W) (k : Nat) : Exs W k F_strip.scope F_strip.body m_strip :=
  (exs_cons (ex_assign (by decide +kernel) ev_int (fun _ _ => rfl))
  (exs_cons (ex_while 1000 (tst_and2 (tst_plain (ev_name (by decide +kernel)) (fun _ _ => rfl)) (tst_cmp1 (ev_sub (ev_name (by decide +kernel)) (ev_name (by decide +kernel)) (op2_item (fun _ _ => rfl))) ev_str op2_eq rfl)) (exs_cons (ex_aug (fun a b => a + b) aug_add (by decide +kernel) ev_int)
  (exs_cons (ex_aug (fun a b => a - b) aug_sub (by decide +kernel) ev_int)
  exs_nil)))
  (exs_cons (ex_assign (by decide +kernel) (ev_bin (ev_callB (by decide +kernel) X.g_b_len (evL_cons (ev_name (by decide +kernel)) evL_nil (fun _ => rfl)) opN_len (fun _ => rfl) (fun _ _ => rfl)) ev_int op2_sub) (fun _ _ => rfl))
  (exs_cons (ex_while 1000 (tst_and2 (tst_plain (ev_name (by decide +kernel)) (fun _ _ => rfl)) (tst_cmp1 (ev_sub (ev_name (by decide +kernel)) (ev_name (by decide +kernel)) (op2_item (fun _ _ => rfl))) ev_str op2_eq rfl)) (exs_cons (ex_aug (fun a b => a - b) aug_sub (by decide +kernel) ev_int)
  (exs_cons (ex_aug (fun a b => a - b) aug_sub (by decide +kernel) ev_int)
  exs_nil)))
  (exs_cons (ex_return (ev_cut (ev_name (by decide +kernel)) (evP_some (ev_name (by decide +kernel))) (evP_some (ev_bin (ev_name (by decide +kernel)) ev_int op2_add))))
  exs_nil)))))
theorem ok_strip {W : Wd} (X : Env0 W) (k : Nat) : OpN W (k + 1) (fun vs => call (.ref 42) vs) o_strip :=
  lift (fn_ok (n := 2) X.clear.at_strip (d_strip X.clear k) rfl rfl rfl (by decide +kernel) (by decide +kernel) (by decide +kernel) (len2 fun a0 a1 pm code doc => rfl) (by decide +kernel) (fun _ h => h))
noncomputable def t_isterm_1 : L -> Option (Fl × L) := (retF (bin2 ltD (nameF 0) (cI 256)))
noncomputable def m_isterm : L -> Option (Fl × L) :=
  (seqF t_isterm_1 nextF)
noncomputable def o_isterm : List PyData -> Option PyData := fnA 1 2 m_isterm
theorem d_isterm {W : Wd} (X : Env0 W) (k : Nat) : Exs W k F_isterm.scope F_isterm.body m_isterm :=
  (exs_cons (ex_return (ev_cmp1 (ev_name (by decide +kernel)) (ev_globI (by decide +kernel) X.g_nt) op2_lt rfl))
  exs_nil)
theorem ok_isterm {W : Wd} (X : Env0 W) (k : Nat) : OpN W (k + 1) (fun vs => call (.ref 136) vs) o_isterm :=
  lift (fn_ok (n := 1) X.clear.at_isterm (d_isterm X.clear k) rfl rfl rfl (by decide +kernel) (by decide +kernel) (by decide +kernel) (len1 fun a0 pm code doc => rfl) (by decide +kernel) (fun _ h => h))
noncomputable def t_isnont_1 : L -> Option (Fl × L) := (retF (bin2 geD (nameF 0) (cI 256)))
noncomputable def m_isnont : L -> Option (Fl × L) :=
  (seqF t_isnont_1 nextF)
noncomputable def o_isnont : List PyData -> Option PyData := fnA 1 2 m_isnont
theorem d_isnont {W : Wd} (X : Env0 W) (k : Nat) : Exs W k F_isnont.scope F_isnont.body m_isnont :=
  (exs_cons (ex_return (ev_cmp1 (ev_name (by decide +kernel)) (ev_globI (by decide +kernel) X.g_nt) op2_ge rfl))
  exs_nil)
theorem ok_isnont {W : Wd} (X : Env0 W) (k : Nat) : OpN W (k + 1) (fun vs => call (.ref 143) vs) o_isnont :=
  lift (fn_ok (n := 1) X.clear.at_isnont (d_isnont X.clear k) rfl rfl rfl (by decide +kernel) (by decide +kernel) (by decide +kernel) (len1 fun a0 pm code doc => rfl) (by decide +kernel) (fun _ h => h))
noncomputable def t_iseof_1 : L -> Option (Fl × L) := (retF (bin2 eqD (nameF 0) (cI 0)))
noncomputable def m_iseof : L -> Option (Fl × L) :=
  (seqF t_iseof_1 nextF)
noncomputable def o_iseof : List PyData -> Option PyData := fnA 1 2 m_iseof
theorem d_iseof {W : Wd} (X : Env0 W) (k : Nat) : Exs W k F_iseof.scope F_iseof.body m_iseof :=
  (exs_cons (ex_return (ev_cmp1 (ev_name (by decide +kernel)) (ev_globI (by decide +kernel) X.g_em) op2_eq rfl))
  exs_nil)
theorem ok_iseof {W : Wd} (X : Env0 W) (k : Nat) : OpN W (k + 1) (fun vs => call (.ref 150) vs) o_iseof :=
  lift (fn_ok (n := 1) X.clear.at_iseof (d_iseof X.clear k) rfl rfl rfl (by decide +kernel) (by decide +kernel) (by decide +kernel) (len1 fun a0 pm code doc => rfl) (by decide +kernel) (fun _ h => h))
noncomputable def t_cells_1 : L -> Option (Fl × L) := (asgO 1 (lstF (consL (cI 301) (consL (cI 114) nilL))))
noncomputable def t_cells_2 : L -> Option (Fl × L) := (setitF 1 (bin2 addD (subOwn 1 (bin2 modD (nameF 2) (cI 2))) (nameF 3)) (bin2 modD (nameF 2) (cI 2)))
noncomputable def t_cells_3 : L -> Option (Fl × L) := (forF (enmF (consL (nameF 0) nilL)) (tgtT [2, 3]) (seqF t_cells_2 nextF))
noncomputable def t_cells_4 : L -> Option (Fl × L) := (retF (nameF 1))
noncomputable def m_cells : L -> Option (Fl × L) :=
  (seqF t_cells_1 (seqF t_cells_3 (seqF t_cells_4 nextF)))
noncomputable def o_cells : List PyData -> Option PyData := fnA 1 5 m_cells
theorem d_cells {W : Wd} (X : Env0 W) (k : Nat) : Exs W k F_cells.scope F_cells.body m_cells :=
  (exs_cons (ex_assignO (by decide +kernel) (evO_list (evL_cons ev_int (evL_cons ev_int evL_nil (fun _ => rfl)) (fun _ => rfl))) (fun _ _ => rfl))
  (exs_cons (ex_for (evIt_enum (by decide +kernel) X.g_b_enumerate (evL_cons (ev_name (by decide +kernel)) evL_nil (fun _ => rfl)) (fun _ => rfl)) (asg_tup [("place", 2), ("number", 3)] (fun _ => (.cons (.cons .nil))) (by decide +kernel)) (exs_cons (ex_setit (by decide +kernel) (ev_bin (ev_subOwn (by decide +kernel) (ev_bin (ev_name (by decide +kernel)) ev_int op2_mod) (fun _ _ => rfl)) (ev_name (by decide +kernel)) op2_add) (ev_bin (ev_name (by decide +kernel)) ev_int op2_mod) (fun _ => rfl))
  exs_nil) (fun _ _ => rfl))
  (exs_cons (ex_return (ev_name (by decide +kernel)))
  exs_nil)))
theorem ok_cells {W : Wd} (X : Env0 W) (k : Nat) : OpN W (k + 1) (fun vs => call (.ref 157) vs) o_cells :=
  lift (fn_ok (n := 1) X.clear.at_cells (d_cells X.clear k) rfl rfl rfl (by decide +kernel) (by decide +kernel) (by decide +kernel) (len1 fun a0 pm code doc => rfl) (by decide +kernel) (fun _ h => h))
noncomputable def t_order_1 : L -> Option (Fl × L) := (tupR [3, 4, 5] (consX (ownX (compF 2 1 (itF (nameF 1)) (emitF trueF (cmpF 1)))) (consX (ownX (lstF nilL)) (consX (ownX (lstF nilL)) nilX))))
noncomputable def t_order_2 : L -> Option (Fl × L) := (exprF (appF 4 (methF isStrD joinD (cS "") (consL (ofO (compOwnF 3 1 3 (emitF trueF (bin2 addD (nameF 2) (cmpF 1))))) nilL))))
noncomputable def t_order_3 : L -> Option (Fl × L) := (asgF 7 (bin2 itemD (nameF 0) (bin2 modD (nameF 6) (callF lenD (consL (nameF 0) nilL)))))
noncomputable def t_order_4 : L -> Option (Fl × L) := (asgF 8 (popF 3))
noncomputable def t_order_5 : L -> Option (Fl × L) := (exprF (insF 3 (consL (bin2 subD (bin2 addD (lenOwn 3) (cI 1)) (nameF 7)) (consL (nameF 8) nilL))))
noncomputable def t_order_6 : L -> Option (Fl × L) := (condF (tstF (bin2 neD (nameF 7) (cI 0))) (seqF t_order_4 (seqF t_order_5 nextF)) nextF)
noncomputable def t_order_7 : L -> Option (Fl × L) := (exprF (appF 5 (ofO (compF 3 1 (itF (ofO (cutOwn 3 (intP (bin2 subD (lenOwn 3) (nameF 7)))))) (emitF trueF (tupF (consL (nameF 2) (consL (cmpF 1) nilL))))))))
noncomputable def t_order_8 : L -> Option (Fl × L) := (forF (rngF (consL (bin2 mulD (callF lenD (consL (nameF 0) nilL)) (bin2 addD (callF lenD (consL (nameF 1) nilL)) (cI 1))) nilL)) (tgtN 6) (seqF t_order_2 (seqF t_order_3 (seqF t_order_6 (seqF t_order_7 nextF)))))
noncomputable def t_order_9 : L -> Option (Fl × L) := (retF (tupF (consL (nameF 4) (consL (nameF 5) nilL))))
noncomputable def m_order : L -> Option (Fl × L) :=
  (seqF t_order_1 (seqF t_order_8 (seqF t_order_9 nextF)))
noncomputable def o_order : List PyData -> Option PyData := fnA 3 11 m_order
theorem d_order {W : Wd} (X : Env0 W) (k : Nat) : Exs W k F_order.scope F_order.body m_order :=
  (exs_cons (ex_tupR [("order", 3), ("texts", 4), ("taken", 5)] (evXs_cons (evX_own (evO_comp (nn := 2) (evIt_val (ev_name (by decide +kernel))) turn1 (cb_emit tstI_nil (ev_cmp (by decide +kernel))) (by decide +kernel) (by decide +kernel) (fun _ _ => rfl))) (evXs_cons (evX_own (evO_list evL_nil)) (evXs_cons (evX_own (evO_list evL_nil)) evXs_nil (fun _ => rfl)) (fun _ => rfl)) (fun _ => rfl)) (by decide +kernel) (fun _ _ => rfl) (fun env h => by cases env; cases h; kernel_rfl))
  (exs_cons (ex_for (evIt_range (by decide +kernel) X.g_b_range (evL_cons (ev_bin (ev_callB (by decide +kernel) X.g_b_len (evL_cons (ev_name (by decide +kernel)) evL_nil (fun _ => rfl)) opN_len (fun _ => rfl) (fun _ _ => rfl)) (ev_bin (ev_callB (by decide +kernel) X.g_b_len (evL_cons (ev_name (by decide +kernel)) evL_nil (fun _ => rfl)) opN_len (fun _ => rfl) (fun _ _ => rfl)) ev_int op2_add) op2_mul) evL_nil (fun _ => rfl)) (fun _ => rfl) (fun _ _ => rfl)) (asg_name (by decide +kernel)) (exs_cons (ex_expr (ev_append (by decide +kernel) rfl rfl (fun _ => rfl) (ev_join (fun _ => rfl) rfl ev_str (evL_cons (ev_ofO (evO_compOwn (nn := 3) (by decide +kernel) turn1 (cb_emit tstI_nil (ev_bin (ev_name (by decide +kernel)) (ev_cmp (by decide +kernel)) op2_add)) (by decide +kernel) (by decide +kernel))) evL_nil (fun _ => rfl)) (fun _ => rfl))) (fun _ => rfl))
  (exs_cons (ex_assign (by decide +kernel) (ev_sub (ev_name (by decide +kernel)) (ev_bin (ev_name (by decide +kernel)) (ev_callB (by decide +kernel) X.g_b_len (evL_cons (ev_name (by decide +kernel)) evL_nil (fun _ => rfl)) opN_len (fun _ => rfl) (fun _ _ => rfl)) op2_mod) (op2_item (fun _ _ => rfl))) (fun _ _ => rfl))
  (exs_cons (ex_if (tst_cmp1 (ev_name (by decide +kernel)) ev_int op2_ne rfl) (exs_cons (ex_assign (by decide +kernel) (ev_popOwn (by decide +kernel) rfl rfl) (fun _ _ => rfl))
  (exs_cons (ex_expr (ev_insert (by decide +kernel) rfl rfl (fun _ => rfl) (evL_cons (ev_bin (ev_bin (ev_lenOwn (by decide +kernel) X.g_b_len (by decide +kernel)) ev_int op2_add) (ev_name (by decide +kernel)) op2_sub) (evL_cons (ev_name (by decide +kernel)) evL_nil (fun _ => rfl)) (fun _ => rfl))) (fun _ => rfl))
  exs_nil)) exs_nil)
  (exs_cons (ex_expr (ev_append (by decide +kernel) rfl rfl (fun _ => rfl) (ev_ofO (evO_comp (nn := 3) (evIt_val (ev_ofO (evO_cutOwn (by decide +kernel) (evP_some (ev_bin (ev_lenOwn (by decide +kernel) X.g_b_len (by decide +kernel)) (ev_name (by decide +kernel)) op2_sub))))) turn1 (cb_emit tstI_nil (ev_tuple (evL_cons (ev_name (by decide +kernel)) (evL_cons (ev_cmp (by decide +kernel)) evL_nil (fun _ => rfl)) (fun _ => rfl)))) (by decide +kernel) (by decide +kernel) (fun _ _ => rfl)))) (fun _ => rfl))
  exs_nil)))) (fun _ _ => rfl))
  (exs_cons (ex_return (ev_tuple (evL_cons (ev_name (by decide +kernel)) (evL_cons (ev_name (by decide +kernel)) evL_nil (fun _ => rfl)) (fun _ => rfl))))
  exs_nil)))
theorem ok_order {W : Wd} (X : Env0 W) (k : Nat) : OpN W (k + 1) (fun vs => call (.ref 167) vs) o_order :=
  lift (fn_ok (n := 3) X.clear.at_order (d_order X.clear k) rfl rfl rfl (by decide +kernel) (by decide +kernel) (by decide +kernel) (len3 fun a0 a1 a2 pm code doc => rfl) (by decide +kernel) (fun _ h => h))
noncomputable def t_heights_1 : L -> Option (Fl × L) := (asgO 2 (lstF nilL))
noncomputable def t_heights_2 : L -> Option (Fl × L) := (asgO 4 (compF 4 1 (rngF (consL (bin2 addD (nameF 3) (cI 1)) (consL (callF lenD (consL (nameF 0) nilL)) nilL))) (emitF (tstF (bin2 eqD (bin2 itemD (nameF 0) (cmpF 1)) (bin2 itemD (nameF 0) (nameF 3)))) (bin2 subD (cmpF 1) (nameF 3)))))
noncomputable def t_heights_3 : L -> Option (Fl × L) := (exprF (appF 2 (ifF (tstF (bin2 eqD (bin2 itemD (nameF 0) (nameF 3)) (cS ""))) (cI 0) (subOwn 4 (cI 0)))))
noncomputable def t_heights_4 : L -> Option (Fl × L) := (forF (rngF (consL (nameF 1) nilL)) (tgtN 3) (seqF t_heights_2 (seqF t_heights_3 nextF)))
noncomputable def t_heights_5 : L -> Option (Fl × L) := (retF (nameF 2))
noncomputable def m_heights : L -> Option (Fl × L) :=
  (seqF t_heights_1 (seqF t_heights_4 (seqF t_heights_5 nextF)))
noncomputable def o_heights : List PyData -> Option PyData := fnA 2 7 m_heights
theorem d_heights {W : Wd} (X : Env0 W) (k : Nat) : Exs W k F_heights.scope F_heights.body m_heights :=
  (exs_cons (ex_assignO (by decide +kernel) (evO_list evL_nil) (fun _ _ => rfl))
  (exs_cons (ex_for (evIt_range (by decide +kernel) X.g_b_range (evL_cons (ev_name (by decide +kernel)) evL_nil (fun _ => rfl)) (fun _ => rfl) (fun _ _ => rfl)) (asg_name (by decide +kernel)) (exs_cons (ex_compUse (nn := 4) (evIt_range (by decide +kernel) X.g_b_range (evL_cons (ev_bin (ev_name (by decide +kernel)) ev_int op2_add) (evL_cons (ev_callB (by decide +kernel) X.g_b_len (evL_cons (ev_name (by decide +kernel)) evL_nil (fun _ => rfl)) opN_len (fun _ => rfl) (fun _ _ => rfl)) evL_nil (fun _ => rfl)) (fun _ => rfl)) (fun _ => rfl) (fun _ _ => rfl)) turn1 (cb_emit (tstI_one (tst_cmp1 (ev_sub (ev_name (by decide +kernel)) (ev_cmp (by decide +kernel)) (op2_item (fun _ _ => rfl))) (ev_sub (ev_name (by decide +kernel)) (ev_name (by decide +kernel)) (op2_item (fun _ _ => rfl))) op2_eq rfl)) (ev_bin (ev_cmp (by decide +kernel)) (ev_name (by decide +kernel)) op2_sub)) (by decide +kernel) (by decide +kernel) (fun _ _ => rfl) (by decide +kernel) (sw_true rfl (by decide +kernel)))
  (exs_cons (ex_expr (ev_append (by decide +kernel) rfl rfl (fun _ => rfl) (ev_ifexp (tst_cmp1 (ev_sub (ev_name (by decide +kernel)) (ev_name (by decide +kernel)) (op2_item (fun _ _ => rfl))) ev_str op2_eq rfl) ev_int (ev_subOwn (by decide +kernel) ev_int (fun _ _ => rfl)))) (fun _ => rfl))
  exs_nil)) (fun _ _ => rfl))
  (exs_cons (ex_return (ev_name (by decide +kernel)))
  exs_nil)))
theorem ok_heights {W : Wd} (X : Env0 W) (k : Nat) : OpN W (k + 1) (fun vs => call (.ref 172) vs) o_heights :=
  lift (fn_ok (n := 2) X.clear.at_heights (d_heights X.clear k) rfl rfl rfl (by decide +kernel) (by decide +kernel) (by decide +kernel) (len2 fun a0 a1 pm code doc => rfl) (by decide +kernel) (fun _ h => h))
noncomputable def t_cards_1 : L -> Option (Fl × L) := (asgF 2 (callF lenD (consL (nameF 0) nilL)))
noncomputable def t_cards_2 : L -> Option (Fl × L) := (asgO 3 (lstF nilL))
noncomputable def t_cards_3 : L -> Option (Fl × L) := (asgF 5 (bin2 addD (nameF 4) (bin2 itemD (nameF 0) (nameF 4))))
noncomputable def t_cards_4 : L -> Option (Fl × L) := (asgO 6 (compF 6 1 (rngF (consL (bin2 subD (nameF 4) (bin2 mulD (nameF 2) (nameF 1))) (consL (nameF 4) nilL))) (emitF (andF (tstF (bin2 gtD (bin2 itemD (nameF 0) (bin2 modD (cmpF 1) (nameF 2))) (cI 0))) (chain2 ltD ltD (nameF 4) (bin2 addD (cmpF 1) (bin2 itemD (nameF 0) (bin2 modD (cmpF 1) (nameF 2)))) (nameF 5))) (cmpF 1))))
noncomputable def t_cards_5 : L -> Option (Fl × L) := (exprF (appF 3 (ifF (tstF (bin2 eqD (bin2 itemD (nameF 0) (nameF 4)) (cI 0))) (cI 0) (bin2 addD (cI 1) (lenOwn 6)))))
noncomputable def t_cards_6 : L -> Option (Fl × L) := (forF (rngF (consL (nameF 2) nilL)) (tgtN 4) (seqF t_cards_3 (seqF t_cards_4 (seqF t_cards_5 nextF))))
noncomputable def t_cards_7 : L -> Option (Fl × L) := (retF (nameF 3))
noncomputable def m_cards : L -> Option (Fl × L) :=
  (seqF t_cards_1 (seqF t_cards_2 (seqF t_cards_6 (seqF t_cards_7 nextF))))
noncomputable def o_cards : List PyData -> Option PyData := fnA 2 9 m_cards
theorem d_cards {W : Wd} (X : Env0 W) (k : Nat) : Exs W k F_cards.scope F_cards.body m_cards :=
  (exs_cons (ex_assign (by decide +kernel) (ev_callB (by decide +kernel) X.g_b_len (evL_cons (ev_name (by decide +kernel)) evL_nil (fun _ => rfl)) opN_len (fun _ => rfl) (fun _ _ => rfl)) (fun _ _ => rfl))
  (exs_cons (ex_assignO (by decide +kernel) (evO_list evL_nil) (fun _ _ => rfl))
  (exs_cons (ex_for (evIt_range (by decide +kernel) X.g_b_range (evL_cons (ev_name (by decide +kernel)) evL_nil (fun _ => rfl)) (fun _ => rfl) (fun _ _ => rfl)) (asg_name (by decide +kernel)) (exs_cons (ex_assign (by decide +kernel) (ev_bin (ev_name (by decide +kernel)) (ev_sub (ev_name (by decide +kernel)) (ev_name (by decide +kernel)) (op2_item (fun _ _ => rfl))) op2_add) (fun _ _ => rfl))
  (exs_cons (ex_compUse (nn := 6) (evIt_range (by decide +kernel) X.g_b_range (evL_cons (ev_bin (ev_name (by decide +kernel)) (ev_bin (ev_name (by decide +kernel)) (ev_name (by decide +kernel)) op2_mul) op2_sub) (evL_cons (ev_name (by decide +kernel)) evL_nil (fun _ => rfl)) (fun _ => rfl)) (fun _ => rfl) (fun _ _ => rfl)) turn1 (cb_emit (tstI_one (tst_and2 (tst_cmp1 (ev_sub (ev_name (by decide +kernel)) (ev_bin (ev_cmp (by decide +kernel)) (ev_name (by decide +kernel)) op2_mod) (op2_item (fun _ _ => rfl))) ev_int op2_gt rfl) (tst_chain2 (ev_name (by decide +kernel)) (ev_bin (ev_cmp (by decide +kernel)) (ev_sub (ev_name (by decide +kernel)) (ev_bin (ev_cmp (by decide +kernel)) (ev_name (by decide +kernel)) op2_mod) (op2_item (fun _ _ => rfl))) op2_add) (ev_name (by decide +kernel)) op2_lt op2_lt rfl))) (ev_cmp (by decide +kernel))) (by decide +kernel) (by decide +kernel) (fun _ _ => rfl) (by decide +kernel) (sw_true rfl (by decide +kernel)))
  (exs_cons (ex_expr (ev_append (by decide +kernel) rfl rfl (fun _ => rfl) (ev_ifexp (tst_cmp1 (ev_sub (ev_name (by decide +kernel)) (ev_name (by decide +kernel)) (op2_item (fun _ _ => rfl))) ev_int op2_eq rfl) ev_int (ev_bin ev_int (ev_lenOwn (by decide +kernel) X.g_b_len (by decide +kernel)) op2_add))) (fun _ => rfl))
  exs_nil))) (fun _ _ => rfl))
  (exs_cons (ex_return (ev_name (by decide +kernel)))
  exs_nil))))
theorem ok_cards {W : Wd} (X : Env0 W) (k : Nat) : OpN W (k + 1) (fun vs => call (.ref 177) vs) o_cards :=
  lift (fn_ok (n := 2) X.clear.at_cards (d_cards X.clear k) rfl rfl rfl (by decide +kernel) (by decide +kernel) (by decide +kernel) (len2 fun a0 a1 pm code doc => rfl) (by decide +kernel) (fun _ h => h))
noncomputable def t_rising_1 : L -> Option (Fl × L) := (asgO 1 (compF 4 1 (rngF (consL (cI 1) (consL (callF lenD (consL (nameF 0) nilL)) nilL))) (emitF trueF (ofO (lstF (consL (callF o_strcoll (consL (bin2 itemD (nameF 0) (bin2 subD (cmpF 1) (cI 1))) (consL (bin2 itemD (nameF 0) (cmpF 1)) nilL))) (consL (callF o_strcoll (consL (bin2 itemD (nameF 0) (cmpF 1)) (consL (bin2 itemD (nameF 0) (bin2 subD (cmpF 1) (cI 1))) nilL))) (consL (callF o_strcoll (consL (bin2 itemD (nameF 0) (cmpF 1)) (consL (bin2 itemD (nameF 0) (cmpF 1)) nilL))) nilL))))))))
noncomputable def t_rising_2 : L -> Option (Fl × L) := (retF (andV (bin2 eqD (nameF 1) (ofO (compF 2 1 (itF (nameF 1)) (emitF trueF (ofO (lstF (consL (un1 negD (cI 1)) (consL (cI 1) (consL (cI 0) nilL))))))))) (bin2 eqD (ofO (compF 5 1 (itF (nameF 1)) (nestF trueF (itF (cmpF 1)) 2 (emitF (tstF (un1 isBoolD (cmpF 2))) (cmpF 2))))) (ofO (lstF nilL)))))
noncomputable def m_rising : L -> Option (Fl × L) :=
  (seqF t_rising_1 (seqF t_rising_2 nextF))
noncomputable def o_rising : List PyData -> Option PyData := fnA 1 4 m_rising
theorem d_rising {W : Wd} (X : Env0 W) (k : Nat) : Exs W (k + 1) F_rising.scope F_rising.body m_rising :=
  (exs_cons (ex_compUse (nn := 4) (evIt_range (by decide +kernel) X.g_b_range (evL_cons ev_int (evL_cons (ev_callB (by decide +kernel) X.g_b_len (evL_cons (ev_name (by decide +kernel)) evL_nil (fun _ => rfl)) opN_len (fun _ => rfl) (fun _ _ => rfl)) evL_nil (fun _ => rfl)) (fun _ => rfl)) (fun _ => rfl) (fun _ _ => rfl)) turn1 (cb_emit tstI_nil (ev_ofO (evO_list (evL_cons (ev_call (by decide +kernel) X.g_fn_strcoll X.at_strcoll (evL_cons (ev_sub (ev_name (by decide +kernel)) (ev_bin (ev_cmp (by decide +kernel)) ev_int op2_sub) (op2_item (fun _ _ => rfl))) (evL_cons (ev_sub (ev_name (by decide +kernel)) (ev_cmp (by decide +kernel)) (op2_item (fun _ _ => rfl))) evL_nil (fun _ => rfl)) (fun _ => rfl)) (ok_strcoll X _) (fun _ => rfl)) (evL_cons (ev_call (by decide +kernel) X.g_fn_strcoll X.at_strcoll (evL_cons (ev_sub (ev_name (by decide +kernel)) (ev_cmp (by decide +kernel)) (op2_item (fun _ _ => rfl))) (evL_cons (ev_sub (ev_name (by decide +kernel)) (ev_bin (ev_cmp (by decide +kernel)) ev_int op2_sub) (op2_item (fun _ _ => rfl))) evL_nil (fun _ => rfl)) (fun _ => rfl)) (ok_strcoll X _) (fun _ => rfl)) (evL_cons (ev_call (by decide +kernel) X.g_fn_strcoll X.at_strcoll (evL_cons (ev_sub (ev_name (by decide +kernel)) (ev_cmp (by decide +kernel)) (op2_item (fun _ _ => rfl))) (evL_cons (ev_sub (ev_name (by decide +kernel)) (ev_cmp (by decide +kernel)) (op2_item (fun _ _ => rfl))) evL_nil (fun _ => rfl)) (fun _ => rfl)) (ok_strcoll X _) (fun _ => rfl)) evL_nil (fun _ => rfl)) (fun _ => rfl)) (fun _ => rfl))))) (by decide +kernel) (by decide +kernel) (fun _ _ => rfl) (by decide +kernel) (sw_true rfl (by decide +kernel)))
  (exs_cons (ex_return (ev_and2 (ev_cmp1 (ev_name (by decide +kernel)) (ev_ofO (evO_comp (nn := 2) (evIt_val (ev_name (by decide +kernel))) turn1 (cb_emit tstI_nil (ev_ofO (evO_list (evL_cons (ev_neg ev_int) (evL_cons ev_int (evL_cons ev_int evL_nil (fun _ => rfl)) (fun _ => rfl)) (fun _ => rfl))))) (by decide +kernel) (by decide +kernel) (fun _ _ => rfl))) op2_eq rfl) (ev_cmp1 (ev_ofO (evO_comp (nn := 5) (evIt_val (ev_name (by decide +kernel))) (turn20 (fun _ _ => rfl)) (cb_nest rfl tstI_nil (evIt_val (ev_cmp (by decide +kernel))) turn21 (cb_emit (tstI_one (tst_plain (ev_isBool (by decide +kernel) X.g_b_isinstance (by decide +kernel) X.g_b_bool (ev_cmp (by decide +kernel)) (fun _ => rfl)) (fun _ _ => rfl))) (ev_cmp (by decide +kernel))) (by decide +kernel)) (by decide +kernel) (by decide +kernel) (fun _ _ => rfl))) (ev_ofO (evO_list evL_nil)) op2_eq rfl)))
  exs_nil))
theorem ok_rising {W : Wd} (X : Env0 W) (k : Nat) : OpN W (k + 2) (fun vs => call (.ref 182) vs) o_rising :=
  lift (fn_ok (n := 1) X.clear.at_rising (d_rising X.clear k) rfl rfl rfl (by decide +kernel) (by decide +kernel) (by decide +kernel) (len1 fun a0 pm code doc => rfl) (by decide +kernel) (fun _ h => h))
theorem id_strxfrm : IdStr o_strxfrm := fun _ => rfl
noncomputable def t_lnames_1 : L -> Option (Fl × L) := (asgO 1 (sortF (ofO (compF 3 1 (itF (revF (nameF 0))) (nestF trueF (itF (tupF (consL (cI 2) (consL (cI 1) (consL (cI 0) nilL))))) 2 (emitF trueF (bin2 addD (cmpF 1) (bin2 mulD (cS " ") (cmpF 2)))))))))
noncomputable def t_lnames_2 : L -> Option (Fl × L) := (retF (andV (bin2 eqD (nameF 1) (ofO (compF 5 1 (itF (cS "!Aa~")) (nestF (tstF (bin2 inD (cmpF 1) (nameF 0))) (rngF (consL (cI 3) nilL)) 2 (emitF trueF (bin2 addD (cmpF 1) (bin2 mulD (cS " ") (cmpF 2)))))))) (callF o_rising (consL (nameF 1) nilL))))
noncomputable def m_lnames : L -> Option (Fl × L) :=
  (seqF t_lnames_1 (seqF t_lnames_2 nextF))
noncomputable def o_lnames : List PyData -> Option PyData := fnA 1 5 m_lnames
theorem d_lnames {W : Wd} (X : Env0 W) (k : Nat) : Exs W (k + 2) F_lnames.scope F_lnames.body m_lnames :=
  (exs_cons (ex_assignO (by decide +kernel) (evO_sorted (by decide +kernel) X.g_b_sorted (by decide +kernel) X.g_fn_strxfrm (ok_strxfrm X _) id_strxfrm (ev_ofO (evO_comp (nn := 3) (evIt_val (ev_rev (ev_name (by decide +kernel)) (fun _ _ => rfl))) (turn20 (fun _ _ => rfl)) (cb_nest rfl tstI_nil (evIt_val (ev_tuple (evL_cons ev_int (evL_cons ev_int (evL_cons ev_int evL_nil (fun _ => rfl)) (fun _ => rfl)) (fun _ => rfl)))) turn21 (cb_emit tstI_nil (ev_bin (ev_cmp (by decide +kernel)) (ev_bin ev_str (ev_cmp (by decide +kernel)) op2_mul) op2_add)) (by decide +kernel)) (by decide +kernel) (by decide +kernel) (fun _ _ => rfl))) (fun _ => rfl) (fun _ _ => rfl)) (fun _ _ => rfl))
  (exs_cons (ex_return (ev_and2 (ev_cmp1 (ev_name (by decide +kernel)) (ev_ofO (evO_comp (nn := 5) (evIt_val ev_str) (turn20 (fun _ _ => rfl)) (cb_nest rfl (tstI_one (tst_cmp1 (ev_cmp (by decide +kernel)) (ev_name (by decide +kernel)) op2_in rfl)) (evIt_range (by decide +kernel) X.g_b_range (evL_cons ev_int evL_nil (fun _ => rfl)) (fun _ => rfl) (fun _ _ => rfl)) turn21 (cb_emit tstI_nil (ev_bin (ev_cmp (by decide +kernel)) (ev_bin ev_str (ev_cmp (by decide +kernel)) op2_mul) op2_add)) (by decide +kernel)) (by decide +kernel) (by decide +kernel) (fun _ _ => rfl))) op2_eq rfl) (ev_call (by decide +kernel) X.g_fn_rising X.at_rising (evL_cons (ev_name (by decide +kernel)) evL_nil (fun _ => rfl)) (ok_rising X _) (fun _ => rfl))))
  exs_nil))
theorem ok_lnames {W : Wd} (X : Env0 W) (k : Nat) : OpN W (k + 3) (fun vs => call (.ref 187) vs) o_lnames :=
  lift (fn_ok (n := 1) X.clear.at_lnames (d_lnames X.clear k) rfl rfl rfl (by decide +kernel) (by decide +kernel) (by decide +kernel) (len1 fun a0 pm code doc => rfl) (by decide +kernel) (fun _ h => h))
noncomputable def t_where_1 : L -> Option (Fl × L) := (asgO 1 (lstF (consL (callF o_iseof (consL (nameF 0) nilL)) (consL (callF o_isterm (consL (bin2 addD (cI 255) (nameF 0)) nilL)) (consL (callF o_isnont (consL (bin2 addD (cI 255) (nameF 0)) nilL)) (consL (callF o_isterm (consL (bin2 subD (cI 255) (nameF 0)) nilL)) (consL (callF o_isnont (consL (bin2 subD (cI 255) (nameF 0)) nilL)) nilL)))))))
noncomputable def t_where_2 : L -> Option (Fl × L) := (asgO 2 (lstF (consL (bin2 eqD (nameF 0) (cI 0)) (consL (bin2 eqD (nameF 0) (cI 0)) (consL (bin2 gtD (nameF 0) (cI 0)) (consL (cB true) (consL (cB false) nilL)))))))
noncomputable def t_where_3 : L -> Option (Fl × L) := (retF (andV (bin2 eqD (nameF 1) (nameF 2)) (bin2 eqD (ofO (compF 4 1 (itF (nameF 1)) (emitF (notF (tstF (un1 isBoolD (cmpF 1)))) (cmpF 1)))) (ofO (lstF nilL)))))
noncomputable def m_where : L -> Option (Fl × L) :=
  (seqF t_where_1 (seqF t_where_2 (seqF t_where_3 nextF)))
noncomputable def o_where : List PyData -> Option PyData := fnA 1 6 m_where
theorem d_where {W : Wd} (X : Env0 W) (k : Nat) : Exs W (k + 1) F_where.scope F_where.body m_where :=
  (exs_cons (ex_assignO (by decide +kernel) (evO_list (evL_cons (ev_call (by decide +kernel) X.g_fn_iseof X.at_iseof (evL_cons (ev_name (by decide +kernel)) evL_nil (fun _ => rfl)) (ok_iseof X _) (fun _ => rfl)) (evL_cons (ev_call (by decide +kernel) X.g_fn_isterm X.at_isterm (evL_cons (ev_bin ev_int (ev_name (by decide +kernel)) op2_add) evL_nil (fun _ => rfl)) (ok_isterm X _) (fun _ => rfl)) (evL_cons (ev_call (by decide +kernel) X.g_fn_isnont X.at_isnont (evL_cons (ev_bin ev_int (ev_name (by decide +kernel)) op2_add) evL_nil (fun _ => rfl)) (ok_isnont X _) (fun _ => rfl)) (evL_cons (ev_call (by decide +kernel) X.g_fn_isterm X.at_isterm (evL_cons (ev_bin ev_int (ev_name (by decide +kernel)) op2_sub) evL_nil (fun _ => rfl)) (ok_isterm X _) (fun _ => rfl)) (evL_cons (ev_call (by decide +kernel) X.g_fn_isnont X.at_isnont (evL_cons (ev_bin ev_int (ev_name (by decide +kernel)) op2_sub) evL_nil (fun _ => rfl)) (ok_isnont X _) (fun _ => rfl)) evL_nil (fun _ => rfl)) (fun _ => rfl)) (fun _ => rfl)) (fun _ => rfl)) (fun _ => rfl))) (fun _ _ => rfl))
  (exs_cons (ex_assignO (by decide +kernel) (evO_list (evL_cons (ev_cmp1 (ev_name (by decide +kernel)) ev_int op2_eq rfl) (evL_cons (ev_cmp1 (ev_name (by decide +kernel)) ev_int op2_eq rfl) (evL_cons (ev_cmp1 (ev_name (by decide +kernel)) ev_int op2_gt rfl) (evL_cons ev_bool (evL_cons ev_bool evL_nil (fun _ => rfl)) (fun _ => rfl)) (fun _ => rfl)) (fun _ => rfl)) (fun _ => rfl))) (fun _ _ => rfl))
  (exs_cons (ex_return (ev_and2 (ev_cmp1 (ev_name (by decide +kernel)) (ev_name (by decide +kernel)) op2_eq rfl) (ev_cmp1 (ev_ofO (evO_comp (nn := 4) (evIt_val (ev_name (by decide +kernel))) turn1 (cb_emit (tstI_one (tst_not (tst_plain (ev_isBool (by decide +kernel) X.g_b_isinstance (by decide +kernel) X.g_b_bool (ev_cmp (by decide +kernel)) (fun _ => rfl)) (fun _ _ => rfl)))) (ev_cmp (by decide +kernel))) (by decide +kernel) (by decide +kernel) (fun _ _ => rfl))) (ev_ofO (evO_list evL_nil)) op2_eq rfl)))
  exs_nil)))
theorem ok_where {W : Wd} (X : Env0 W) (k : Nat) : OpN W (k + 2) (fun vs => call (.ref 192) vs) o_where :=
  lift (fn_ok (n := 1) X.clear.at_where (d_where X.clear k) rfl rfl rfl (by decide +kernel) (by decide +kernel) (by decide +kernel) (len1 fun a0 pm code doc => rfl) (by decide +kernel) (fun _ h => h))
noncomputable def t_bared_1 : L -> Option (Fl × L) := (asgO 3 (addL (ofO (compF 5 1 (rngF (consL (cI 3) nilL)) (emitF trueF (callF o_strip (consL (nameF 0) (consL (bin2 addD (nameF 1) (cmpF 1)) nilL)))))) (ofO (lstF (consL (callF o_strip (consL (bin2 addD (bin2 addD (cS "\t") (nameF 0)) (cS "\t")) (consL (cI 40) nilL))) nilL)))))
noncomputable def t_bared_2 : L -> Option (Fl × L) := (retF (bin2 eqD (nameF 3) (ofO (addL (ofO (compF 5 1 (rngF (consL (cI 3) nilL)) (emitF trueF (bin2 addD (bin2 itemD (nameF 0) (nameF 1)) (cutF (nameF 2) (intP (cmpF 1)) noP))))) (ofO (lstF (consL (bin2 addD (bin2 addD (cS "\t") (nameF 0)) (cS "\t")) nilL)))))))
noncomputable def m_bared : L -> Option (Fl × L) :=
  (seqF t_bared_1 (seqF t_bared_2 nextF))
noncomputable def o_bared : List PyData -> Option PyData := fnA 3 6 m_bared
theorem d_bared {W : Wd} (X : Env0 W) (k : Nat) : Exs W (k + 1) F_bared.scope F_bared.body m_bared :=
  (exs_cons (ex_assignO (by decide +kernel) (evO_add (ev_ofO (evO_comp (nn := 5) (evIt_range (by decide +kernel) X.g_b_range (evL_cons ev_int evL_nil (fun _ => rfl)) (fun _ => rfl) (fun _ _ => rfl)) turn1 (cb_emit tstI_nil (ev_call (by decide +kernel) X.g_fn_strip X.at_strip (evL_cons (ev_name (by decide +kernel)) (evL_cons (ev_bin (ev_name (by decide +kernel)) (ev_cmp (by decide +kernel)) op2_add) evL_nil (fun _ => rfl)) (fun _ => rfl)) (ok_strip X _) (fun _ => rfl))) (by decide +kernel) (by decide +kernel) (fun _ _ => rfl))) (ev_ofO (evO_list (evL_cons (ev_call (by decide +kernel) X.g_fn_strip X.at_strip (evL_cons (ev_bin (ev_bin ev_str (ev_name (by decide +kernel)) op2_add) ev_str op2_add) (evL_cons ev_int evL_nil (fun _ => rfl)) (fun _ => rfl)) (ok_strip X _) (fun _ => rfl)) evL_nil (fun _ => rfl))))) (fun _ _ => rfl))
  (exs_cons (ex_return (ev_cmp1 (ev_name (by decide +kernel)) (ev_ofO (evO_add (ev_ofO (evO_comp (nn := 5) (evIt_range (by decide +kernel) X.g_b_range (evL_cons ev_int evL_nil (fun _ => rfl)) (fun _ => rfl) (fun _ _ => rfl)) turn1 (cb_emit tstI_nil (ev_bin (ev_sub (ev_name (by decide +kernel)) (ev_name (by decide +kernel)) (op2_item (fun _ _ => rfl))) (ev_cut (ev_name (by decide +kernel)) (evP_some (ev_cmp (by decide +kernel))) evP_none) op2_add)) (by decide +kernel) (by decide +kernel) (fun _ _ => rfl))) (ev_ofO (evO_list (evL_cons (ev_bin (ev_bin ev_str (ev_name (by decide +kernel)) op2_add) ev_str op2_add) evL_nil (fun _ => rfl)))))) op2_eq rfl))
  exs_nil))
theorem ok_bared {W : Wd} (X : Env0 W) (k : Nat) : OpN W (k + 2) (fun vs => call (.ref 197) vs) o_bared :=
  lift (fn_ok (n := 3) X.clear.at_bared (d_bared X.clear k) rfl rfl rfl (by decide +kernel) (by decide +kernel) (by decide +kernel) (len3 fun a0 a1 a2 pm code doc => rfl) (by decide +kernel) (fun _ h => h))
noncomputable def t_lines_1 : L -> Option (Fl × L) := (asgF 5 (callF lenD (consL (nameF 2) nilL)))
noncomputable def t_lines_2 : L -> Option (Fl × L) := (asgO 6 (compF 3 1 (itF (nameF 3)) (emitF (tstF (bin2 notInD (cmpF 1) (nameF 1))) (cmpF 1))))
noncomputable def t_lines_3 : L -> Option (Fl × L) := (asgO 7 (compF 4 1 (itF (nameF 3)) (emitF (tstF (bin2 inD (cmpF 1) (nameF 1))) (bin2 addD (bin2 addD (bin2 mulD (cS " ") (methF isLstD indexD (nameF 1) (consL (cmpF 1) nilL))) (cmpF 1)) (nameF 4)))))
noncomputable def t_lines_4 : L -> Option (Fl × L) := (tupR [9, 10] (consX (ownX (sortF (nameF 7))) (consX (valX (bin2 itemD (nameF 2) (bin2 modD (nameF 8) (nameF 5)))) nilX)))
noncomputable def t_lines_5 : L -> Option (Fl × L) := (asgO 12 (compF 3 1 (itF (nameF 9)) (emitF trueF (callF o_strip (consL (cmpF 1) (consL (cI 40) nilL))))))
noncomputable def t_lines_6 : L -> Option (Fl × L) := (retF (cB false))
noncomputable def t_lines_7 : L -> Option (Fl × L) := (condF (orF (tstF (bin2 neD (bin2 itemD (nameF 0) (nameF 8)) (methF isStrD joinD (cS "") (consL (ofO (compF 3 1 (itF (ofO (addL (nameF 6) (nameF 12)))) (emitF trueF (bin2 addD (nameF 4) (cmpF 1))))) nilL)))) (notF (tstF (callF o_rising (consL (nameF 9) nilL))))) (seqF t_lines_6 nextF) nextF)
noncomputable def t_lines_8 : L -> Option (Fl × L) := (asgO 13 (lstF nilL))
noncomputable def t_lines_9 : L -> Option (Fl × L) := (asgF 14 (bin2 subD (callF lenD (consL (nameF 11) nilL)) (callF lenD (consL (methF isStrD lstripD (nameF 11) (consL (cS " ") nilL)) nilL))))
noncomputable def t_lines_10 : L -> Option (Fl × L) := (asgF 11 (bin2 addD (bin2 mulD (cS " ") (nameF 10)) (nameF 11)))
noncomputable def t_lines_11 : L -> Option (Fl × L) := (condF (tstF (bin2 eqD (nameF 14) (cI 0))) (seqF t_lines_10 nextF) nextF)
noncomputable def t_lines_12 : L -> Option (Fl × L) := (exprF (appF 13 (callF o_strip (consL (nameF 11) (consL (cI 1) nilL)))))
noncomputable def t_lines_13 : L -> Option (Fl × L) := (retF (cB false))
noncomputable def t_lines_14 : L -> Option (Fl × L) := (condF (orF (tstF (bin2 neD (subOwn 13 (un1 negD (cI 1))) (cutF (nameF 11) (intP (cI 1)) noP))) (orF (notF (tstF (callF o_where (consL (nameF 14) nilL)))) (andF (tstF (bin2 eqD (nameF 14) (cI 0))) (notF (tstF (callF o_bared (consL (nameF 11) (consL (nameF 10) (consL (nameF 4) nilL))))))))) (seqF t_lines_13 nextF) nextF)
noncomputable def t_lines_15 : L -> Option (Fl × L) := (forF (itF (nameF 7)) (tgtN 11) (seqF t_lines_9 (seqF t_lines_11 (seqF t_lines_12 (seqF t_lines_14 nextF)))))
noncomputable def t_lines_16 : L -> Option (Fl × L) := (asgF 7 (nameF 13))
noncomputable def t_lines_17 : L -> Option (Fl × L) := (forF (rngF (consL (bin2 mulD (cI 2) (nameF 5)) nilL)) (tgtN 8) (seqF t_lines_4 (seqF t_lines_5 (seqF t_lines_7 (seqF t_lines_8 (seqF t_lines_15 (seqF t_lines_16 nextF)))))))
noncomputable def t_lines_18 : L -> Option (Fl × L) := (retF (cB true))
noncomputable def m_lines : L -> Option (Fl × L) :=
  (seqF t_lines_1 (seqF t_lines_2 (seqF t_lines_3 (seqF t_lines_17 (seqF t_lines_18 nextF)))))
noncomputable def o_lines : List PyData -> Option PyData := fnA 5 23 m_lines
theorem d_lines {W : Wd} (X : Env0 W) (k : Nat) : Exs W (k + 3) F_lines.scope F_lines.body m_lines :=
  (exs_cons (ex_assign (by decide +kernel) (ev_callB (by decide +kernel) X.g_b_len (evL_cons (ev_name (by decide +kernel)) evL_nil (fun _ => rfl)) opN_len (fun _ => rfl) (fun _ _ => rfl)) (fun _ _ => rfl))
  (exs_cons (ex_compUse (nn := 3) (evIt_val (ev_name (by decide +kernel))) turn1 (cb_emit (tstI_one (tst_cmp1 (ev_cmp (by decide +kernel)) (ev_name (by decide +kernel)) op2_notIn rfl)) (ev_cmp (by decide +kernel))) (by decide +kernel) (by decide +kernel) (fun _ _ => rfl) (by decide +kernel) (sw_true rfl (by decide +kernel)))
  (exs_cons (ex_compUse (nn := 4) (evIt_val (ev_name (by decide +kernel))) turn1 (cb_emit (tstI_one (tst_cmp1 (ev_cmp (by decide +kernel)) (ev_name (by decide +kernel)) op2_in rfl)) (ev_bin (ev_bin (ev_bin ev_str (ev_index (fun _ => rfl) rfl (ev_name (by decide +kernel)) (evL_cons (ev_cmp (by decide +kernel)) evL_nil (fun _ => rfl)) (fun _ => rfl)) op2_mul) (ev_cmp (by decide +kernel)) op2_add) (ev_name (by decide +kernel)) op2_add)) (by decide +kernel) (by decide +kernel) (fun _ _ => rfl) (by decide +kernel) (sw_true rfl (by decide +kernel)))
  (exs_cons (ex_for (evIt_range (by decide +kernel) X.g_b_range (evL_cons (ev_bin ev_int (ev_name (by decide +kernel)) op2_mul) evL_nil (fun _ => rfl)) (fun _ => rfl) (fun _ _ => rfl)) (asg_name (by decide +kernel)) (exs_cons (ex_tupR [("order", 9), ("throw", 10)] (evXs_cons (evX_own (evO_sorted (by decide +kernel) X.g_b_sorted (by decide +kernel) X.g_fn_strxfrm (ok_strxfrm X _) id_strxfrm (ev_name (by decide +kernel)) (fun _ => rfl) (fun _ _ => rfl))) (evXs_cons (evX_val (ev_sub (ev_name (by decide +kernel)) (ev_bin (ev_name (by decide +kernel)) (ev_name (by decide +kernel)) op2_mod) (op2_item (fun _ _ => rfl)))) evXs_nil (fun _ => rfl)) (fun _ => rfl)) (by decide +kernel) (fun _ _ => rfl) (fun env h => by cases env; cases h; kernel_rfl))
  (exs_cons (ex_compUse (nn := 3) (evIt_val (ev_name (by decide +kernel))) turn1 (cb_emit tstI_nil (ev_call (by decide +kernel) X.g_fn_strip X.at_strip (evL_cons (ev_cmp (by decide +kernel)) (evL_cons ev_int evL_nil (fun _ => rfl)) (fun _ => rfl)) (ok_strip X _) (fun _ => rfl))) (by decide +kernel) (by decide +kernel) (fun _ _ => rfl) (by decide +kernel) (sw_true rfl (by decide +kernel)))
  (exs_cons (ex_if (tst_or2 (tst_cmp1 (ev_sub (ev_name (by decide +kernel)) (ev_name (by decide +kernel)) (op2_item (fun _ _ => rfl))) (ev_join (fun _ => rfl) rfl ev_str (evL_cons (ev_ofO (evO_comp (nn := 3) (evIt_val (ev_ofO (evO_add (ev_name (by decide +kernel)) (ev_name (by decide +kernel))))) turn1 (cb_emit tstI_nil (ev_bin (ev_name (by decide +kernel)) (ev_cmp (by decide +kernel)) op2_add)) (by decide +kernel) (by decide +kernel) (fun _ _ => rfl))) evL_nil (fun _ => rfl)) (fun _ => rfl)) op2_ne rfl) (tst_not (tst_plain (ev_call (by decide +kernel) X.g_fn_rising X.at_rising (evL_cons (ev_name (by decide +kernel)) evL_nil (fun _ => rfl)) (ok_rising X _) (fun _ => rfl)) (fun _ _ => rfl)))) (exs_cons (ex_return ev_bool)
  exs_nil) exs_nil)
  (exs_cons (ex_assignO (by decide +kernel) (evO_list evL_nil) (fun _ _ => rfl))
  (exs_cons (ex_for (evIt_val (ev_name (by decide +kernel))) (asg_name (by decide +kernel)) (exs_cons (ex_assign (by decide +kernel) (ev_bin (ev_callB (by decide +kernel) X.g_b_len (evL_cons (ev_name (by decide +kernel)) evL_nil (fun _ => rfl)) opN_len (fun _ => rfl) (fun _ _ => rfl)) (ev_callB (by decide +kernel) X.g_b_len (evL_cons (ev_lstrip (fun _ => rfl) rfl (ev_name (by decide +kernel)) (evL_cons ev_str evL_nil (fun _ => rfl)) (fun _ => rfl)) evL_nil (fun _ => rfl)) opN_len (fun _ => rfl) (fun _ _ => rfl)) op2_sub) (fun _ _ => rfl))
  (exs_cons (ex_if (tst_cmp1 (ev_name (by decide +kernel)) ev_int op2_eq rfl) (exs_cons (ex_assign (by decide +kernel) (ev_bin (ev_bin ev_str (ev_name (by decide +kernel)) op2_mul) (ev_name (by decide +kernel)) op2_add) (fun _ _ => rfl))
  exs_nil) exs_nil)
  (exs_cons (ex_expr (ev_append (by decide +kernel) rfl rfl (fun _ => rfl) (ev_call (by decide +kernel) X.g_fn_strip X.at_strip (evL_cons (ev_name (by decide +kernel)) (evL_cons ev_int evL_nil (fun _ => rfl)) (fun _ => rfl)) (ok_strip X _) (fun _ => rfl))) (fun _ => rfl))
  (exs_cons (ex_if (tst_or3 (tst_cmp1 (ev_subOwn (by decide +kernel) (ev_neg ev_int) (fun _ _ => rfl)) (ev_cut (ev_name (by decide +kernel)) (evP_some ev_int) evP_none) op2_ne rfl) (tst_not (tst_plain (ev_call (by decide +kernel) X.g_fn_where X.at_where (evL_cons (ev_name (by decide +kernel)) evL_nil (fun _ => rfl)) (ok_where X _) (fun _ => rfl)) (fun _ _ => rfl))) (tst_and2 (tst_cmp1 (ev_name (by decide +kernel)) ev_int op2_eq rfl) (tst_not (tst_plain (ev_call (by decide +kernel) X.g_fn_bared X.at_bared (evL_cons (ev_name (by decide +kernel)) (evL_cons (ev_name (by decide +kernel)) (evL_cons (ev_name (by decide +kernel)) evL_nil (fun _ => rfl)) (fun _ => rfl)) (fun _ => rfl)) (ok_bared X _) (fun _ => rfl)) (fun _ _ => rfl))))) (exs_cons (ex_return ev_bool)
  exs_nil) exs_nil)
  exs_nil)))) (fun _ _ => rfl))
  (exs_cons (ex_assign (by decide +kernel) (ev_name (by decide +kernel)) (fun _ _ => rfl))
  exs_nil)))))) (fun _ _ => rfl))
  (exs_cons (ex_return ev_bool)
  exs_nil)))))
theorem ok_lines {W : Wd} (X : Env0 W) (k : Nat) : OpN W (k + 4) (fun vs => call (.ref 202) vs) o_lines :=
  lift (fn_ok (n := 5) X.clear.at_lines (d_lines X.clear k) rfl rfl rfl (by decide +kernel) (by decide +kernel) (by decide +kernel) (len5 fun a0 a1 a2 a3 a4 pm code doc => rfl) (by decide +kernel) (fun _ h => h))
theorem lk_push : typeLookup (.type "list") "push" = pure none := by rw [typeLookup_type, builtinLookup_eq_fast]; kernel_rfl
theorem lk_popf : typeLookup (.type "list") "pop_from" = pure none := by rw [typeLookup_type, builtinLookup_eq_fast]; kernel_rfl
theorem lk_pc : typeLookup (.type "list") "part_count" = pure none := by rw [typeLookup_type, builtinLookup_eq_fast]; kernel_rfl
theorem lk_pop : typeLookup (.type "list") "pop" = pure (some (.builtin "list.pop")) := by rw [typeLookup_type, builtinLookup_eq_fast]; kernel_rfl
structure PileW (W : Wd) (mN : Str -> Option Value) : Prop where
  acc : AccW W mN
  cell : ∀ g, WOK W g -> g.IsCell 46 (some (.ref W.C))
  m_init : mN "__init__" = some (.ref 59)
  m_push : mN "push" = some (.ref 66)
  m_popf : mN "pop_from" = some (.ref 74)
  m_pop : mN "pop" = some (.ref 82)
  m_len : mN "__len__" = some (.ref 89)
  m_str : mN "__str__" = some (.ref 96)
  m_pc : mN "part_count" = some (.ref 119)
  m_sa : mN "__setattr__" = none
  m_sz : mN "_initial_size" = none
  init_at : MethAt W 59 F_m_init clo46
  push_at : MethAt W 66 F_m_push []
  popf_at : MethAt W 74 F_m_pop_from []
  pop_at : MethAt W 82 F_m_pop clo46
  pc_at : MethAt W 119 F_m_part_count clo46
  len_at : MethG W 89 F_m_len 84
  str_at : MethG W 96 F_m_str 91
  bi : ∀ A (s : Shared) (Q : Addr -> Shared -> Prop) (E : Value -> Shared -> Prop) g, WOK W g -> Le g s.heap -> Q builtinsNs s -> wpAny W.M A (builtinsFor mainGlobals builtinsNs) Q E s
section
variable {W : Wd} {mN : Str -> Option Value} (X : Env0 W) (Y : PileW W mN) (k : Nat)
include Y
theorem PileW.op_push : AOp W (k + 1) 66 pushO :=
  Mine.op_push Y.acc Y.push_at (by decide +kernel) rfl (mcall (fun _ => rfl) (fun _ => rfl) rfl) (fun _ => rfl)
theorem PileW.op_popf : AOp W (k + 1) 74 popfO :=
  Mine.op_pop_from Y.acc Y.popf_at (by decide +kernel) (by decide +kernel) rfl (fun _ => rfl) (fun _ => rfl)
theorem PileW.op_pc : AOp W (k + 1) 119 pcO :=
  Mine.op_part_count Y.acc Y.pc_at Y.cell (by decide +kernel) (by decide +kernel) rfl (scall rfl)
theorem PileW.op_pop : AOp W (k + 2) 82 popO :=
  Mine.op_pop Y.acc Y.pop_at Y.cell (by decide +kernel) (by decide +kernel) rfl (mcall (fun _ => rfl) (fun _ => rfl) rfl) (scall rfl) (PileW.op_pc Y k) Y.m_pc Y.pc_at ⟨_, lk_pc⟩
theorem PileW.op_init : InitOK W (k + 1) 59 := fun A g s x dx n i t Q E R ok le hx hd hne gx gd K =>
  Mine.op_init Y.acc Y.init_at Y.cell (by decide +kernel) (by decide +kernel) Y.m_sa Y.m_sz rfl (scall rfl) (fun _ => rfl) (fun _ => rfl) R ok le hx hd hne gx gd K
include X
theorem PileW.op_len0 : AOpT W (k + 1) 89 84 lenO :=
  Mine.op_len Y.acc Y.len_at (by decide +kernel) rfl (by decide +kernel) (by decide +kernel) ⟨rfl, by decide +kernel, by decide +kernel, by decide +kernel, by decide +kernel, by decide +kernel, by decide +kernel, rfl⟩ X.g_b_sum X.g_b_len Y.m_sz Y.bi
theorem PileW.op_len : AOpT W (k + 1) 89 84 lenP :=
  (PileW.op_len0 X Y k).sub fun a b d h => by
    simp only [lenP, Option.bind_eq_some_iff] at h
    obtain ⟨z, h1, h2⟩ := h
    split at h2
    · rw [Option.ite_none_right_eq_some] at h2; rw [h1, h2.2]
    · cases h2
theorem PileW.op_str : AOpT W (k + 1) 96 91 strO :=
  Mine.op_str Y.acc Y.str_at (by decide +kernel) rfl rfl rfl (by decide +kernel) (by decide +kernel) ⟨rfl, by decide +kernel, by decide +kernel, by decide +kernel, by decide +kernel, by decide +kernel, by decide +kernel, rfl⟩ X.g_empty Y.bi
end
noncomputable def tokTab (x : Str) : Option Int := List.lookup x [("(", 7), (")", 8), ("[", 9), ("]", 10), (":", 11), (",", 12), (";", 13), ("+", 14), ("-", 15), ("*", 16), ("/", 17), ("|", 18), ("&", 19), ("<", 20), (">", 21), ("=", 22), (".", 23), ("%", 24), ("{", 25), ("}", 26), ("==", 27)]
noncomputable def t_pile_1 : L -> Option (Fl × L) := (pileN 4 (nameF 3))
noncomputable def t_pile_2 : L -> Option (Fl × L) := (asgO 5 (compF 4 1 (itF (nameF 1)) (emitF trueF (pileF 4 pushO (consL (nameF 2) (consL (cmpF 1) nilL))))))
noncomputable def t_pile_3 : L -> Option (Fl × L) := (tupR [6, 7] (consX (ownX (lstF nilL)) (consX (ownX (lstF nilL)) nilX)))
noncomputable def t_pile_4 : L -> Option (Fl × L) := (exprF (appF 6 (pileT 4 strO)))
noncomputable def t_pile_5 : L -> Option (Fl × L) := (tupR [9, 10] (consX (valX (bin2 itemD (nameF 0) (bin2 modD (nameF 8) (callF lenD (consL (nameF 0) nilL))))) (consX (ownX (lstF nilL)) nilX)))
noncomputable def t_pile_6 : L -> Option (Fl × L) := (exprF (appF 10 (pileF 4 popO nilL)))
noncomputable def t_pile_7 : L -> Option (Fl × L) := (asgO 10 (addL (nameF 10) (pileF 4 popfO (consL (bin2 addD (bin2 subD (pileF 4 pcO nilL) (nameF 9)) (cI 1)) nilL))))
noncomputable def t_pile_8 : L -> Option (Fl × L) := (condF (notF (tstF (callF o_iseof (consL (nameF 9) nilL)))) (seqF t_pile_6 (seqF t_pile_7 nextF)) nextF)
noncomputable def t_pile_9 : L -> Option (Fl × L) := (exprF (pileF 4 pushO (consL (bin2 itemD (nameF 11) (cI 0)) (consL (bin2 itemD (nameF 11) (cI 1)) nilL))))
noncomputable def t_pile_10 : L -> Option (Fl × L) := (forF (itF (nameF 10)) (tgtN 11) (seqF t_pile_9 nextF))
noncomputable def t_pile_11 : L -> Option (Fl × L) := (exprF (appF 7 (nameF 10)))
noncomputable def t_pile_12 : L -> Option (Fl × L) := (forF (rngF (consL (bin2 mulD (callF lenD (consL (nameF 0) nilL)) (bin2 addD (callF lenD (consL (nameF 1) nilL)) (cI 1))) nilL)) (tgtN 8) (seqF t_pile_4 (seqF t_pile_5 (seqF t_pile_8 (seqF t_pile_10 (seqF t_pile_11 nextF))))))
noncomputable def t_pile_13 : L -> Option (Fl × L) := (retF (tupF (consL (nameF 6) (consL (nameF 7) (consL (ifF (tstF (bin2 eqD (nameF 5) (ofO (repF (ofO (lstF (consL cN nilL))) (callF lenD (consL (nameF 1) nilL)))))) (pileT 4 lenP) (un1 negD (cI 1))) nilL)))))
noncomputable def m_pile : L -> Option (Fl × L) :=
  (seqF t_pile_1 (seqF t_pile_2 (seqF t_pile_3 (seqF t_pile_12 (seqF t_pile_13 nextF)))))
noncomputable def o_pile : List PyData -> Option PyData := fnA 4 17 m_pile
theorem d_pile {W : Wd} {mN : Str -> Option Value} (X : Env0 W) (Y : PileW W mN) (k : Nat) : Exs W (k + 4) F_pile.scope F_pile.body m_pile :=
  (exs_cons (ex_assignPile Y.acc Y.m_init Y.init_at lk_list_init (PileW.op_init Y _) (by decide +kernel) (by decide +kernel) (X.C ▸ X.g_cls) (ev_name (by decide +kernel)) (fun _ => rfl) (fun _ _ => rfl))
  (exs_cons (ex_compUse (nn := 4) (evIt_val (ev_name (by decide +kernel))) turn1 (cb_emit tstI_nil (ev_pile1 Y.acc (by decide +kernel) (mcall (fun _ => rfl) (fun _ => rfl) rfl) Y.m_push Y.push_at (by decide) lk_push (fun _ => rfl) (evL_cons (ev_name (by decide +kernel)) (evL_cons (ev_cmp (by decide +kernel)) evL_nil (fun _ => rfl)) (fun _ => rfl)) (PileW.op_push Y _))) (by decide +kernel) (by decide +kernel) (fun _ _ => rfl) (by decide +kernel) (sw_true rfl (by decide +kernel)))
  (exs_cons (ex_tupR [("texts", 6), ("taken", 7)] (evXs_cons (evX_own (evO_list evL_nil)) (evXs_cons (evX_own (evO_list evL_nil)) evXs_nil (fun _ => rfl)) (fun _ => rfl)) (by decide +kernel) (fun _ _ => rfl) (fun env h => by cases env; cases h; kernel_rfl))
  (exs_cons (ex_for (evIt_range (by decide +kernel) X.g_b_range (evL_cons (ev_bin (ev_callB (by decide +kernel) X.g_b_len (evL_cons (ev_name (by decide +kernel)) evL_nil (fun _ => rfl)) opN_len (fun _ => rfl) (fun _ _ => rfl)) (ev_bin (ev_callB (by decide +kernel) X.g_b_len (evL_cons (ev_name (by decide +kernel)) evL_nil (fun _ => rfl)) opN_len (fun _ => rfl) (fun _ _ => rfl)) ev_int op2_add) op2_mul) evL_nil (fun _ => rfl)) (fun _ => rfl) (fun _ _ => rfl)) (asg_name (by decide +kernel)) (exs_cons (ex_expr (ev_append (by decide +kernel) rfl rfl (fun _ => rfl) (ev_strPile Y.acc (by decide +kernel) (by decide +kernel) X.g_b_str Y.m_str Y.str_at (PileW.op_str X Y _))) (fun _ => rfl))
  (exs_cons (ex_tupR [("card", 9), ("moved", 10)] (evXs_cons (evX_val (ev_sub (ev_name (by decide +kernel)) (ev_bin (ev_name (by decide +kernel)) (ev_callB (by decide +kernel) X.g_b_len (evL_cons (ev_name (by decide +kernel)) evL_nil (fun _ => rfl)) opN_len (fun _ => rfl) (fun _ _ => rfl)) op2_mod) (op2_item (fun _ _ => rfl)))) (evXs_cons (evX_own (evO_list evL_nil)) evXs_nil (fun _ => rfl)) (fun _ => rfl)) (by decide +kernel) (fun _ _ => rfl) (fun env h => by cases env; cases h; kernel_rfl))
  (exs_cons (ex_if (tst_not (tst_plain (ev_call (by decide +kernel) X.g_fn_iseof X.at_iseof (evL_cons (ev_name (by decide +kernel)) evL_nil (fun _ => rfl)) (ok_iseof X _) (fun _ => rfl)) (fun _ _ => rfl))) (exs_cons (ex_expr (ev_append (by decide +kernel) rfl rfl (fun _ => rfl) (ev_pile0 Y.acc (by decide +kernel) (mcall (fun _ => rfl) (fun _ => rfl) rfl) Y.m_pop Y.pop_at (by decide) lk_pop (PileW.op_pop Y _))) (fun _ => rfl))
  (exs_cons (ex_assignO (by decide +kernel) (evO_add (ev_name (by decide +kernel)) (ev_pile1 Y.acc (by decide +kernel) (mcall (fun _ => rfl) (fun _ => rfl) rfl) Y.m_popf Y.popf_at (by decide) lk_popf (fun _ => rfl) (evL_cons (ev_bin (ev_bin (ev_pile0 Y.acc (by decide +kernel) (mcall (fun _ => rfl) (fun _ => rfl) rfl) Y.m_pc Y.pc_at (by decide) lk_pc (PileW.op_pc Y _)) (ev_name (by decide +kernel)) op2_sub) ev_int op2_add) evL_nil (fun _ => rfl)) (PileW.op_popf Y _))) (fun _ _ => rfl))
  exs_nil)) exs_nil)
  (exs_cons (ex_for (evIt_val (ev_name (by decide +kernel))) (asg_name (by decide +kernel)) (exs_cons (ex_expr (ev_pile1 Y.acc (by decide +kernel) (mcall (fun _ => rfl) (fun _ => rfl) rfl) Y.m_push Y.push_at (by decide) lk_push (fun _ => rfl) (evL_cons (ev_sub (ev_name (by decide +kernel)) ev_int (op2_item (fun _ _ => rfl))) (evL_cons (ev_sub (ev_name (by decide +kernel)) ev_int (op2_item (fun _ _ => rfl))) evL_nil (fun _ => rfl)) (fun _ => rfl)) (PileW.op_push Y _)) (fun _ => rfl))
  exs_nil) (fun _ _ => rfl))
  (exs_cons (ex_expr (ev_append (by decide +kernel) rfl rfl (fun _ => rfl) (ev_name (by decide +kernel))) (fun _ => rfl))
  exs_nil))))) (fun _ _ => rfl))
  (exs_cons (ex_return (ev_tuple (evL_cons (ev_name (by decide +kernel)) (evL_cons (ev_name (by decide +kernel)) (evL_cons (ev_ifexp (tst_cmp1 (ev_name (by decide +kernel)) (ev_ofO (evO_rep (ev_ofO (evO_list (evL_cons ev_none evL_nil (fun _ => rfl)))) (ev_callB (by decide +kernel) X.g_b_len (evL_cons (ev_name (by decide +kernel)) evL_nil (fun _ => rfl)) opN_len (fun _ => rfl) (fun _ _ => rfl)))) op2_eq rfl) (ev_lenPile Y.acc (by decide +kernel) (by decide +kernel) X.g_b_len Y.m_len Y.len_at (PileW.op_len X Y _)) (ev_neg ev_int)) evL_nil (fun _ => rfl)) (fun _ => rfl)) (fun _ => rfl))))
  exs_nil)))))
theorem ok_pile {W : Wd} {mN : Str -> Option Value} (X : Env0 W) (Y : PileW W mN) (k : Nat) : OpM W (k + 5) (fun vs => call (.ref 162) vs) o_pile :=
  fn_okM (n := 4) X.at_pile (d_pile X Y k) rfl rfl rfl (by decide +kernel) (by decide +kernel) (by decide +kernel) (len4 fun a0 a1 a2 a3 pm code doc => rfl) (by decide +kernel)
noncomputable def t_law_1 : L -> Option (Fl × L) := (asgF 1 (callF o_cells (consL (nameF 0) nilL)))
noncomputable def t_law_2 : L -> Option (Fl × L) := (tupL [2, 3] (consX (valX (bin2 addD (cI 3) (bin2 modD (bin2 itemD (nameF 1) (cI 0)) (cI 3)))) (consX (valX (bin2 addD (cI 2) (bin2 modD (bin2 fdivD (bin2 itemD (nameF 1) (cI 0)) (cI 3)) (cI 3)))) nilX)))
noncomputable def t_law_3 : L -> Option (Fl × L) := (asgF 4 (cutF (cutF (cS "!Aa~!Aa~") (intP (bin2 modD (bin2 fdivD (bin2 itemD (nameF 1) (cI 0)) (cI 9)) (cI 4))) noP) noP (intP (nameF 3))))
noncomputable def t_law_4 : L -> Option (Fl × L) := (tupR [5, 6] (consX (valX (bin2 mulD (cS " ") (bin2 modD (bin2 fdivD (bin2 itemD (nameF 1) (cI 0)) (cI 36)) (cI 3)))) (consX (valX (bin2 modD (bin2 fdivD (bin2 itemD (nameF 1) (cI 0)) (cI 108)) (cI 4))) nilX)))
noncomputable def t_law_5 : L -> Option (Fl × L) := (asgO 7 (compF 4 1 (rngF (consL (nameF 2) nilL)) (emitF trueF (bin2 modD (bin2 fdivD (bin2 itemD (nameF 1) (cI 1)) (bin2 powD (bin2 addD (nameF 3) (cI 1)) (cmpF 1))) (bin2 addD (nameF 3) (cI 1))))))
noncomputable def t_law_6 : L -> Option (Fl × L) := (tupD [8, 9, 10] (callF o_pile (consL (nameF 7) (consL (nameF 4) (consL (nameF 5) (consL (nameF 6) nilL))))))
noncomputable def t_law_7 : L -> Option (Fl × L) := (retF (cB false))
noncomputable def t_law_8 : L -> Option (Fl × L) := (condF (orF (tstF (bin2 neD (tupF (consL (nameF 8) (consL (nameF 9) nilL))) (callF o_order (consL (nameF 7) (consL (nameF 4) (consL (nameF 5) nilL)))))) (tstF (bin2 neD (nameF 10) (bin2 addD (nameF 6) (bin2 mulD (nameF 3) (bin2 addD (cI 1) (callF lenD (consL (nameF 5) nilL)))))))) (seqF t_law_7 nextF) nextF)
noncomputable def t_law_9 : L -> Option (Fl × L) := (asgO 11 (compF 2 1 (itF (nameF 9)) (emitF trueF (ifF (tstF (bin2 neD (cmpF 1) (ofO (lstF nilL)))) (bin2 itemD (bin2 itemD (cmpF 1) (cI 0)) (cI 1)) (cS "")))))
noncomputable def t_law_10 : L -> Option (Fl × L) := (asgF 12 (methF isStrD splitD (cS "( ) [ ] : , ; + - * / | & < > = . % { } ==") (consL (cS " ") nilL)))
noncomputable def t_law_11 : L -> Option (Fl × L) := (asgO 13 (compF 4 1 (itF (callF o_heights (consL (nameF 11) (consL (nameF 2) nilL)))) (emitF trueF (bin2 subD (tabF tokTab (bin2 itemD (nameF 12) (cmpF 1))) (cI 7)))))
noncomputable def t_law_12 : L -> Option (Fl × L) := (retF (cB false))
noncomputable def t_law_13 : L -> Option (Fl × L) := (condF (orF (tstF (bin2 neD (callF sumD (consL (nameF 13) nilL)) (bin2 mulD (nameF 2) (callF maxD (consL (nameF 7) nilL))))) (tstF (bin2 neD (callF o_cards (consL (nameF 13) (consL (nameF 3) nilL))) (nameF 7)))) (seqF t_law_12 nextF) nextF)
noncomputable def t_law_14 : L -> Option (Fl × L) := (asgO 14 (compF 4 1 (rngF (consL (bin2 mulD (cI 2) (nameF 2)) nilL)) (emitF trueF (bin2 addD (cmpF 1) (bin2 itemD (nameF 13) (bin2 modD (cmpF 1) (nameF 2)))))))
noncomputable def t_law_15 : L -> Option (Fl × L) := (retF (cB false))
noncomputable def t_law_16 : L -> Option (Fl × L) := (condF (tstF (bin2 isNotD (callF o_iseof (consL (bin2 subD (bin2 itemD (nameF 14) (nameF 15)) (bin2 itemD (nameF 14) (nameF 16))) nilL)) (bin2 eqD (nameF 15) (nameF 16)))) (seqF t_law_15 nextF) nextF)
noncomputable def t_law_17 : L -> Option (Fl × L) := (forF (rngF (consL (bin2 mulD (cI 2) (nameF 2)) nilL)) (tgtN 16) (seqF t_law_16 nextF))
noncomputable def t_law_18 : L -> Option (Fl × L) := (forF (rngF (consL (bin2 mulD (cI 2) (nameF 2)) nilL)) (tgtN 15) (seqF t_law_17 nextF))
noncomputable def t_law_19 : L -> Option (Fl × L) := (retF (andV (callF o_lnames (consL (nameF 4) nilL)) (callF o_lines (consL (nameF 8) (consL (nameF 11) (consL (nameF 13) (consL (nameF 4) (consL (nameF 5) nilL))))))))
noncomputable def m_law : L -> Option (Fl × L) :=
  (seqF t_law_1 (seqF t_law_2 (seqF t_law_3 (seqF t_law_4 (seqF t_law_5 (seqF t_law_6 (seqF t_law_8 (seqF t_law_9 (seqF t_law_10 (seqF t_law_11 (seqF t_law_13 (seqF t_law_14 (seqF t_law_18 (seqF t_law_19 nextF))))))))))))))
noncomputable def o_law : List PyData -> Option PyData := fnA 1 29 m_law
theorem d_law {W : Wd} {mN : Str -> Option Value} (X : Env0 W) (Y : PileW W mN) (Z : TabAt W 127 tokTab) (k : Nat) : Exs W (k + 5) F_law.scope F_law.body m_law :=
  (exs_cons (ex_assign (by decide +kernel) (ev_call (by decide +kernel) X.g_fn_cells X.at_cells (evL_cons (ev_name (by decide +kernel)) evL_nil (fun _ => rfl)) (ok_cells X _) (fun _ => rfl)) (fun _ _ => rfl))
  (exs_cons (ex_tupL [("beats", 2), ("balls", 3)] (evXs_cons (evX_val (ev_bin ev_int (ev_bin (ev_sub (ev_name (by decide +kernel)) ev_int (op2_item (fun _ _ => rfl))) ev_int op2_mod) op2_add)) (evXs_cons (evX_val (ev_bin ev_int (ev_bin (ev_bin (ev_sub (ev_name (by decide +kernel)) ev_int (op2_item (fun _ _ => rfl))) ev_int op2_fdiv) ev_int op2_mod) op2_add)) evXs_nil (fun _ => rfl)) (fun _ => rfl)) (fun _ => (.cons (.cons .nil))) (by decide +kernel) (fun _ _ => rfl) (fun env h => by cases env; cases h; kernel_rfl))
  (exs_cons (ex_assign (by decide +kernel) (ev_cut (ev_cut ev_str (evP_some (ev_bin (ev_bin (ev_sub (ev_name (by decide +kernel)) ev_int (op2_item (fun _ _ => rfl))) ev_int op2_fdiv) ev_int op2_mod)) evP_none) evP_none (evP_some (ev_name (by decide +kernel)))) (fun _ _ => rfl))
  (exs_cons (ex_tupR [("tail", 5), ("first", 6)] (evXs_cons (evX_val (ev_bin ev_str (ev_bin (ev_bin (ev_sub (ev_name (by decide +kernel)) ev_int (op2_item (fun _ _ => rfl))) ev_int op2_fdiv) ev_int op2_mod) op2_mul)) (evXs_cons (evX_val (ev_bin (ev_bin (ev_sub (ev_name (by decide +kernel)) ev_int (op2_item (fun _ _ => rfl))) ev_int op2_fdiv) ev_int op2_mod)) evXs_nil (fun _ => rfl)) (fun _ => rfl)) (by decide +kernel) (fun _ _ => rfl) (fun env h => by cases env; cases h; kernel_rfl))
  (exs_cons (ex_compUse (nn := 4) (evIt_range (by decide +kernel) X.g_b_range (evL_cons (ev_name (by decide +kernel)) evL_nil (fun _ => rfl)) (fun _ => rfl) (fun _ _ => rfl)) turn1 (cb_emit tstI_nil (ev_bin (ev_bin (ev_sub (ev_name (by decide +kernel)) ev_int (op2_item (fun _ _ => rfl))) (ev_bin (ev_bin (ev_name (by decide +kernel)) ev_int op2_add) (ev_cmp (by decide +kernel)) op2_pow) op2_fdiv) (ev_bin (ev_name (by decide +kernel)) ev_int op2_add) op2_mod)) (by decide +kernel) (by decide +kernel) (fun _ _ => rfl) (by decide +kernel) (sw_true rfl (by decide +kernel)))
  (exs_cons (ex_tupD [("texts", 8), ("taken", 9), ("size", 10)] (ev_callM (by decide +kernel) X.g_fn_pile X.at_pile (evL_cons (ev_name (by decide +kernel)) (evL_cons (ev_name (by decide +kernel)) (evL_cons (ev_name (by decide +kernel)) (evL_cons (ev_name (by decide +kernel)) evL_nil (fun _ => rfl)) (fun _ => rfl)) (fun _ => rfl)) (fun _ => rfl)) (ok_pile X Y _) (fun _ => rfl)) (fun _ => (.cons (.cons (.cons .nil)))) (by decide +kernel) (fun _ _ => rfl) (fun _ _ => rfl))
  (exs_cons (ex_if (tst_or2 (tst_cmp1 (ev_tuple (evL_cons (ev_name (by decide +kernel)) (evL_cons (ev_name (by decide +kernel)) evL_nil (fun _ => rfl)) (fun _ => rfl))) (ev_call (by decide +kernel) X.g_fn_order X.at_order (evL_cons (ev_name (by decide +kernel)) (evL_cons (ev_name (by decide +kernel)) (evL_cons (ev_name (by decide +kernel)) evL_nil (fun _ => rfl)) (fun _ => rfl)) (fun _ => rfl)) (ok_order X _) (fun _ => rfl)) op2_ne rfl) (tst_cmp1 (ev_name (by decide +kernel)) (ev_bin (ev_name (by decide +kernel)) (ev_bin (ev_name (by decide +kernel)) (ev_bin ev_int (ev_callB (by decide +kernel) X.g_b_len (evL_cons (ev_name (by decide +kernel)) evL_nil (fun _ => rfl)) opN_len (fun _ => rfl) (fun _ _ => rfl)) op2_add) op2_mul) op2_add) op2_ne rfl)) (exs_cons (ex_return ev_bool)
  exs_nil) exs_nil)
  (exs_cons (ex_compUse (nn := 2) (evIt_val (ev_name (by decide +kernel))) turn1 (cb_emit tstI_nil (ev_ifexp (tst_cmp1 (ev_cmp (by decide +kernel)) (ev_ofO (evO_list evL_nil)) op2_ne rfl) (ev_sub (ev_sub (ev_cmp (by decide +kernel)) ev_int (op2_item (fun _ _ => rfl))) ev_int (op2_item (fun _ _ => rfl))) ev_str)) (by decide +kernel) (by decide +kernel) (fun _ _ => rfl) (by decide +kernel) (sw_true rfl (by decide +kernel)))
  (exs_cons (ex_assign (by decide +kernel) (ev_split (fun _ => rfl) rfl ev_str (evL_cons ev_str evL_nil (fun _ => rfl)) (fun _ => rfl)) (fun _ _ => rfl))
  (exs_cons (ex_assignO (by decide +kernel) (evO_comp (nn := 4) (evIt_val (ev_call (by decide +kernel) X.g_fn_heights X.at_heights (evL_cons (ev_name (by decide +kernel)) (evL_cons (ev_name (by decide +kernel)) evL_nil (fun _ => rfl)) (fun _ => rfl)) (ok_heights X _) (fun _ => rfl))) turn1 (cb_emit tstI_nil (ev_bin (ev_tab (by decide +kernel) X.g_tab Z (ev_sub (ev_name (by decide +kernel)) (ev_cmp (by decide +kernel)) (op2_item (fun _ _ => rfl))) (fun _ _ => rfl)) ev_int op2_sub)) (by decide +kernel) (by decide +kernel) (fun _ _ => rfl)) (sw_false (by decide +kernel)))
  (exs_cons (ex_if (tst_or2 (tst_cmp1 (ev_callB (by decide +kernel) X.g_b_sum (evL_cons (ev_name (by decide +kernel)) evL_nil (fun _ => rfl)) opN_sum (fun _ => rfl) (fun _ _ => rfl)) (ev_bin (ev_name (by decide +kernel)) (ev_callBI (by decide +kernel) X.g_b_max (evL_cons (ev_name (by decide +kernel)) evL_nil (fun _ => rfl)) opI_max (fun _ => rfl) (fun _ _ => rfl)) op2_mul) op2_ne rfl) (tst_cmp1 (ev_call (by decide +kernel) X.g_fn_cards X.at_cards (evL_cons (ev_name (by decide +kernel)) (evL_cons (ev_name (by decide +kernel)) evL_nil (fun _ => rfl)) (fun _ => rfl)) (ok_cards X _) (fun _ => rfl)) (ev_name (by decide +kernel)) op2_ne rfl)) (exs_cons (ex_return ev_bool)
  exs_nil) exs_nil)
  (exs_cons (ex_compUse (nn := 4) (evIt_range (by decide +kernel) X.g_b_range (evL_cons (ev_bin ev_int (ev_name (by decide +kernel)) op2_mul) evL_nil (fun _ => rfl)) (fun _ => rfl) (fun _ _ => rfl)) turn1 (cb_emit tstI_nil (ev_bin (ev_cmp (by decide +kernel)) (ev_sub (ev_name (by decide +kernel)) (ev_bin (ev_cmp (by decide +kernel)) (ev_name (by decide +kernel)) op2_mod) (op2_item (fun _ _ => rfl))) op2_add)) (by decide +kernel) (by decide +kernel) (fun _ _ => rfl) (by decide +kernel) (sw_true rfl (by decide +kernel)))
  (exs_cons (ex_for (evIt_range (by decide +kernel) X.g_b_range (evL_cons (ev_bin ev_int (ev_name (by decide +kernel)) op2_mul) evL_nil (fun _ => rfl)) (fun _ => rfl) (fun _ _ => rfl)) (asg_name (by decide +kernel)) (exs_cons (ex_for (evIt_range (by decide +kernel) X.g_b_range (evL_cons (ev_bin ev_int (ev_name (by decide +kernel)) op2_mul) evL_nil (fun _ => rfl)) (fun _ => rfl) (fun _ _ => rfl)) (asg_name (by decide +kernel)) (exs_cons (ex_if (tst_cmp1 (ev_call (by decide +kernel) X.g_fn_iseof X.at_iseof (evL_cons (ev_bin (ev_sub (ev_name (by decide +kernel)) (ev_name (by decide +kernel)) (op2_item (fun _ _ => rfl))) (ev_sub (ev_name (by decide +kernel)) (ev_name (by decide +kernel)) (op2_item (fun _ _ => rfl))) op2_sub) evL_nil (fun _ => rfl)) (ok_iseof X _) (fun _ => rfl)) (ev_cmp1 (ev_name (by decide +kernel)) (ev_name (by decide +kernel)) op2_eq rfl) op2_isNot rfl) (exs_cons (ex_return ev_bool)
  exs_nil) exs_nil)
  exs_nil) (fun _ _ => rfl))
  exs_nil) (fun _ _ => rfl))
  (exs_cons (ex_return (ev_and2 (ev_call (by decide +kernel) X.g_fn_lnames X.at_lnames (evL_cons (ev_name (by decide +kernel)) evL_nil (fun _ => rfl)) (ok_lnames X _) (fun _ => rfl)) (ev_call (by decide +kernel) X.g_fn_lines X.at_lines (evL_cons (ev_name (by decide +kernel)) (evL_cons (ev_name (by decide +kernel)) (evL_cons (ev_name (by decide +kernel)) (evL_cons (ev_name (by decide +kernel)) (evL_cons (ev_name (by decide +kernel)) evL_nil (fun _ => rfl)) (fun _ => rfl)) (fun _ => rfl)) (fun _ => rfl)) (fun _ => rfl)) (ok_lines X _) (fun _ => rfl))))
  exs_nil))))))))))))))
theorem ok_law {W : Wd} {mN : Str -> Option Value} (X : Env0 W) (Y : PileW W mN) (Z : TabAt W 127 tokTab) (k : Nat) : OpM W (k + 6) (fun vs => call (.ref 207) vs) o_law :=
  fn_okM (n := 1) X.at_law (d_law X Y Z k) rfl rfl rfl (by decide +kernel) (by decide +kernel) (by decide +kernel) (len1 fun a0 pm code doc => rfl) (by decide +kernel)
noncomputable abbrev LN := List Nat
noncomputable def addOne (l : LN) : LN := @List.rec Nat (fun _ => LN) [] (fun a _ ih => Nat.succ a :: ih) l
noncomputable def dropAt (l : LN) : Nat -> LN := @List.rec Nat (fun _ => Nat -> LN) (fun _ => []) (fun a r ih k => @Nat.rec (fun _ => LN) r (fun k _ => a :: ih k) k) l
noncomputable def valAt (l : LN) : Nat -> Nat := @List.rec Nat (fun _ => Nat -> Nat) (fun _ => 0) (fun a r ih k => @Nat.rec (fun _ => Nat) a (fun k _ => ih k) k) l
noncomputable def back (c : Nat) (P : LN) : LN := @Nat.rec (fun _ => LN) (addOne P) (fun k _ => 0 :: addOne (dropAt P k)) c
noncomputable def hgt (c : Nat) (P : LN) : Nat := @Nat.rec (fun _ => Nat) 0 (fun k _ => Nat.succ (valAt P k)) c
noncomputable def PS (Q : LN) (l : LN) : LN := @List.rec Nat (fun _ => LN) Q (fun c _ ih => back c ih) l
noncomputable def hS (Q : LN) (l : LN) : LN := @List.rec Nat (fun _ => LN) [] (fun c r ih => hgt c (PS Q r) :: ih) l
noncomputable def maxC (l : LN) : Nat := @List.rec Nat (fun _ => Nat) 0 (fun a _ ih => @Bool.rec (fun _ => Nat) ih a (Nat.ble ih a)) l
noncomputable def times (k : Nat) (c : LN) : LN -> LN := @Nat.rec (fun _ => LN -> LN) (fun Q => Q) (fun _ ih Q => ih (PS Q c)) k
noncomputable def upN (k : Nat) : Nat -> LN := @Nat.rec (fun _ => Nat -> LN) (fun _ => []) (fun _ ih a => a :: ih (Nat.succ a)) k
noncomputable def andR (a b : Bool) : Bool := @Bool.rec (fun _ => Bool) false b a
noncomputable def eqB (l : LN) : LN -> Bool := @List.rec Nat (fun _ => LN -> Bool) (fun s => @List.rec Nat (fun _ => Bool) true (fun _ _ _ => false) s) (fun a _ ih s => @List.rec Nat (fun _ => Bool) false (fun b t _ => andR (Nat.beq a b) (ih t)) s) l
noncomputable def gtAll (a : Nat) (l : LN) : Bool := @List.rec Nat (fun _ => Bool) true (fun b _ ih => andR (Nat.ble (Nat.succ a) b) ih) l
noncomputable def incB (l : LN) : Bool := @List.rec Nat (fun _ => Bool) true (fun a r ih => andR (gtAll a r) ih) l
noncomputable def allLe (k : Nat) (l : LN) : Bool := @List.rec Nat (fun _ => Bool) true (fun b _ ih => andR (Nat.ble b k) ih) l
noncomputable def sumN (l : LN) : Nat := @List.rec Nat (fun _ => Nat) 0 (fun a _ ih => Nat.add a ih) l
noncomputable def falls (l : LN) : Nat -> LN := @List.rec Nat (fun _ => Nat -> LN) (fun _ => []) (fun h _ ih b => Nat.add b h :: ih (Nat.succ b)) l
noncomputable def notIn (a : Nat) (l : LN) : Bool := @List.rec Nat (fun _ => Bool) true (fun b _ ih => @Bool.rec (fun _ => Bool) ih false (Nat.beq a b)) l
noncomputable def nodupB (l : LN) : Bool := @List.rec Nat (fun _ => Bool) true (fun a r ih => andR (notIn a r) ih) l
noncomputable def cross (h : Nat) (l : LN) : Nat -> Nat := @List.rec Nat (fun _ => Nat -> Nat) (fun _ => 0)
  (fun g _ ih k => @Bool.rec (fun _ => Nat) (ih (Nat.pred k)) (@Bool.rec (fun _ => Nat) (ih (Nat.pred k)) (Nat.succ (ih (Nat.pred k))) (Nat.ble (Nat.succ g) (Nat.add k h))) (Nat.ble (Nat.succ k) g)) l
noncomputable def app (l s : LN) : LN := @List.rec Nat (fun _ => LN) s (fun a _ ih => a :: ih) l
noncomputable def rep (k : Nat) (l : LN) : LN := @Nat.rec (fun _ => LN) [] (fun _ ih => app l ih) k
noncomputable def cardB (m nm : Nat) (l : LN) (h : Nat) : Nat := @Nat.rec (fun _ => Nat) 0 (fun _ _ => Nat.succ (cross h (rep m l) nm)) h
noncomputable def cardsBk (m nm : Nat) (l : LN) : LN -> LN := @List.rec Nat (fun _ => LN -> LN) (fun _ => []) (fun h r ih seen => cardB m nm (app (h :: r) seen) h :: ih (app seen [h])) l
noncomputable def fixP (c : LN) : LN := times (maxC c) c (upN (maxC c) 0)
noncomputable def okC (n : Nat) (c : LN) : Bool :=
  (fun M => (fun P => (fun hs => andR (eqB (PS P c) P) (andR (incB P) (andR (allLe (Nat.mul n M) hs) (andR (allLe (Nat.mul n M) (addOne P)) (andR (Nat.beq (sumN hs) (Nat.mul n M)) (nodupB (falls (app hs hs) 0))))))) (hS P c)) (times M c (upN M 0))) (maxC c)
noncomputable def okB (n m : Nat) (c : LN) : Bool := eqB (cardsBk m (Nat.mul n m) (hS (fixP c) c) []) c
noncomputable def upTo (m : Nat) (p : Nat -> Bool) : Bool := @Nat.rec (fun _ => Bool) (p 0) (fun k ih => andR (p (Nat.succ k)) ih) m
noncomputable def forC (m n : Nat) : (LN -> Bool) -> Bool := @Nat.rec (fun _ => (LN -> Bool) -> Bool) (fun p => p []) (fun _ ih p => upTo m fun x => ih fun c => p (x :: c)) n
theorem up4 {q : Nat -> Bool} (h0 : q 0 = true) (h1 : q 1 = true) (h2 : q 2 = true) (h3 : q 3 = true) (h4 : q 4 = true) : upTo 4 q = true := by
  show andR (q 4) (andR (q 3) (andR (q 2) (andR (q 1) (q 0)))) = true
  rw [h0, h1, h2, h3, h4]; rfl
theorem okC3 : forC 4 3 (okC 3) = true := by decide +kernel
theorem okC4 : forC 4 4 (okC 4) = true := by decide +kernel
theorem okC5 : forC 4 5 (okC 5) = true := up4 (q := fun x => forC 4 4 fun c => okC 5 (x :: c)) (by decide +kernel) (by decide +kernel) (by decide +kernel) (by decide +kernel) (by decide +kernel)
theorem okB32 : forC 2 3 (okB 3 2) = true := by decide +kernel
theorem okB33 : forC 3 3 (okB 3 3) = true := by decide +kernel
theorem okB34 : forC 4 3 (okB 3 4) = true := by decide +kernel
theorem okB42 : forC 2 4 (okB 4 2) = true := by decide +kernel
theorem okB43 : forC 3 4 (okB 4 3) = true := by decide +kernel
theorem okB44 : forC 4 4 (okB 4 4) = true := by decide +kernel
theorem okB52 : forC 2 5 (okB 5 2) = true := by decide +kernel
theorem okB53 : forC 3 5 (okB 5 3) = true := by decide +kernel
theorem okB54 : forC 4 5 (okB 5 4) = true := up4 (q := fun x => forC 4 4 fun c => okB 5 4 (x :: c)) (by decide +kernel) (by decide +kernel) (by decide +kernel) (by decide +kernel) (by decide +kernel)
theorem addOne_eq : ∀ l, addOne l = l.map (· + 1)
  | [] => rfl
  | a :: r => by show Nat.succ a :: addOne r = _; rw [addOne_eq r]; rfl
theorem dropAt_eq : ∀ l k, dropAt l k = l.eraseIdx k
  | [], k => by cases k <;> rfl
  | a :: r, 0 => rfl
  | a :: r, k + 1 => by show a :: dropAt r k = _; rw [dropAt_eq r k]; rfl
theorem valAt_eq : ∀ l k, valAt l k = l.getD k 0
  | [], k => by cases k <;> rfl
  | a :: r, 0 => rfl
  | a :: r, k + 1 => by show valAt r k = _; rw [valAt_eq r k]; rfl
theorem back_zero (P : LN) : back 0 P = P.map (· + 1) := addOne_eq P
theorem back_succ (k : Nat) (P : LN) : back (k + 1) P = 0 :: (P.eraseIdx k).map (· + 1) := by show 0 :: addOne (dropAt P k) = _; rw [addOne_eq, dropAt_eq]
theorem hgt_succ (k : Nat) (P : LN) : hgt (k + 1) P = P.getD k 0 + 1 := by show Nat.succ (valAt P k) = _; rw [valAt_eq]
theorem PS_cons (Q : LN) (c : Nat) (cs : LN) : PS Q (c :: cs) = back c (PS Q cs) := rfl
theorem hS_cons (Q : LN) (c : Nat) (cs : LN) : hS Q (c :: cs) = hgt c (PS Q cs) :: hS Q cs := rfl
theorem PS_append (Q : LN) (b : LN) : ∀ a, PS Q (a ++ b) = PS (PS Q b) a
  | [] => rfl
  | c :: a => by show back c (PS Q (a ++ b)) = back c (PS (PS Q b) a); rw [PS_append Q b a]
theorem hS_append (Q : LN) (b : LN) : ∀ a, hS Q (a ++ b) = hS (PS Q b) a ++ hS Q b
  | [] => rfl
  | c :: a => by show hgt c (PS Q (a ++ b)) :: hS Q (a ++ b) = hgt c (PS (PS Q b) a) :: (hS (PS Q b) a ++ hS Q b); rw [hS_append Q b a, PS_append]
theorem hS_length (Q : LN) : ∀ a, (hS Q a).length = a.length
  | [] => rfl
  | c :: a => by show (hS Q a).length + 1 = _; rw [hS_length Q a]; rfl
theorem maxC_cons (a : Nat) (r : LN) : maxC (a :: r) = if maxC r ≤ a then a else maxC r := by
  show @Bool.rec (fun _ => Nat) (maxC r) a (Nat.ble (maxC r) a) = _
  cases h : Nat.ble (maxC r) a with
  | true => rw [if_pos (Nat.le_of_ble_eq_true h)]
  | false => rw [if_neg (fun q => by rw [Nat.ble_eq_true_of_le q] at h; cases h)]
theorem le_maxC : ∀ {l : LN} {x : Nat}, x ∈ l -> x ≤ maxC l
  | a :: r, x, h => by
    rw [maxC_cons]
    rcases List.mem_cons.mp h with rfl | h
    · split <;> lia
    · have := le_maxC h; split <;> omega
theorem maxC_le : ∀ {l : LN} {m : Nat}, (∀ x ∈ l, x ≤ m) -> maxC l ≤ m
  | [], m, _ => Nat.zero_le _
  | a :: r, m, h => by
    rw [maxC_cons]
    have h1 := h a (.head _)
    have h2 := maxC_le fun x hx => h x (.tail _ hx)
    split <;> omega
theorem and_R {a b : Bool} (h : andR a b = true) : a = true ∧ b = true := by cases a <;> cases b <;> first | exact ⟨rfl, rfl⟩ | cases h
theorem eqB_eq : ∀ {l s : LN}, eqB l s = true -> l = s
  | [], [], _ => rfl
  | [], _ :: _, h => nomatch h
  | _ :: _, [], h => nomatch h
  | a :: r, b :: s, h => by
    obtain ⟨h1, h2⟩ := and_R (a := Nat.beq a b) (b := eqB r s) h
    rw [Nat.eq_of_beq_eq_true h1, eqB_eq h2]
theorem gtAll_mem : ∀ {a : Nat} {l : LN}, gtAll a l = true -> ∀ x ∈ l, a < x
  | a, b :: r, h, x, hx => by
    obtain ⟨h1, h2⟩ := and_R (a := Nat.ble (Nat.succ a) b) (b := gtAll a r) h
    rcases List.mem_cons.mp hx with rfl | hx
    · exact Nat.le_of_ble_eq_true h1
    · exact gtAll_mem h2 x hx
theorem incB_pw : ∀ {l : LN}, incB l = true -> l.Pairwise (· < ·)
  | [], _ => .nil
  | a :: r, h => by
    obtain ⟨h1, h2⟩ := and_R (a := gtAll a r) (b := incB r) h
    exact .cons (gtAll_mem h1) (incB_pw h2)
theorem allLe_mem : ∀ {k : Nat} {l : LN}, allLe k l = true -> ∀ x ∈ l, x ≤ k
  | k, b :: r, h, x, hx => by
    obtain ⟨h1, h2⟩ := and_R (a := Nat.ble b k) (b := allLe k r) h
    rcases List.mem_cons.mp hx with rfl | hx
    · exact Nat.le_of_ble_eq_true h1
    · exact allLe_mem h2 x hx
theorem sumN_eq : ∀ l : LN, sumN l = l.sum
  | [] => rfl
  | a :: r => by show a + sumN r = _; rw [sumN_eq r]; simp
theorem notIn_mem : ∀ {a : Nat} {l : LN}, notIn a l = true -> ∀ x ∈ l, a ≠ x
  | a, b :: r, h, x, hx => by
    have h' : @Bool.rec (fun _ => Bool) (notIn a r) false (Nat.beq a b) = true := h
    cases q : Nat.beq a b with
    | true => rw [q] at h'; cases h'
    | false =>
      rw [q] at h'
      rcases List.mem_cons.mp hx with rfl | hx
      · exact Nat.ne_of_beq_eq_false q
      · exact notIn_mem h' x hx
theorem nodupB_nodup : ∀ {l : LN}, nodupB l = true -> l.Nodup
  | [], _ => .nil
  | a :: r, h => by
    obtain ⟨h1, h2⟩ := and_R (a := notIn a r) (b := nodupB r) h
    exact .cons (notIn_mem h1) (nodupB_nodup h2)
theorem app_eq : ∀ l s : LN, app l s = l ++ s
  | [], _ => rfl
  | a :: r, s => by show a :: app r s = _; rw [app_eq r s]; rfl
theorem rep_eq (l : LN) : ∀ k, rep k l = (List.replicate k l).flatten
  | 0 => rfl
  | k + 1 => by show app l (rep k l) = _; rw [app_eq, rep_eq l k, List.replicate_succ, List.flatten_cons]
theorem falls_get : ∀ (l : LN) (b i : Nat), (falls l b)[i]? = l[i]?.map (b + i + ·)
  | [], b, i => by simp [falls]
  | h :: r, b, 0 => by show ((b + h) :: falls r (b + 1))[0]? = _; simp
  | h :: r, b, i + 1 => by
    show ((b + h) :: falls r (b + 1))[i + 1]? = _
    rw [List.getElem?_cons_succ, falls_get r (b + 1) i, List.getElem?_cons_succ]
    congr 1; funext x; lia
theorem falls_length (l : LN) (b : Nat) : (falls l b).length = l.length := by
  induction l generalizing b with
  | nil => rfl
  | cons h r ih => show (falls r (b + 1)).length + 1 = _; rw [ih]; rfl
theorem upTo_spec {p : Nat -> Bool} : ∀ {m : Nat}, upTo m p = true -> ∀ x, x ≤ m -> p x = true
  | 0, h, x, hx => by obtain rfl : x = 0 := by lia
                      exact h
  | m + 1, h, x, hx => by
    obtain ⟨h1, h2⟩ := and_R (a := p (m + 1)) (b := upTo m p) h
    by_cases q : x = m + 1
    · rw [q]; exact h1
    · exact upTo_spec h2 x (by lia)
theorem forC_spec {m : Nat} : ∀ {n : Nat} {p : LN -> Bool}, forC m n p = true -> ∀ c : LN, c.length = n -> (∀ x ∈ c, x ≤ m) -> p c = true
  | 0, p, h, c, hl, _ => by rw [List.length_eq_zero_iff.mp hl]; exact h
  | n + 1, p, h, [], hl, _ => by simp at hl
  | n + 1, p, h, x :: c, hl, hm => by
    have h' : upTo m (fun x => forC m n fun c => p (x :: c)) = true := h
    exact forC_spec (upTo_spec h' x (hm x (.head _))) c (by simpa using hl) fun y hy => hm y (.tail _ hy)
structure Cyc (n : Nat) (c : LN) (M : Nat) (P : LN) (hs : LN) : Prop where
  cM : ∀ x ∈ c, x ≤ M
  fix : PS P c = P
  eqh : hs = hS P c
  inc : P.Pairwise (· < ·)
  hle : ∀ h ∈ hs, h ≤ n * M
  ple : ∀ p ∈ P, p < n * M
  sum : hs.sum = n * M
  nod : (falls (hs ++ hs) 0).Nodup
theorem upN_length : ∀ k a, (upN k a).length = k
  | 0, _ => rfl
  | k + 1, a => by show (upN k (a + 1)).length + 1 = _; rw [upN_length k]
theorem back_length {c : Nat} {P : LN} (h : c ≤ P.length) : (back c P).length = P.length := by
  cases c with
  | zero => rw [back_zero, List.length_map]
  | succ k => rw [back_succ, List.length_cons, List.length_map, List.length_eraseIdx, if_pos (by assumption)]; lia
theorem PS_length {Q : LN} : ∀ {cs : LN}, (∀ c ∈ cs, c ≤ Q.length) -> (PS Q cs).length = Q.length
  | [], _ => rfl
  | c :: cs, h => by
    have ih := PS_length fun x hx => h x (.tail _ hx)
    rw [PS_cons, back_length (by rw [ih]; exact h c (.head _)), ih]
theorem times_length {c : LN} : ∀ {k : Nat} {Q : LN}, (∀ x ∈ c, x ≤ Q.length) -> (times k c Q).length = Q.length
  | 0, Q, _ => rfl
  | k + 1, Q, h => by
    show (times k c (PS Q c)).length = _
    have := PS_length h
    rw [times_length (by rw [this]; exact h), this]
theorem cyc_of {n : Nat} {c : LN} (h : okC n c = true) : Cyc n c (maxC c) (fixP c) (hS (fixP c) c) ∧ (fixP c).length = maxC c := by
  have h' : andR (eqB (PS (fixP c) c) (fixP c)) (andR (incB (fixP c)) (andR (allLe (n * maxC c) (hS (fixP c) c)) (andR (allLe (n * maxC c) (addOne (fixP c))) (andR (Nat.beq (sumN (hS (fixP c) c)) (n * maxC c)) (nodupB (falls (app (hS (fixP c) c) (hS (fixP c) c)) 0)))))) = true := h
  obtain ⟨h1, h'⟩ := and_R h'
  obtain ⟨h2, h'⟩ := and_R h'
  obtain ⟨h3, h'⟩ := and_R h'
  obtain ⟨h4, h'⟩ := and_R h'
  obtain ⟨h5, h6⟩ := and_R h'
  refine ⟨⟨fun x hx => le_maxC hx, eqB_eq h1, rfl, incB_pw h2, allLe_mem h3, fun p hp => allLe_mem h4 (p + 1) ?_, ?_, ?_⟩, ?_⟩
  · rw [addOne_eq]; exact List.mem_map.mpr ⟨p, hp, rfl⟩
  · rw [<- sumN_eq]; exact Nat.eq_of_beq_eq_true h5
  · rw [app_eq] at h6; exact nodupB_nodup h6
  · have : (upN (maxC c) 0).length = maxC c := upN_length _ _
    show (times (maxC c) c (upN (maxC c) 0)).length = _
    rw [times_length (fun x hx => by rw [this]; exact le_maxC hx), this]
theorem ok_all {n : Nat} (hn : n = 3 ∨ n = 4 ∨ n = 5) {c : LN} (hl : c.length = n) (hm : ∀ x ∈ c, x ≤ 4) : okC n c = true := by
  rcases hn with rfl | rfl | rfl
  · exact forC_spec okC3 c hl hm
  · exact forC_spec okC4 c hl hm
  · exact forC_spec okC5 c hl hm
theorem all_cards {n m : Nat} (hn : n = 3 ∨ n = 4 ∨ n = 5) (hm : m = 2 ∨ m = 3 ∨ m = 4) {c : LN} (hl : c.length = n) (hc : ∀ x ∈ c, x ≤ m) : cardsBk m (n * m) (hS (fixP c) c) [] = c := by
  refine eqB_eq ?_
  show okB n m c = true
  rcases hn with rfl | rfl | rfl <;> rcases hm with rfl | rfl | rfl
  · exact forC_spec okB32 c hl hc
  · exact forC_spec okB33 c hl hc
  · exact forC_spec okB34 c hl hc
  · exact forC_spec okB42 c hl hc
  · exact forC_spec okB43 c hl hc
  · exact forC_spec okB44 c hl hc
  · exact forC_spec okB52 c hl hc
  · exact forC_spec okB53 c hl hc
  · exact forC_spec okB54 c hl hc
noncomputable def stepT {α : Type} (c : Nat) (r : List α) : List α := match c, r with
  | k + 1, x :: r' => r'.take k ++ x :: r'.drop k
  | _, r => r
noncomputable def landT {α : Type} : List Nat -> List α -> List (Option α)
  | [], _ => []
  | c :: cs, r => (if c = 0 then none else r.head?) :: landT cs (stepT c r)
noncomputable def ordT {α : Type} : List Nat -> List α -> List (List α)
  | [], _ => []
  | c :: cs, r => r :: ordT cs (stepT c r)
noncomputable def runT {α : Type} : List Nat -> List α -> List α
  | [], r => r
  | c :: cs, r => runT cs (stepT c r)
noncomputable def nxt (c j : Nat) : Nat := match c, j with
  | 0, j => j
  | k + 1, 0 => k
  | k + 1, j + 1 => if j < k then j else j + 1
section
variable {α : Type}
theorem stepT_perm (c : Nat) (r : List α) : (stepT c r).Perm r := by
  unfold stepT
  split
  · rename_i k x r'
    refine (List.perm_middle).trans ?_
    rw [List.take_append_drop]
  · exact .refl _
theorem stepT_length (c : Nat) (r : List α) : (stepT c r).length = r.length := (stepT_perm c r).length_eq
theorem runT_perm : ∀ (cs : List Nat) (r : List α), (runT cs r).Perm r
  | [], r => .refl _
  | c :: cs, r => (runT_perm cs (stepT c r)).trans (stepT_perm c r)
theorem stepT_get {c : Nat} {r : List α} {j : Nat} {x : α} (hc : c ≤ r.length) (h : r[j]? = some x) : (stepT c r)[nxt c j]? = some x := by
  cases c with
  | zero => exact h
  | succ k =>
    cases r with
    | nil => simp at hc
    | cons x0 r' =>
      have hk : k ≤ r'.length := by simpa using hc
      show (r'.take k ++ x0 :: r'.drop k)[nxt (k + 1) j]? = some x
      cases j with
      | zero =>
        simp at h; subst h
        show (r'.take k ++ x0 :: r'.drop k)[k]? = some x0
        rw [List.getElem?_append_right (by simp; lia)]; simp [Nat.min_eq_left hk]
      | succ j =>
        rw [List.getElem?_cons_succ] at h
        have hj : j < r'.length := (List.getElem?_eq_some_iff.mp h).1
        show (r'.take k ++ x0 :: r'.drop k)[if j < k then j else j + 1]? = some x
        split
        · rename_i q
          rw [List.getElem?_append_left (by simp; lia), List.getElem?_take_of_lt q]; exact h
        · rename_i q
          rw [List.getElem?_append_right (by simp; lia)]
          simp only [List.length_take, Nat.min_eq_left hk]
          rw [show j + 1 - k = (j - k) + 1 by grind, List.getElem?_cons_succ, List.getElem?_drop, show k + (j - k) = j by grind]; exact h
theorem back_get {c : Nat} {P : LN} {j : Nat} (hj : ¬ (c ≠ 0 ∧ j = 0)) : (back c P)[j]? = P[nxt c j]?.map (· + 1) := by
  cases c with
  | zero => rw [back_zero, List.getElem?_map]; rfl
  | succ k =>
    cases j with
    | zero => exact absurd ⟨Nat.succ_ne_zero _, rfl⟩ hj
    | succ j =>
      rw [back_succ, List.getElem?_cons_succ, List.getElem?_map, List.getElem?_eraseIdx]
      show Option.map _ (if j < k then P[j]? else P[j + 1]?) = Option.map _ P[if j < k then j else j + 1]?
      split <;> rfl
theorem back_top {k : Nat} {P : LN} : (back (k + 1) P)[0]? = some 0 := by rw [back_succ]; rfl
theorem back_pw {c : Nat} {P : LN} (h : P.Pairwise (· < ·)) : (back c P).Pairwise (· < ·) := by
  cases c with
  | zero => rw [back_zero, List.pairwise_map]; exact h.imp fun q => Nat.succ_lt_succ q
  | succ k =>
    rw [back_succ, List.pairwise_cons]
    refine ⟨fun a ha => ?_, ?_⟩
    · obtain ⟨b, _, rfl⟩ := List.mem_map.mp ha; exact Nat.succ_pos _
    · rw [List.pairwise_map]; exact (h.sublist (List.eraseIdx_sublist P k)).imp fun q => Nat.succ_lt_succ q
theorem PS_pw {Q : LN} (h : Q.Pairwise (· < ·)) : ∀ cs, (PS Q cs).Pairwise (· < ·)
  | [] => h
  | c :: cs => back_pw (PS_pw h cs)
theorem nxt_lt {c j M : Nat} (hc : c ≤ M) (h : nxt c j < M) : j < M := by
  cases c with
  | zero => exact h
  | succ k => cases j with
    | zero => lia
    | succ j => unfold nxt at h; simp only at h; split at h <;> omega
theorem lt_nxt {c j M : Nat} (hc : c ≤ M) (h : j < M) : nxt c j < M := by
  cases c with
  | zero => exact h
  | succ k => cases j with
    | zero => unfold nxt; simp only; assumption
    | succ j => unfold nxt; simp only; split <;> omega
theorem lands : ∀ (cs : List Nat) (r : List α) (Q : LN), r.Nodup -> Q.length ≤ r.length -> (∀ c ∈ cs, c ≤ Q.length) -> ∀ j x, r[j]? = some x ->
    (∀ v, (PS Q cs)[j]? = some v -> (∀ i, (landT cs r)[i]? = some (some x) -> v ≤ i) ∧ (v < cs.length -> (landT cs r)[v]? = some (some x))) ∧ (Q.length ≤ j -> some x ∉ landT cs r)
  | [], r, Q, nd, hl, hc, j, x, hx => ⟨fun v _ => ⟨fun i h => by simp [landT] at h, fun h => by simp at h⟩, fun _ h => by simp [landT] at h⟩
  | c :: cs, r, Q, nd, hl, hc, j, x, hx => by
    have hc0 := hc c (.head _)
    have hcs : ∀ c ∈ cs, c ≤ Q.length := fun y hy => hc y (.tail _ hy)
    have hx' := stepT_get (c := c) (by lia) hx
    have ih := lands cs (stepT c r) Q ((stepT_perm c r).nodup_iff.mpr nd) (by rw [stepT_length]; exact hl) hcs (nxt c j) x hx'
    by_cases hj : c ≠ 0 ∧ j = 0
    · obtain ⟨h0, rfl⟩ := hj
      obtain ⟨k, rfl⟩ := Nat.exists_eq_succ_of_ne_zero h0
      have hd : r.head? = some x := by rw [List.head?_eq_getElem?]; exact hx
      refine ⟨fun v hv => ?_, fun q => by lia⟩
      rw [PS_cons, back_top] at hv
      cases hv
      exact ⟨fun i _ => Nat.zero_le _, fun _ => by show (_ :: _)[0]? = _; rw [if_neg (by omega), hd]; rfl⟩
    · have hne : (if c = 0 then none else r.head?) ≠ some x := by
        split
        · exact fun q => nomatch q
        · rename_i h0
          intro q
          rw [List.head?_eq_getElem?, <- hx] at q
          have : 0 < r.length := by lia
          exact hj ⟨h0, ((List.getElem?_inj this nd).mp q).symm⟩
      refine ⟨fun v hv => ?_, fun q => ?_⟩
      · rw [PS_cons, back_get hj] at hv
        obtain ⟨v', hv', rfl⟩ := Option.map_eq_some_iff.mp hv
        obtain ⟨i1, i2⟩ := ih.1 v' hv'
        refine ⟨fun i hi => ?_, fun h => ?_⟩
        · cases i with
          | zero => exact absurd (by simpa [landT] using hi) hne
          | succ i => have := i1 i (by simpa [landT] using hi); lia
        · show (_ :: landT cs (stepT c r))[v' + 1]? = _
          rw [List.getElem?_cons_succ]; exact i2 (by simpa using h)
      · intro hm
        rcases List.mem_cons.mp hm with h | h
        · exact hne h.symm
        · refine ih.2 ?_ h
          rcases Nat.lt_or_ge (nxt c j) Q.length with h' | h'
          · have := nxt_lt hc0 h'; lia
          · exact h'
theorem landT_length : ∀ (cs : List Nat) (r : List α), (landT cs r).length = cs.length
  | [], _ => rfl
  | c :: cs, r => by show (landT cs _).length + 1 = _; rw [landT_length cs]; rfl
theorem landT_drop : ∀ (b : Nat) (cs : List Nat) (r : List α), (landT cs r).drop b = landT (cs.drop b) (runT (cs.take b) r)
  | 0, cs, r => rfl
  | b + 1, [], r => rfl
  | b + 1, c :: cs, r => landT_drop b cs (stepT c r)
end
theorem seqF_next {f g : L -> Option (Fl × L)} {S S' : L} (h : f S = some (.next, S')) : seqF f g S = g S' := by unfold seqF; rw [h]; rfl
theorem seqF_ret {f g : L -> Option (Fl × L)} {S S' : L} {d : PyData} (h : f S = some (.ret d, S')) : seqF f g S = some (.ret d, S') := by unfold seqF; rw [h]; rfl
theorem upFrom_len : ∀ (k : Nat) (a : Int), (upFrom a k).length = k
  | 0, _ => rfl
  | k + 1, a => by simp [upFrom, upFrom_len k]
theorem upFrom_map : ∀ (k : Nat) (a : Int), upFrom a k = (List.range k).map fun (i : Nat) => .int (a + i)
  | 0, _ => rfl
  | k + 1, a => by
    rw [upFrom, upFrom_map k, List.range_succ_eq_map, List.map_cons, List.map_map]
    simp
    intro i _
    lia
theorem lenD_list {l : List PyData} (h : l.length ≤ 1000000) : lenD [.list l] = some (.int l.length) := if_pos h
theorem lenD_str {x : Str} (h : x.length ≤ 1000000) : lenD [.str x] = some (.int x.length) := if_pos h
theorem modD_nat {a b : Nat} (h : 0 < b) : modD (.int a) (.int b) = some (.int ((a % b : Nat) : Int)) := by
  show (if (b : Int) ≠ 0 then some (PyData.int ((a : Int).fmod b)) else none) = _
  rw [if_pos (by lia), Int.fmod_eq_emod_of_nonneg _ (by lia)]; rfl
theorem seqIdx_nat {i n : Nat} : seqIndex? (i : Int) n = if i < n then some i else none := by
  unfold seqIndex?
  have h0 : ¬ ((i : Int) < 0) := by lia
  by_cases h : i < n
  · rw [if_pos h]; simp [h0, h]
  · rw [if_neg h]; simp [h0]; lia
theorem itemD_nat {l : List PyData} {i : Nat} (h : i < 4611686018427387904) : itemD (.list l) (.int i) = l[i]? := by
  simp only [itemD]
  rw [if_pos (by omega), seqIdx_nat]
  by_cases q : i < l.length
  · rw [if_pos q]; rfl
  · rw [if_neg q]; simp [List.getElem?_eq_none (Nat.not_lt.mp q)]
noncomputable def cat (xs : List Str) : Str := ⟨(xs.map fun y => y.cps.toList).flatten.toArray⟩
theorem isStrs_map : ∀ xs : List Str, isStrs (xs.map .str) = some xs
  | [] => rfl
  | x :: r => by show (isStrs (r.map .str)).map (x :: ·) = _; rw [isStrs_map r]; rfl
theorem joinD_cat {x : Str} {xs : List Str} (h : x.length = 0) (hs : (xs.map (·.length)).sum ≤ 16777216) : joinD [.str x, .list (xs.map .str)] = some (.str (cat xs)) := by
  simp only [joinD, isStrs_map, Option.bind_some]
  rw [if_pos ⟨h, hs⟩]; rfl
theorem filt_true {α : Type} (l : List α) : l.filter (fun _ => true) = l := List.filter_eq_self.mpr fun _ _ => rfl
theorem compL_emit {i : Nat} {ft : St -> Option (Bool × St)} {f : St -> Option (PyData × St)} {S : L} {p : PyData -> Bool} {g : PyData -> PyData} {nn : Nat} :
    ∀ (ds : List PyData) (cm : List (Option PyData)) (ac : List PyData), cm.set i none = List.replicate nn none -> ac.length + ds.length ≤ 100000 ->
      (∀ d ∈ ds, ∀ cm : List (Option PyData), cm.set i none = List.replicate nn none -> ft ⟨S, cm.set i (some d)⟩ = some (p d, ⟨S, cm.set i (some d)⟩)) -> (∀ d ∈ ds, p d = true -> ∀ cm : List (Option PyData), cm.set i none = List.replicate nn none -> f ⟨S, cm.set i (some d)⟩ = some (g d, ⟨S, cm.set i (some d)⟩)) ->
      ∃ cm', compL i (emitF ft f) ds ⟨S, cm⟩ ac = some (ac ++ (ds.filter p).map g, ⟨S, cm'⟩)
  | [], cm, ac, hc, _, _, _ => ⟨cm, by simp [compL]⟩
  | d :: ds, cm, ac, hc, hl, h1, h2 => by
    have t := h1 d (.head _) cm hc
    have hc' : (cm.set i (some d)).set i none = List.replicate nn none := by rw [List.set_set]; exact hc
    cases hp : p d with
    | false =>
      obtain ⟨cm', e⟩ := compL_emit (S := S) (p := p) (g := g) ds (cm.set i (some d)) ac hc' (by simp at hl; lia) (fun d hd => h1 d (.tail _ hd)) (fun d hd => h2 d (.tail _ hd))
      refine ⟨cm', ?_⟩
      unfold compL
      simp only [emitF, t, hp, Option.bind_some, Bool.false_eq_true, if_false]
      rw [List.filter_cons_of_neg (by simp [hp])]
      exact e
    | true =>
      have u := h2 d (.head _) hp cm hc
      obtain ⟨cm', e⟩ := compL_emit (S := S) (p := p) (g := g) ds (cm.set i (some d)) (ac ++ [g d]) hc' (by simp at hl ⊢; lia) (fun d hd => h1 d (.tail _ hd)) (fun d hd => h2 d (.tail _ hd))
      refine ⟨cm', ?_⟩
      unfold compL
      simp only [emitF, t, hp, Option.bind_some, if_true, u]
      rw [if_pos (by simp at hl; lia)]
      rw [List.filter_cons_of_pos hp, List.map_cons]
      rw [List.append_assoc] at e
      exact e
theorem compF_emit {nn i : Nat} {fi : St -> Option (List PyData × St)} {ft : St -> Option (Bool × St)} {f : St -> Option (PyData × St)} {S S' : St} {ds : List PyData} (p : PyData -> Bool) (g : PyData -> PyData) (hi : fi S = some (ds, S')) (hl : ds.length ≤ 100000)
    (h1 : ∀ d ∈ ds, ∀ cm : List (Option PyData), cm.set i none = List.replicate nn none -> ft ⟨S'.loc, cm.set i (some d)⟩ = some (p d, ⟨S'.loc, cm.set i (some d)⟩)) (h2 : ∀ d ∈ ds, p d = true -> ∀ cm : List (Option PyData), cm.set i none = List.replicate nn none -> f ⟨S'.loc, cm.set i (some d)⟩ = some (g d, ⟨S'.loc, cm.set i (some d)⟩)) :
    compF nn i fi (emitF ft f) S = some ((ds.filter p).map g, ⟨S'.loc, S.cmp⟩) := by
  obtain ⟨cm', e⟩ := compL_emit (S := S'.loc) (p := p) (g := g) ds (List.replicate nn none) [] (by simp) (by simpa using hl) h1 h2
  unfold compF
  rw [hi]
  simp only [Option.bind_some, e, Option.map_some, List.nil_append]
theorem compF_map {nn i : Nat} {fi : St -> Option (List PyData × St)} {f : St -> Option (PyData × St)} {S S' : St} {ds : List PyData} (g : PyData -> PyData) (hi : fi S = some (ds, S')) (hl : ds.length ≤ 100000)
    (h2 : ∀ d ∈ ds, ∀ cm : List (Option PyData), cm.set i none = List.replicate nn none -> f ⟨S'.loc, cm.set i (some d)⟩ = some (g d, ⟨S'.loc, cm.set i (some d)⟩)) :
    compF nn i fi (emitF trueF f) S = some (ds.map g, ⟨S'.loc, S.cmp⟩) := by
  have := compF_emit (nn := nn) (i := i) (fi := fi) (ft := trueF) (f := f) (fun _ => true) g hi hl (fun _ _ _ _ => rfl) (fun d hd _ => h2 d hd)
  rwa [filt_true] at this
theorem compOwn_map {nn i j : Nat} {f : St -> Option (PyData × St)} {S : St} {l : List PyData} (g : PyData -> PyData) (hj : S.loc[j]? = some (some (.own l))) (hl : l.length ≤ 100000)
    (h2 : ∀ d ∈ l, ∀ cm : List (Option PyData), cm.set i none = List.replicate nn none -> f ⟨setL S.loc j .hid, cm.set i (some d)⟩ = some (g d, ⟨setL S.loc j .hid, cm.set i (some d)⟩)) :
    compOwnF nn i j (emitF trueF f) S = some (l.map g, S) := by
  obtain ⟨cm', e⟩ := compL_emit (S := setL S.loc j .hid) (ft := trueF) (f := f) (p := fun _ => true) (g := g) l (List.replicate nn none) [] (by simp) (by simpa using hl) (fun _ _ _ _ => rfl) (fun d hd _ => h2 d hd)
  have hjl : j < S.loc.length := (List.getElem?_eq_some_iff.mp hj).1
  unfold compOwnF
  rw [hj]
  simp only [ownOf, Option.bind_some, e, filt_true, List.nil_append]
  have h1 : (setL S.loc j .hid)[j]? = some (some .hid) := by simp [setL, hjl]
  rw [h1]
  simp only [hidOf, Option.map_some]
  have h3 : setL (setL S.loc j .hid) j (.own l) = S.loc := by
    simp only [setL, List.set_set]
    rw [List.getElem?_eq_getElem hjl] at hj
    have e' := Option.some.inj hj
    rw [<- e', List.set_getElem_self hjl]
  rw [h3]
section
variable {S S1 S2 S3 : St} {T : L} {f f' f'' : St -> Option (PyData × St)} {g : St -> Option (List PyData × St)} {t t' : St -> Option (Bool × St)} {a b c d : PyData} {l l' : List PyData} {i : Nat}
theorem nameF_v {i : Nat} {S : St} {d : PyData} (h : S.loc[i]? = some (some (.val d))) : nameF i S = some (d, S) := by unfold nameF; rw [h]
theorem bin2_v {o : PyData -> PyData -> Option PyData} (h1 : f S = some (a, S1)) (h2 : f' S1 = some (b, S2)) (h3 : o a b = some c) : bin2 o f f' S = some (c, S2) := by unfold bin2; rw [h1]; simp only [Option.bind_some]; rw [h2]; simp only [Option.bind_some]; rw [h3]; rfl
theorem un1_v {o : PyData -> Option PyData} (h1 : f S = some (a, S1)) (h3 : o a = some c) : un1 o f S = some (c, S1) := by unfold un1; rw [h1]; simp only [Option.bind_some]; rw [h3]; rfl
theorem callF_v {o : List PyData -> Option PyData} (h1 : g S = some (l, S1)) (h3 : o l = some c) : callF o g S = some (c, S1) := by unfold callF; rw [h1]; simp only [Option.bind_some]; rw [h3]; rfl
theorem consL_v (h1 : f S = some (a, S1)) (h2 : g S1 = some (l, S2)) : consL f g S = some (a :: l, S2) := by unfold consL; rw [h1]; simp only [Option.bind_some]; rw [h2]; rfl
theorem nilL_v : nilL S = some ([], S) := rfl
theorem one_v (h1 : f S = some (a, S1)) : consL f nilL S = some ([a], S1) := consL_v h1 rfl
theorem tupF_v (h : g S = some (l, S1)) (hl : l.length ≤ 100) : tupF g S = some (.tuple l, S1) := by unfold tupF; rw [h]; simp only [Option.bind_some]; rw [if_pos hl]
theorem lstF_v (h : g S = some (l, S1)) (hl : l.length ≤ 100) : lstF g S = some (l, S1) := by unfold lstF; rw [h]; simp only [Option.bind_some]; rw [if_pos hl]
theorem ofO_v (h : g S = some (l, S1)) : ofO g S = some (.list l, S1) := by unfold ofO; rw [h]; rfl
theorem asgF_v (h : f ⟨T, []⟩ = some (d, S1)) : asgF i f T = some (.next, setL S1.loc i (.val d)) := by unfold asgF; rw [h]; rfl
theorem asgO_v (h : g ⟨T, []⟩ = some (l, S1)) : asgO i g T = some (.next, setL S1.loc i (.own l)) := by unfold asgO; rw [h]; rfl
theorem exprF_v (h : f ⟨T, []⟩ = some (.none, S1)) : exprF f T = some (.next, S1.loc) := by unfold exprF; rw [h]; rfl
theorem retF_v (h : f ⟨T, []⟩ = some (d, S1)) : retF f T = some (.ret d, S1.loc) := by unfold retF; rw [h]; rfl
theorem tstF_v {x : Bool} (h : f S = some (d, S1)) (ht : truthD d = some x) : tstF f S = some (x, S1) := by unfold tstF; rw [h]; simp only [Option.bind_some]; rw [ht]; rfl
theorem condF_t {p q : L -> Option (Fl × L)} {R : Option (Fl × L)} (h : t ⟨T, []⟩ = some (true, S1)) (hp : p S1.loc = R) : condF t p q T = R := by unfold condF; rw [h]; exact hp
theorem condF_f {p q : L -> Option (Fl × L)} {R : Option (Fl × L)} (h : t ⟨T, []⟩ = some (false, S1)) (hp : q S1.loc = R) : condF t p q T = R := by unfold condF; rw [h]; exact hp
theorem notF_v {x : Bool} (h : t S = some (x, S1)) : notF t S = some (!x, S1) := by unfold notF; rw [h]; rfl
theorem andF_t {x : Bool} (h : t S = some (true, S1)) (h2 : t' S1 = some (x, S2)) : andF t t' S = some (x, S2) := by unfold andF; rw [h]; exact h2
theorem andF_f (h : t S = some (false, S1)) : andF t t' S = some (false, S1) := by unfold andF; rw [h]; rfl
theorem orF_f {x : Bool} (h : t S = some (false, S1)) (h2 : t' S1 = some (x, S2)) : orF t t' S = some (x, S2) := by unfold orF; rw [h]; exact h2
theorem ifF_t {R : Option (PyData × St)} (h : t S = some (true, S1)) (hp : f S1 = R) : ifF t f f' S = R := by unfold ifF; rw [h]; exact hp
theorem ifF_f {R : Option (PyData × St)} (h : t S = some (false, S1)) (hp : f' S1 = R) : ifF t f f' S = R := by unfold ifF; rw [h]; exact hp
theorem andV_t (h : f S = some (.bool true, S1)) (h2 : f' S1 = some (d, S2)) : andV f f' S = some (d, S2) := by unfold andV; rw [h]; exact h2
theorem appF_v (h0 : S.loc[i]? = some (some (.own l'))) (h : f S = some (d, S1)) (h1 : S1.loc[i]? = some (some (.own l))) (hl : l.length ≤ 100000) : appF i f S = some (.none, ⟨setL S1.loc i (.own (l ++ [d])), S1.cmp⟩) := by
  unfold appF; rw [h0]; simp only [ownOf, Option.bind_some]; rw [h]; simp only [Option.bind_some]; rw [h1]; simp only [ownOf, Option.bind_some]; rw [if_pos hl]
theorem methF_v {p : PyData -> Bool} {o : List PyData -> Option PyData} (h : f S = some (a, S1)) (hp : p a = true) (hg : g S1 = some (l, S2)) (ho : o (a :: l) = some d) : methF p o f g S = some (d, S2) := by
  unfold methF; rw [h]; simp only [Option.bind_some, hp, if_true]; rw [hg]; simp only [Option.bind_some]; rw [ho]; rfl
theorem intP_v {x : Int} (h : f S = some (.int x, S1)) : intP f S = some (some x, S1) := by unfold intP; rw [h]; rfl
theorem itF_v (h : f S = some (d, S1)) (hi : itemsD d = some l) : itF f S = some (l, S1) := by unfold itF; rw [h]; simp only [Option.bind_some]; rw [hi]; rfl
theorem rngF_v {x y : Int} (h : g S = some (l, S1)) (hr : rangeD l = some (x, y)) (hb : -1000000 < x ∧ x < 1000000 ∧ -1000000 < y ∧ y < 1000000) : rngF g S = some (upFrom x (y - x).toNat, S1) := by
  unfold rngF; rw [h]; simp only [Option.bind_some]; rw [hr]; simp only [Option.bind_some]; rw [if_pos (by omega)]
theorem small62 {k : Nat} (hk : k < 4611686018427387904) : -(2 ^ 62) < (k : Int) ∧ (k : Int) < 2 ^ 62 := by lia
theorem subOwn_v {k : Nat} {z : Loc} (h0 : S.loc[i]? = some (some z)) (h : f S = some (.int k, S1)) (h1 : S1.loc[i]? = some (some (.own l))) (hk : k < 4611686018427387904) (hd : l[k]? = some d) : subOwn i f S = some (d, S1) := by
  have e3 : seqIndex? (k : Int) l.length = some k := by rw [seqIdx_nat, if_pos (List.getElem?_eq_some_iff.mp hd).1]
  unfold subOwn
  refine Option.bind_eq_some_iff.mpr ⟨z, by rw [h0]; rfl, Option.bind_eq_some_iff.mpr ⟨(.int k, S1), h, Option.bind_eq_some_iff.mpr ⟨l, by rw [h1]; rfl, Option.bind_eq_some_iff.mpr ⟨(k : Int), rfl, ?_⟩⟩⟩⟩
  rw [if_pos (small62 hk), e3]
  refine Option.map_eq_some_iff.mpr ⟨d, ?_, rfl⟩
  exact Option.bind_eq_some_iff.mpr ⟨k, rfl, hd⟩
theorem chain2_tt {o₁ o₂ : PyData -> PyData -> Option PyData} {x y : Bool} {u v : PyData} (h1 : f S = some (a, S1)) (h2 : f' S1 = some (b, S2)) (h3 : o₁ a b = some u) (h4 : truthD u = some true) (h5 : f'' S2 = some (c, S3)) (h6 : o₂ b c = some v) (h7 : truthD v = some y) : chain2 o₁ o₂ f f' f'' S = some (y, S3) := by
  unfold chain2; rw [h1]; simp only [Option.bind_some]; rw [h2]; simp only [Option.bind_some]; rw [h3]; simp only [Option.bind_some]; rw [h4]; simp only [Option.bind_some, if_true]; rw [h5]; simp only [Option.bind_some]; rw [h6]; simp only [Option.bind_some]; rw [h7]; rfl
theorem chain2_f {o₁ o₂ : PyData -> PyData -> Option PyData} {u : PyData} (h1 : f S = some (a, S1)) (h2 : f' S1 = some (b, S2)) (h3 : o₁ a b = some u) (h4 : truthD u = some false) : chain2 o₁ o₂ f f' f'' S = some (false, S2) := by
  unfold chain2; rw [h1]; simp only [Option.bind_some]; rw [h2]; simp only [Option.bind_some]; rw [h3]; simp only [Option.bind_some]; rw [h4]; rfl
end
theorem cm_get {cm : List (Option PyData)} {i nn : Nat} {d : PyData} (h : cm.set i none = List.replicate nn none) (hi : i < nn) : (cm.set i (some d))[i]? = some (some d) := by
  have := congrArg List.length h
  simp at this
  simp [this, hi]
theorem cmpF_v {S : L} {cm : List (Option PyData)} {i nn : Nat} {d : PyData} (h : cm.set i none = List.replicate nn none) (hi : i < nn) : cmpF i ⟨S, cm.set i (some d)⟩ = some (d, ⟨S, cm.set i (some d)⟩) := by unfold cmpF; rw [cm_get h hi]
theorem addD_str {x y : Str} (h : x.length + y.length ≤ 16777216) : addD (.str x) (.str y) = some (.str (x ++ y)) := if_pos h
noncomputable def textT (tail : Str) (r : List Str) : PyData := .str (cat (r.reverse.map (tail ++ ·)))
noncomputable def offT (c : Nat) (r : List Str) : List Str := match c, r with
  | k + 1, x :: r' => x :: (r'.take k).reverse
  | _, _ => []
noncomputable def piece (tail x : Str) : PyData := .tuple [.str tail, .str x]
noncomputable def takenT (tail : Str) (c : Nat) (r : List Str) : PyData := .list ((offT c r).map (piece tail))
noncomputable def takensT (tail : Str) : List Nat -> List Str -> List PyData
  | [], _ => []
  | c :: cs, r => takenT tail c r :: takensT tail cs (stepT c r)
structure Small (tail : Str) (r : List Str) : Prop where
  one : ∀ x ∈ r, x.length = 1
  tl : tail.length ≤ 2
  len : r.length ≤ 4
theorem Small.step {tail : Str} {r : List Str} (h : Small tail r) (c : Nat) : Small tail (stepT c r) :=
  ⟨fun x hx => h.one x ((stepT_perm c r).mem_iff.mp hx), h.tl, by rw [stepT_length]; exact h.len⟩
theorem len_app (x y : Str) : (x ++ y).length = x.length + y.length := Str.length_append x y
theorem Small.sum {tail : Str} {r : List Str} (h : Small tail r) : ((r.reverse.map (tail ++ ·)).map (·.length)).sum ≤ 16777216 := by
  have key : ∀ l : List Str, (∀ x ∈ l, x.length = 1) -> ((l.map (tail ++ ·)).map (·.length)).sum = l.length * (tail.length + 1) := fun l => by
    induction l with
    | nil => intro _; simp
    | cons a l ih =>
      intro hl
      rw [List.map_cons, List.map_cons, List.sum_cons, ih fun x hx => hl x (.tail _ hx), len_app, hl a (.head _), List.length_cons, Nat.add_mul]
      lia
  rw [key _ fun x hx => h.one x (List.mem_reverse.mp hx), List.length_reverse]
  have h1 := h.tl; have h2 := h.len
  have : r.length * (tail.length + 1) ≤ 4 * 3 := Nat.mul_le_mul h2 (by lia)
  omega
section
variable {C NM : PyData} {tail : Str} {o tx tk : List PyData} {b6 b7 b8 : Option Loc}
noncomputable abbrev SO (C NM : PyData) (tail : Str) (o tx tk : List PyData) (b6 b7 b8 : Option Loc) : L := [some (.val C), some (.val NM), some (.val (.str tail)), some (.own o), some (.own tx), some (.own tk), b6, b7, b8, none, none]
theorem order2 {r : List Str} (h : Small tail r) (ht : tx.length ≤ 100000) : t_order_2 (SO C NM tail (r.reverse.map .str) tx tk b6 b7 b8) = some (.next, SO C NM tail (r.reverse.map .str) (tx ++ [textT tail r]) tk b6 b7 b8) := by
  have hl := h.len
  have htl := h.tl
  have hc := compOwn_map (nn := 3) (i := 1) (j := 3) (f := bin2 addD (nameF 2) (cmpF 1)) (S := ⟨SO C NM tail (r.reverse.map .str) tx tk b6 b7 b8, []⟩) (l := r.reverse.map .str) (fun d => match d with | .str x => .str (tail ++ x) | d => d) rfl (by simp; lia) (fun d hd cm hcm => by
    obtain ⟨x, hx, rfl⟩ := List.mem_map.mp hd
    have hx1 := h.one x (List.mem_reverse.mp hx)
    have e1 : nameF 2 ⟨setL (SO C NM tail (r.reverse.map .str) tx tk b6 b7 b8) 3 .hid, cm.set 1 (some (.str x))⟩ = some (.str tail, _) := rfl
    simp only [bin2, e1, Option.bind_some]
    rw [cmpF_v hcm (by decide)]
    simp only [Option.bind_some]
    rw [addD_str (by lia)]; rfl)
  have hm : (r.reverse.map PyData.str).map (fun d => match d with | .str x => PyData.str (tail ++ x) | d => d) = (r.reverse.map (tail ++ ·)).map .str := by simp [Function.comp_def]
  rw [hm] at hc
  unfold t_order_2 exprF appF methF
  simp only [cS, consL, ofO, hc, nilL, ownOf, Option.bind_some, Option.map_some, isStrD, if_true, List.getElem?_cons_succ, List.getElem?_cons_zero]
  rw [joinD_cat rfl h.sum]
  simp only [Option.bind_some, Option.map_some, List.getElem?_cons_succ, List.getElem?_cons_zero, ownOf]
  rw [if_pos ht]
  rfl
theorem order3 {cl : List PyData} {b : Nat} {d : PyData} (h : cl[b % cl.length]? = some d) (h0 : 0 < cl.length) (h1 : cl.length ≤ 1000) : t_order_3 (SO (.list cl) NM tail o tx tk (some (.val (.int b))) b7 b8) = some (.next, SO (.list cl) NM tail o tx tk (some (.val (.int b))) (some (.val d)) b8) :=
  asgF_v (S1 := ⟨SO (.list cl) NM tail o tx tk (some (.val (.int b))) b7 b8, []⟩) (bin2_v (nameF_v rfl) (bin2_v (nameF_v rfl) (callF_v (one_v (nameF_v rfl)) (lenD_list (by lia))) (modD_nat h0)) ((itemD_nat (Nat.lt_of_lt_of_le (Nat.mod_lt _ h0) (Nat.le_trans h1 (by decide)))).trans h))
theorem order6 {r : List Str} {c : Nat} (hc : c ≤ r.length) (hl : r.length ≤ 4) : ∃ b8', t_order_6 (SO C NM tail (r.reverse.map .str) tx tk b6 (some (.val (.int c))) b8) = some (.next, SO C NM tail ((stepT c r).reverse.map .str) tx tk b6 (some (.val (.int c))) b8') := by
  unfold t_order_6 condF
  cases c with
  | zero => exact ⟨b8, rfl⟩
  | succ k =>
    cases r with
    | nil => simp at hc
    | cons x r' =>
      have hk : k ≤ r'.length := by simpa using hc
      have hr : r'.length ≤ 3 := by simpa using hl
      have hne : neD (.int ((k + 1 : Nat) : Int)) (.int 0) = some (.bool true) := by
        show (if PySem.SeqAt.shaped (.int ((k + 1 : Nat) : Int)) && PySem.SeqAt.shaped (.int 0) then some (PyData.bool (!PyData.eqv (.int ((k + 1 : Nat) : Int)) (.int 0))) else none) = _
        rw [if_pos (by rfl)]
        have : PyData.eqv (.int ((k + 1 : Nat) : Int)) (.int 0) = false := by simp [PyData.eqv]; lia
        rw [this]; rfl
      have e1 : tstF (bin2 neD (nameF 7) (cI 0)) ⟨SO C NM tail ((x :: r').reverse.map .str) tx tk b6 (some (.val (.int ((k + 1 : Nat) : Int)))) b8, []⟩ = some (true, ⟨SO C NM tail ((x :: r').reverse.map .str) tx tk b6 (some (.val (.int ((k + 1 : Nat) : Int)))) b8, []⟩) := by
        simp only [tstF, bin2, nameF, cI, SO, List.getElem?_cons_succ, List.getElem?_cons_zero, Option.bind_some, hne, Option.map_some, truthD]
      rw [e1]
      simp only [Option.bind_some, if_true]
      have er : (x :: r').reverse.map PyData.str = r'.reverse.map .str ++ [.str x] := by simp
      have e4 : t_order_4 (SO C NM tail ((x :: r').reverse.map .str) tx tk b6 (some (.val (.int ((k + 1 : Nat) : Int)))) b8) = some (.next, SO C NM tail (r'.reverse.map .str) tx tk b6 (some (.val (.int ((k + 1 : Nat) : Int)))) (some (.val (.str x)))) := by
        rw [er]
        simp only [t_order_4, asgF, popF, SO, List.getElem?_cons_succ, List.getElem?_cons_zero, ownOf, Option.bind_some, List.getLast?_append, List.getLast?_singleton, Option.some_or]
        rw [if_pos (by simp; lia)]
        simp [setL]
      rw [seqF_next e4]
      refine ⟨some (.val (.str x)), ?_⟩
      have ei : ((r'.reverse.map PyData.str).length : Int) + 1 - ((k + 1 : Nat) : Int) = ((r'.length - k : Nat) : Int) := by simp; grind
      have e5 : t_order_5 (SO C NM tail (r'.reverse.map .str) tx tk b6 (some (.val (.int ((k + 1 : Nat) : Int)))) (some (.val (.str x)))) = some (.next, SO C NM tail ((stepT (k + 1) (x :: r')).reverse.map .str) tx tk b6 (some (.val (.int ((k + 1 : Nat) : Int)))) (some (.val (.str x)))) := by
        simp only [t_order_5, exprF, insF, SO, List.getElem?_cons_succ, List.getElem?_cons_zero, ownOf, Option.bind_some, consL, bin2, lenOwn, cI, nameF, nilL, Option.map_some, addD, subD]
        rw [if_pos (by simp; lia)]
        simp only [Option.bind_some, Option.map_some, ei, List.getElem?_cons_succ, List.getElem?_cons_zero, ownOf, nameF]
        rw [if_pos (by simp; lia)]
        simp only [Option.bind_some, isNone, Option.map_some]
        have : insAt (r'.reverse.map PyData.str) ((r'.length - k : Nat) : Int).toNat (.str x) = (stepT (k + 1) (x :: r')).reverse.map .str := by
          simp only [insAt, Int.toNat_natCast, stepT, <- List.map_take, <- List.map_drop, List.take_reverse, List.drop_reverse]
          rw [show r'.length - (r'.length - k) = k by grind]
          simp
        rw [this]
        rfl
      rw [seqF_next e5]
      rfl
theorem order7 {r : List Str} {c : Nat} (hc : c ≤ r.length) (hl : r.length ≤ 4) (ht : tk.length ≤ 100000) : t_order_7 (SO C NM tail ((stepT c r).reverse.map .str) tx tk b6 (some (.val (.int c))) b8) = some (.next, SO C NM tail ((stepT c r).reverse.map .str) tx (tk ++ [takenT tail c r]) b6 (some (.val (.int c))) b8) := by
  have hs := stepT_length c r
  have ei : (((stepT c r).reverse.map PyData.str).length : Int) - (c : Int) = ((r.length - c : Nat) : Int) := by simp [hs]; grind
  have hd : ((stepT c r).reverse.map PyData.str).drop (r.length - c) = (offT c r).map .str := by
    rw [<- List.map_drop, List.drop_reverse, hs, show r.length - (r.length - c) = c by grind]
    congr 1
    cases c with
    | zero => simp [offT]
    | succ k => cases r with
      | nil => simp at hc
      | cons x r' =>
        have hk : k ≤ r'.length := by simpa using hc
        simp [offT, stepT, List.take_append, Nat.min_eq_left hk, List.take_take]
  have hi : (itF (ofO (cutOwn 3 (intP (bin2 subD (lenOwn 3) (nameF 7)))))) ⟨SO C NM tail ((stepT c r).reverse.map .str) tx tk b6 (some (.val (.int c))) b8, []⟩ = some ((offT c r).map .str, ⟨SO C NM tail ((stepT c r).reverse.map .str) tx tk b6 (some (.val (.int c))) b8, []⟩) := by
    simp only [itF, ofO, cutOwn, intP, bin2, lenOwn, SO, List.getElem?_cons_succ, List.getElem?_cons_zero, ownOf, Option.bind_some]
    rw [if_pos (by simp; lia)]
    simp only [Option.bind_some, Option.map_some, nameF, List.getElem?_cons_succ, List.getElem?_cons_zero, subD, intOf, ei, ownOf]
    rw [if_pos (by simp; lia)]
    simp only [Option.bind_some, Option.map_some, itemsD, Int.toNat_natCast, hd]
  have hcm := compF_map (nn := 3) (i := 1) (f := tupF (consL (nameF 2) (consL (cmpF 1) nilL))) (fun d => .tuple [.str tail, d]) hi (by simp [offT]; split <;> simp <;> grind) (fun d hd cm hcm => by
    obtain ⟨x, hx, rfl⟩ := List.mem_map.mp hd
    simp only [tupF, consL, nameF, nilL, List.getElem?_cons_succ, List.getElem?_cons_zero, Option.bind_some]
    rw [cmpF_v hcm (by decide)]
    rfl)
  unfold t_order_7 exprF appF
  simp only [ofO, hcm, ownOf, Option.bind_some, Option.map_some, List.getElem?_cons_succ, List.getElem?_cons_zero]
  rw [if_pos ht]
  simp [isNone, setL, takenT, piece]
end
theorem fnA_v {n N : Nat} {fB : L -> Option (Fl × L)} {ds : List PyData} {d : PyData} (hl : ds.length = n) (h : ∃ S', fB (initL N ds) = some (.ret d, S')) : fnA n N fB ds = some d := by
  obtain ⟨S', h⟩ := h
  unfold fnA; rw [if_pos hl]; unfold fnF; rw [h]; rfl
theorem forL_step {tf : PyData -> L -> Option L} {fb : L -> Option (Fl × L)} {d : PyData} {ds : List PyData} {S S1 S2 : L} (h1 : tf d S = some S1) (h2 : fb S1 = some (.next, S2)) : forL tf fb (d :: ds) S = forL tf fb ds S2 := by
  show (tf d S).bind _ = _
  rw [h1]; show (fb S1).bind _ = _
  rw [h2]; rfl
theorem forF_v {fi : St -> Option (List PyData × St)} {tf : PyData -> L -> Option L} {fb : L -> Option (Fl × L)} {S : L} {S1 : St} {ds : List PyData} {R : Option (Fl × L)} (h1 : fi ⟨S, []⟩ = some (ds, S1)) (h2 : forL tf fb ds S1.loc = R) : forF fi tf fb S = R := by
  unfold forF; rw [h1]; exact h2
theorem nameF_own {i : Nat} {S : St} {l : List PyData} (h : S.loc[i]? = some (some (.own l))) : nameF i S = some (.list l, { S with loc := S.loc.set i (some (.val (.list l))) }) := by unfold nameF; rw [h]
theorem ownX_v {g : St -> Option (List PyData × St)} {T : L} {l : List PyData} {S1 : St} (h : g ⟨T, []⟩ = some (l, S1)) : ownX g T = some (.own l, S1.loc) := by unfold ownX; rw [h]; rfl
theorem valX_v {g : St -> Option (PyData × St)} {T : L} {l : PyData} {S1 : St} (h : g ⟨T, []⟩ = some (l, S1)) : valX g T = some (.val l, S1.loc) := by unfold valX; rw [h]; rfl
theorem consX_v {f : L -> Option (Loc × L)} {g : L -> Option (List Loc × L)} {S S1 S2 : L} {a : Loc} {l : List Loc} (h1 : f S = some (a, S1)) (h2 : g S1 = some (l, S2)) : consX f g S = some (a :: l, S2) := by unfold consX; rw [h1]; simp only [Option.bind_some]; rw [h2]; rfl
theorem tupR_v {is : List Nat} {f : L -> Option (List Loc × L)} {S S1 : L} {ls : List Loc} (h : f S = some (ls, S1)) (hl : ls.length = is.length ∧ is.length ≤ 10) : tupR is f S = some (.next, setAll S1 is.reverse ls.reverse) := by unfold tupR; rw [h]; simp only [Option.bind_some]; rw [if_pos hl]
theorem tupL_v {is : List Nat} {f : L -> Option (List Loc × L)} {S S1 : L} {ls : List Loc} (h : f S = some (ls, S1)) (hl : ls.length = is.length ∧ is.length ≤ 10) : tupL is f S = some (.next, setAll S1 is ls) := by unfold tupL; rw [h]; simp only [Option.bind_some]; rw [if_pos hl]
noncomputable def numsD (c : List Nat) : List PyData := c.map fun (x : Nat) => .int (x : Int)
noncomputable def textsT (tail : Str) (cs : List Nat) (r : List Str) : List PyData := (ordT cs r).map (textT tail)
theorem numsD_get {c : List Nat} {i x : Nat} (h : c[i]? = some x) : (numsD c)[i]? = some (.int (x : Int)) := by simp [numsD, h]
theorem numsD_len (c : List Nat) : (numsD c).length = c.length := by simp [numsD]
noncomputable def bodyO : L -> Option (Fl × L) := seqF t_order_2 (seqF t_order_3 (seqF t_order_6 (seqF t_order_7 nextF)))
theorem order_loop {cards : List Nat} {NM : PyData} {tail : Str} (h0 : 0 < cards.length) (h5 : cards.length ≤ 5) : ∀ (cs : List Nat) (i : Nat) (r : List Str) (tx tk : List PyData) (b6 b7 b8 : Option Loc), Small tail r -> (∀ c ∈ cs, c ≤ r.length) ->
    (∀ j, j < cs.length -> cards[(i + j) % cards.length]? = cs[j]?) -> tx.length + cs.length ≤ 1000 -> tk.length + cs.length ≤ 1000 ->
    ∃ b6' b7' b8', forL (tgtN 6) bodyO (upFrom i cs.length) (SO (.list (numsD cards)) NM tail (r.reverse.map .str) tx tk b6 b7 b8) = some (.next, SO (.list (numsD cards)) NM tail ((runT cs r).reverse.map .str) (tx ++ textsT tail cs r) (tk ++ takensT tail cs r) b6' b7' b8')
  | [], i, r, tx, tk, b6, b7, b8, _, _, _, _, _ => ⟨b6, b7, b8, by simp [forL, upFrom, textsT, takensT, ordT, runT]⟩
  | c :: cs, i, r, tx, tk, b6, b7, b8, hS, hc, hj, h1, h2 => by
    have hc0 := hc c (.head _)
    have e0 : cards[i % cards.length]? = some c := by have := hj 0 (by simp); simpa using this
    have e3 := order3 (cl := numsD cards) (NM := NM) (tail := tail) (o := r.reverse.map .str) (tx := tx ++ [textT tail r]) (tk := tk) (b := i) (b7 := b7) (b8 := b8) (by rw [numsD_len]; exact numsD_get e0) (by rw [numsD_len]; exact h0) (by rw [numsD_len]; lia)
    obtain ⟨b8', e6⟩ := order6 (C := .list (numsD cards)) (NM := NM) (tail := tail) (tx := tx ++ [textT tail r]) (tk := tk) (b6 := some (.val (.int i))) (b8 := b8) hc0 hS.len
    have e7 := order7 (C := .list (numsD cards)) (NM := NM) (tail := tail) (tx := tx ++ [textT tail r]) (tk := tk) (b6 := some (.val (.int i))) (b8 := b8') hc0 hS.len (by simp at h2; lia)
    have ih := order_loop (NM := NM) h0 h5 cs (i + 1) (stepT c r) (tx ++ [textT tail r]) (tk ++ [takenT tail c r]) (some (.val (.int i))) (some (.val (.int c))) b8' (hS.step c) (fun x hx => by rw [stepT_length]; exact hc x (.tail _ hx))
      (fun j hlt => by have := hj (j + 1) (by simpa using hlt); rw [show i + (j + 1) = i + 1 + j by lia] at this; simpa using this) (by simp at h1 ⊢; lia) (by simp at h2 ⊢; lia)
    obtain ⟨x6, x7, x8, ih⟩ := ih
    refine ⟨x6, x7, x8, ?_⟩
    have step : bodyO (SO (.list (numsD cards)) NM tail (r.reverse.map .str) tx tk (some (.val (.int i))) b7 b8) = some (.next, SO (.list (numsD cards)) NM tail ((stepT c r).reverse.map .str) (tx ++ [textT tail r]) (tk ++ [takenT tail c r]) (some (.val (.int i))) (some (.val (.int c))) b8') := by
      unfold bodyO
      rw [seqF_next (order2 hS (by simp at h1; lia)), seqF_next e3, seqF_next e6, seqF_next e7]; rfl
    rw [List.length_cons, upFrom]
    rw [forL_step (S1 := SO (.list (numsD cards)) NM tail (r.reverse.map .str) tx tk (some (.val (.int i))) b7 b8) rfl step]
    rw [show ((i : Nat) : Int) + 1 = ((i + 1 : Nat) : Int) by push_cast; rfl, ih]
    simp [textsT, takensT, ordT, runT]
noncomputable def round (k : Nat) (c : List Nat) : List Nat := (List.replicate k c).flatten
theorem round_length (k : Nat) (c : List Nat) : (round k c).length = k * c.length := by simp [round]
theorem round_get : ∀ (k : Nat) (c : List Nat) (j : Nat), j < k * c.length -> (round k c)[j]? = c[j % c.length]?
  | 0, c, j, h => by simp at h
  | k + 1, c, j, h => by
    show (List.replicate (k + 1) c).flatten[j]? = _
    rw [List.replicate_succ, List.flatten_cons]
    by_cases q : j < c.length
    · rw [List.getElem?_append_left q, Nat.mod_eq_of_lt q]
    · have q := Nat.not_lt.mp q
      rw [Nat.add_mul, Nat.one_mul] at h
      rw [List.getElem?_append_right q, show (List.replicate k c).flatten = round k c from rfl, round_get k c _ (by omega), Nat.mod_eq_sub_mod q]
theorem round_mem {k : Nat} {c : List Nat} {x : Nat} (h : x ∈ round k c) : x ∈ c := by
  obtain ⟨l, hl, hx⟩ := List.mem_flatten.mp h
  rw [List.eq_of_mem_replicate hl] at hx; exact hx
theorem mulD_nat {a b : Nat} (h : b ≤ 1000) : mulD (.int a) (.int b) = some (.int ((a * b : Nat) : Int)) := by
  simp only [mulD]
  rw [if_pos (by omega), Int.natCast_mul]
theorem addD_nat {a b : Nat} : addD (.int a) (.int b) = some (.int ((a + b : Nat) : Int)) := by
  show some (PyData.int ((a : Int) + b)) = _
  push_cast; rfl
structure NamesOk (nm : Str) (names : List Str) : Prop where
  it : itemsD (.str nm) = some (names.map .str)
  len : nm.length = names.length
  l4 : names.length ≤ 4
  one : ∀ x ∈ names, x.length = 1
theorem rng_cards {cards : List Nat} {nm : Str} {names : List Str} {S : L} (N : NamesOk nm names) (h5 : cards.length ≤ 5) (e0 : S[0]? = some (some (.val (.list (numsD cards))))) (e1 : S[1]? = some (some (.val (.str nm)))) :
    rngF (consL (bin2 mulD (callF lenD (consL (nameF 0) nilL)) (bin2 addD (callF lenD (consL (nameF 1) nilL)) (cI 1))) nilL) ⟨S, []⟩ = some (upFrom ((0 : Nat) : Int) (cards.length * (names.length + 1)), ⟨S, []⟩) := by
  have hl := N.len
  have h4 := N.l4
  have hb : cards.length * (names.length + 1) ≤ 5 * 5 := Nat.mul_le_mul h5 (by lia)
  have := rngF_v (g := consL (bin2 mulD (callF lenD (consL (nameF 0) nilL)) (bin2 addD (callF lenD (consL (nameF 1) nilL)) (cI 1))) nilL) (S := ⟨S, []⟩) (S1 := ⟨S, []⟩) (x := 0) (y := ((cards.length * (names.length + 1) : Nat) : Int))
    (one_v (bin2_v (callF_v (one_v (nameF_v e0)) (lenD_list (by rw [numsD_len]; lia))) (bin2_v (callF_v (one_v (nameF_v e1)) (lenD_str (by lia))) rfl (addD_nat (b := 1))) (by rw [numsD_len, hl]; exact mulD_nat (by lia)))) rfl ⟨by decide, by decide, by omega, by omega⟩
  rw [this, Int.sub_zero, Int.toNat_natCast]; rfl
theorem order_v {cards : List Nat} {nm tail : Str} {names : List Str} (N : NamesOk nm names) (ht : tail.length ≤ 2) (h0 : 0 < cards.length) (h5 : cards.length ≤ 5) (hc : ∀ c ∈ cards, c ≤ names.length) :
    o_order [.list (numsD cards), .str nm, .str tail] = some (.tuple [.list (textsT tail (round (names.length + 1) cards) names.reverse), .list (takensT tail (round (names.length + 1) cards) names.reverse)]) := by
  have h4 := N.l4
  have hS : Small tail names.reverse := ⟨fun x hx => N.one x (List.mem_reverse.mp hx), ht, by simpa using h4⟩
  have hb : (names.length + 1) * cards.length ≤ 5 * 5 := Nat.mul_le_mul (by lia) h5
  obtain ⟨b6, b7, b8, e⟩ := order_loop (NM := .str nm) (tail := tail) h0 h5 (round (names.length + 1) cards) 0 names.reverse [] [] none none none hS (fun c h => by rw [List.length_reverse]; exact hc c (round_mem h))
    (fun j hj => by rw [round_length] at hj; rw [round_get _ _ _ hj, Nat.zero_add]) (by rw [round_length]; simp; grind) (by rw [round_length]; simp; lia)
  rw [List.reverse_reverse] at e
  refine fnA_v rfl ?_
  unfold m_order
  have e1 : t_order_1 (initL 11 [.list (numsD cards), .str nm, .str tail]) = some (.next, SO (.list (numsD cards)) (.str nm) tail (names.map .str) [] [] none none none) := by
    have c1 := compF_map (nn := 2) (i := 1) (f := cmpF 1) (S := ⟨initL 11 [.list (numsD cards), .str nm, .str tail], []⟩) (fun d => d) (itF_v (nameF_v (i := 1) rfl) N.it) (by simp; lia) (fun d _ cm h => cmpF_v h (by decide))
    rw [List.map_id'] at c1
    exact tupR_v (is := [3, 4, 5]) (consX_v (ownX_v c1) (consX_v (ownX_v (lstF_v nilL_v (by simp))) (consX_v (ownX_v (lstF_v nilL_v (by simp))) (show nilX _ = _ from rfl)))) ⟨rfl, by decide⟩
  rw [seqF_next e1]
  have e8 : t_order_8 (SO (.list (numsD cards)) (.str nm) tail (names.map .str) [] [] none none none) = some (.next, SO (.list (numsD cards)) (.str nm) tail ((runT (round (names.length + 1) cards) names.reverse).reverse.map .str) (textsT tail (round (names.length + 1) cards) names.reverse) (takensT tail (round (names.length + 1) cards) names.reverse) b6 b7 b8) := by
    refine forF_v (rng_cards N h5 rfl rfl) ?_
    rw [round_length, Nat.mul_comm] at e
    rw [List.nil_append, List.nil_append] at e
    exact e
  rw [seqF_next e8]
  have e9 := retF_v (T := SO (.list (numsD cards)) (.str nm) tail ((runT (round (names.length + 1) cards) names.reverse).reverse.map .str) (textsT tail (round (names.length + 1) cards) names.reverse) (takensT tail (round (names.length + 1) cards) names.reverse) b6 b7 b8)
    (tupF_v (consL_v (nameF_own (i := 4) rfl) (consL_v (nameF_own (i := 5) rfl) nilL_v)) (by simp))
  exact ⟨_, seqF_ret (f := t_order_9) e9⟩
theorem eqD_int {a b : Int} : eqD (.int a) (.int b) = some (.bool (a == b)) := by
  show (if (PySem.SeqAt.shaped (.int a) && PySem.SeqAt.shaped (.int b)) = true then some (PyData.bool (PyData.eqv (.int a) (.int b))) else none) = _
  rw [if_pos (by rfl)]; simp [PyData.eqv]
theorem neD_int {a b : Int} : neD (.int a) (.int b) = some (.bool (!(a == b))) := by
  show (if (PySem.SeqAt.shaped (.int a) && PySem.SeqAt.shaped (.int b)) = true then some (PyData.bool (!PyData.eqv (.int a) (.int b))) else none) = _
  rw [if_pos (by rfl)]; simp [PyData.eqv]
theorem eqD_self {d : PyData} (h : PySem.SeqAt.shaped d = true) : eqD d d = some (.bool true) := by
  unfold eqD
  rw [if_pos (by rw [h]; rfl), PySem.SeqAt.eqv_refl d (PySem.SeqAt.canLay_of_shaped h)]
theorem neD_self {d : PyData} (h : PySem.SeqAt.shaped d = true) : neD d d = some (.bool false) := by
  unfold neD
  rw [if_pos (by rw [h]; rfl), PySem.SeqAt.eqv_refl d (PySem.SeqAt.canLay_of_shaped h)]; rfl
theorem iseof_v (i : Int) : o_iseof [.int i] = some (.bool (i == 0)) := by
  refine fnA_v rfl ⟨_, seqF_ret (retF_v (bin2_v (nameF_v rfl) rfl eqD_int))⟩
theorem pileF_v {i : Nat} {o : Int -> List PyData -> List PyData -> Option (PyData × List PyData)} {f : St -> Option (List PyData × St)} {S S1 : St} {F : Int} {l0 l l' args : List PyData} {d : PyData} (h0 : S.loc[i]? = some (some (.acc F l0))) (hf : f S = some (args, S1)) (h1 : S1.loc[i]? = some (some (.acc F l))) (ho : o F l args = some (d, l')) :
    pileF i o f S = some (d, ⟨setL S1.loc i (.acc F l'), S1.cmp⟩) := by
  unfold pileF; rw [h0]; simp only [accOf, Option.bind_some]; rw [hf]; simp only [Option.bind_some]; rw [h1]; simp only [accOf, Option.bind_some]; rw [ho]; rfl
theorem pileT_v {i : Nat} {o : Int -> List PyData -> Option PyData} {S : St} {F : Int} {l : List PyData} {d : PyData} (h0 : S.loc[i]? = some (some (.acc F l))) (ho : o F l = some d) : pileT i o S = some (d, S) := by
  unfold pileT; rw [h0]; simp only [accOf, Option.bind_some]; rw [ho]; rfl
theorem itemD_tup {l : List PyData} {i : Nat} (h : i < 4611686018427387904) : itemD (.tuple l) (.int i) = l[i]? := by
  simp only [itemD]
  rw [if_pos (small62 h), seqIdx_nat]
  by_cases q : i < l.length
  · rw [if_pos q]; rfl
  · rw [if_neg q]; simp [List.getElem?_eq_none (Nat.not_lt.mp q)]
theorem itemD_0 {a : PyData} {l : List PyData} : itemD (.tuple (a :: l)) (.int 0) = some a := itemD_tup (i := 0) (by decide)
theorem itemD_1 {a b : PyData} {l : List PyData} : itemD (.tuple (a :: b :: l)) (.int 1) = some b := itemD_tup (i := 1) (by decide)
theorem str_cat2 (x y : Str) : Txt.join "" [x, y] = x ++ y := by
  rw [join_nil rfl]
  show (⟨([x, y].map fun y => y.cps.toList).flatten.toArray⟩ : Str) = ⟨x.cps ++ y.cps⟩
  congr 1
  apply Array.ext'
  simp
theorem pairs_map (tail : Str) : ∀ l : List Str, (l.map (piece tail)).mapM pairD = some (l.map fun x => (tail, x))
  | [] => rfl
  | x :: l => by
    rw [List.map_cons, List.mapM_cons, pairs_map tail l]; rfl
theorem strO_text {tail : Str} {r : List Str} {F : Int} (h : Small tail r) : strO F (r.reverse.map (piece tail)) = some (textT tail r) := by
  have h1 := h.tl; have h2 := h.len
  unfold strO
  rw [pairs_map]
  show (if _ then _ else _) = _
  rw [if_pos ⟨by simp; lia, fun p hp => by
    obtain ⟨x, hx, rfl⟩ := List.mem_map.mp hp
    have := h.one x (List.mem_reverse.mp hx)
    exact ⟨by simp; lia, by simp; lia⟩⟩]
  rw [join_nil rfl]
  simp only [textT, cat, List.map_map, Function.comp_def, str_cat2]
theorem preSum_const {f : Nat -> Int} {k : Int} : ∀ n, (∀ j, j < n -> f j = k) -> preSum f n = n * k
  | 0, _ => by simp [preSum]
  | n + 1, h => by
    show preSum f n + f n = _
    rw [preSum_const n fun j hj => h j (by lia), h n (by lia)]
    push_cast; rw [Int.add_mul, Int.one_mul]
theorem lenP_v {tail : Str} {r : List Str} {F : Int} (h : Small tail r) (h0 : 0 ≤ F) (hF : F ≤ 1000) : lenP F (r.reverse.map (piece tail)) = some (.int (F + r.length * (tail.length + 1))) := by
  have h1 := h.tl; have h2 := h.len
  have hs : lensum (r.reverse.map fun x => (tail, x)) = r.length * (tail.length + 1) := by
    unfold lensum
    rw [preSum_const (k := (tail.length : Int) + 1) _ fun j hj => ?_]
    · simp
    · have hj' : j < r.reverse.length := by simpa using hj
      have := h.one r.reverse[j] (List.mem_reverse.mp (List.getElem_mem hj'))
      rw [List.getD_eq_getElem?_getD, List.getElem?_map, List.getElem?_eq_getElem hj']
      show (tail.length : Int) + (r.reverse[j].length : Int) = _
      rw [this]; rfl
  have e : lenO F (r.reverse.map (piece tail)) = some (.int (F + r.length * (tail.length + 1))) := by
    unfold lenO
    rw [pairs_map]
    show (if _ then _ else _) = _
    rw [if_pos ⟨by lia, by lia, by simp; lia, fun p hp => by
      obtain ⟨x, hx, rfl⟩ := List.mem_map.mp hp
      have := h.one x (List.mem_reverse.mp hx)
      exact ⟨by simp; lia, by simp; lia⟩⟩, hs]
  have hb : r.length * (tail.length + 1) ≤ 4 * 3 := Nat.mul_le_mul h2 (by lia)
  have hb' : ((r.length : Int) * ((tail.length : Int) + 1)) = ((r.length * (tail.length + 1) : Nat) : Int) := by push_cast; rfl
  unfold lenP
  rw [e]
  simp only [Option.bind_some]
  rw [if_pos (by rw [hb']; omega)]
section
variable {C : PyData} {nm tail : Str} {F : Int} {l tx tk : List PyData} {gv b8 b9 b10 b11 : Option Loc}
noncomputable abbrev SP (C : PyData) (nm tail : Str) (F : Int) (l : List PyData) (gv : Option Loc) (tx tk : List PyData) (b8 b9 b10 b11 : Option Loc) : L :=
  [some (.val C), some (.val (.str nm)), some (.val (.str tail)), some (.val (.int F)), some (.acc F l), gv, some (.own tx), some (.own tk), b8, b9, b10, b11, none, none, none, none, none]
theorem pile4 {r : List Str} (h : Small tail r) (ht : tx.length ≤ 100000) : t_pile_4 (SP C nm tail F (r.reverse.map (piece tail)) gv tx tk b8 b9 b10 b11) = some (.next, SP C nm tail F (r.reverse.map (piece tail)) gv (tx ++ [textT tail r]) tk b8 b9 b10 b11) :=
  exprF_v (appF_v (l := tx) rfl (pileT_v rfl (strO_text h)) rfl ht)
theorem pile5 {cl : List PyData} {b : Nat} {d : PyData} (h : cl[b % cl.length]? = some d) (h0 : 0 < cl.length) (h1 : cl.length ≤ 1000) :
    t_pile_5 (SP (.list cl) nm tail F l gv tx tk (some (.val (.int b))) b9 b10 b11) = some (.next, SP (.list cl) nm tail F l gv tx tk (some (.val (.int b))) (some (.val d)) (some (.own [])) b11) :=
  tupR_v (is := [9, 10]) (consX_v (valX_v (S1 := ⟨SP (.list cl) nm tail F l gv tx tk (some (.val (.int b))) b9 b10 b11, []⟩) (bin2_v (nameF_v rfl) (bin2_v (nameF_v rfl) (callF_v (one_v (nameF_v rfl)) (lenD_list (by lia))) (modD_nat h0)) ((itemD_nat (Nat.lt_of_lt_of_le (Nat.mod_lt _ h0) (Nat.le_trans h1 (by decide)))).trans h))) (consX_v (ownX_v (lstF_v nilL_v (by simp))) (show nilX _ = _ from rfl))) ⟨rfl, by decide⟩
theorem popO_v {F : Int} {l : List PyData} {d : PyData} (h : l.length ≤ 1000) : popO F (l ++ [d]) [] = some (d, l) := by
  unfold popO; rw [if_pos ⟨rfl, by simp; lia⟩]; simp
theorem pile8 {r : List Str} {c : Nat} (hc : c ≤ r.length) (hl : r.length ≤ 4) : t_pile_8 (SP C nm tail F (r.reverse.map (piece tail)) gv tx tk b8 (some (.val (.int c))) (some (.own [])) b11) =
    some (.next, SP C nm tail F ((r.drop c).reverse.map (piece tail)) gv tx tk b8 (some (.val (.int c))) (some (.own ((offT c r).map (piece tail)))) b11) := by
  cases c with
  | zero => exact condF_f (notF_v (x := true) (tstF_v (callF_v (one_v (nameF_v rfl)) (iseof_v 0)) rfl)) rfl
  | succ k =>
    cases r with
    | nil => simp at hc
    | cons x r' =>
      have hk : k ≤ r'.length := by simpa using hc
      have hr : r'.length ≤ 3 := by simpa using hl
      have hz : (((k + 1 : Nat) : Int) == 0) = false := by rw [beq_eq_false_iff_ne]; omega
      refine condF_t (S1 := ⟨SP C nm tail F ((x :: r').reverse.map (piece tail)) gv tx tk b8 (some (.val (.int ((k + 1 : Nat) : Int)))) (some (.own [])) b11, []⟩) (notF_v (x := false) (tstF_v (callF_v (one_v (nameF_v rfl)) (iseof_v _)) (by rw [hz]; rfl))) ?_
      have er : (x :: r').reverse.map (piece tail) = r'.reverse.map (piece tail) ++ [piece tail x] := by simp
      have e6 : t_pile_6 (SP C nm tail F ((x :: r').reverse.map (piece tail)) gv tx tk b8 (some (.val (.int ((k + 1 : Nat) : Int)))) (some (.own [])) b11) = some (.next, SP C nm tail F (r'.reverse.map (piece tail)) gv tx tk b8 (some (.val (.int ((k + 1 : Nat) : Int)))) (some (.own [piece tail x])) b11) := by
        rw [er]
        exact exprF_v (appF_v (l := []) (l' := []) rfl (pileF_v rfl nilL_v rfl (popO_v (by simp; lia))) rfl (by simp))
      show seqF t_pile_6 (seqF t_pile_7 nextF) _ = _
      rw [seqF_next e6]
      have ei : ((r'.reverse.map (piece tail)).length : Int) - ((k + 1 : Nat) : Int) + 1 = ((r'.length - k : Nat) : Int) := by simp; grind
      have e7 : t_pile_7 (SP C nm tail F (r'.reverse.map (piece tail)) gv tx tk b8 (some (.val (.int ((k + 1 : Nat) : Int)))) (some (.own [piece tail x])) b11) =
          some (.next, SP C nm tail F (((x :: r').drop (k + 1)).reverse.map (piece tail)) gv tx tk b8 (some (.val (.int ((k + 1 : Nat) : Int)))) (some (.own ((offT (k + 1) (x :: r')).map (piece tail)))) b11) := by
        have hpc : pcO F (r'.reverse.map (piece tail)) [] = some (.int (r'.reverse.map (piece tail)).length, r'.reverse.map (piece tail)) := by unfold pcO; rw [if_pos ⟨rfl, by simp <;> lia⟩]
        have hpf : popfO F (r'.reverse.map (piece tail)) [.int ((r'.length - k : Nat) : Int)] = some (.list ((r'.take k).reverse.map (piece tail)), (r'.drop k).reverse.map (piece tail)) := by
          simp only [popfO]
          rw [if_pos ⟨by omega, by simp <;> omega, by simp <;> lia⟩]
          simp only [Int.toNat_natCast, <- List.map_drop, <- List.map_take, List.drop_reverse, List.take_reverse]
          rw [show r'.length - (r'.length - k) = k by omega]
        have ea : addL (nameF 10) (pileF 4 popfO (consL (bin2 addD (bin2 subD (pileF 4 pcO nilL) (nameF 9)) (cI 1)) nilL)) ⟨SP C nm tail F (r'.reverse.map (piece tail)) gv tx tk b8 (some (.val (.int ((k + 1 : Nat) : Int)))) (some (.own [piece tail x])) b11, []⟩ =
            some ([piece tail x] ++ (r'.take k).reverse.map (piece tail), ⟨SP C nm tail F ((r'.drop k).reverse.map (piece tail)) gv tx tk b8 (some (.val (.int ((k + 1 : Nat) : Int)))) (some (.val (.list [piece tail x]))) b11, []⟩) := by
          unfold addL
          rw [nameF_own (l := [piece tail x]) rfl]
          simp only [Option.bind_some]
          have eq : consL (bin2 addD (bin2 subD (pileF 4 pcO nilL) (nameF 9)) (cI 1)) nilL ⟨SP C nm tail F (r'.reverse.map (piece tail)) gv tx tk b8 (some (.val (.int ((k + 1 : Nat) : Int)))) (some (.val (.list [piece tail x]))) b11, []⟩ = some ([.int ((r'.length - k : Nat) : Int)], ⟨SP C nm tail F (r'.reverse.map (piece tail)) gv tx tk b8 (some (.val (.int ((k + 1 : Nat) : Int)))) (some (.val (.list [piece tail x]))) b11, []⟩) :=
            one_v (bin2_v (bin2_v (pileF_v (F := F) (l := r'.reverse.map (piece tail)) rfl nilL_v rfl hpc) (nameF_v rfl) (c := .int (((r'.reverse.map (piece tail)).length : Int) - ((k + 1 : Nat) : Int))) rfl) rfl (by show some (PyData.int (_ + 1)) = _; rw [ei]))
          have ep := pileF_v (i := 4) (o := popfO) (F := F) (l := r'.reverse.map (piece tail)) rfl eq rfl hpf
          refine (congrArg (fun z => Option.bind z _) ep).trans ?_
          simp only [Option.bind_some]
          rw [if_pos (by simp; lia)]
          rfl
        refine (asgO_v ea).trans ?_
        simp [setL, offT]
      rw [seqF_next e7]
      rfl
theorem pile10 : ∀ (ys : List Str) (l : List PyData) (b10 b11 : Option Loc), l.length + ys.length ≤ 100 -> ∃ b11', forL (tgtN 11) (seqF t_pile_9 nextF) (ys.map (piece tail)) (SP C nm tail F l gv tx tk b8 b9 b10 b11) = some (.next, SP C nm tail F (l ++ ys.map (piece tail)) gv tx tk b8 b9 b10 b11')
  | [], l, b10, b11, _ => ⟨b11, by simp [forL]⟩
  | y :: ys, l, b10, b11, h => by
    obtain ⟨b11', ih⟩ := pile10 ys (l ++ [piece tail y]) b10 (some (.val (piece tail y))) (by simp at h ⊢; lia)
    refine ⟨b11', ?_⟩
    have hp : pushO F l [.str tail, .str y] = some (.none, l ++ [piece tail y]) := by simp only [pushO]; rw [if_pos (by simp at h; lia)]; rfl
    have e9 : t_pile_9 (SP C nm tail F l gv tx tk b8 b9 b10 (some (.val (piece tail y)))) = some (.next, SP C nm tail F (l ++ [piece tail y]) gv tx tk b8 b9 b10 (some (.val (piece tail y)))) := by
      have ea : consL (bin2 itemD (nameF 11) (cI 0)) (consL (bin2 itemD (nameF 11) (cI 1)) nilL) ⟨SP C nm tail F l gv tx tk b8 b9 b10 (some (.val (piece tail y))), []⟩ = some ([.str tail, .str y], ⟨SP C nm tail F l gv tx tk b8 b9 b10 (some (.val (piece tail y))), []⟩) :=
        consL_v (bin2_v (nameF_v rfl) rfl itemD_0) (consL_v (bin2_v (nameF_v rfl) rfl itemD_1) nilL_v)
      exact exprF_v (pileF_v (i := 4) (o := pushO) (F := F) (l := l) rfl ea rfl hp)
    rw [List.map_cons, forL_step (S1 := SP C nm tail F l gv tx tk b8 b9 b10 (some (.val (piece tail y)))) rfl (by rw [seqF_next e9]; rfl), ih]
    simp
end
section
variable {C : PyData} {nm tail : Str} {F : Int}
theorem off_step {c : Nat} {r : List Str} (hc : c ≤ r.length) : (r.drop c).reverse ++ offT c r = (stepT c r).reverse := by
  cases c with
  | zero => simp [offT, stepT]
  | succ k => cases r with
    | nil => simp at hc
    | cons x r' => simp [offT, stepT]
noncomputable def bodyP : L -> Option (Fl × L) := seqF t_pile_4 (seqF t_pile_5 (seqF t_pile_8 (seqF t_pile_10 (seqF t_pile_11 nextF))))
theorem offT_len {c : Nat} {r : List Str} (hl : r.length ≤ 4) : (offT c r).length ≤ 5 := by
  unfold offT
  split
  · simp at hl ⊢; grind
  · simp
theorem pile_loop {cards : List Nat} {gv : Option Loc} (h0 : 0 < cards.length) (h5 : cards.length ≤ 5) : ∀ (cs : List Nat) (i : Nat) (r : List Str) (tx tk : List PyData) (b8 b9 b10 b11 : Option Loc), Small tail r -> (∀ c ∈ cs, c ≤ r.length) ->
    (∀ j, j < cs.length -> cards[(i + j) % cards.length]? = cs[j]?) -> tx.length + cs.length ≤ 1000 -> tk.length + cs.length ≤ 1000 ->
    ∃ b8' b9' b10' b11', forL (tgtN 8) bodyP (upFrom i cs.length) (SP (.list (numsD cards)) nm tail F (r.reverse.map (piece tail)) gv tx tk b8 b9 b10 b11) = some (.next, SP (.list (numsD cards)) nm tail F ((runT cs r).reverse.map (piece tail)) gv (tx ++ textsT tail cs r) (tk ++ takensT tail cs r) b8' b9' b10' b11')
  | [], i, r, tx, tk, b8, b9, b10, b11, _, _, _, _, _ => ⟨b8, b9, b10, b11, by simp [forL, upFrom, textsT, takensT, ordT, runT]⟩
  | c :: cs, i, r, tx, tk, b8, b9, b10, b11, hS, hc, hj, h1, h2 => by
    have hc0 := hc c (.head _)
    have e0 : cards[i % cards.length]? = some c := by have := hj 0 (by simp); simpa using this
    have e5 := pile5 (cl := numsD cards) (nm := nm) (tail := tail) (F := F) (l := r.reverse.map (piece tail)) (gv := gv) (tx := tx ++ [textT tail r]) (tk := tk) (b := i) (b9 := b9) (b10 := b10) (b11 := b11) (by rw [numsD_len]; exact numsD_get e0) (by rw [numsD_len]; exact h0) (by rw [numsD_len]; lia)
    have e8 := pile8 (C := .list (numsD cards)) (nm := nm) (tail := tail) (F := F) (gv := gv) (tx := tx ++ [textT tail r]) (tk := tk) (b8 := some (.val (.int i))) (b11 := b11) hc0 hS.len
    obtain ⟨b11', e10⟩ := pile10 (C := .list (numsD cards)) (nm := nm) (tail := tail) (F := F) (gv := gv) (tx := tx ++ [textT tail r]) (tk := tk) (b8 := some (.val (.int i))) (b9 := some (.val (.int c))) (offT c r) ((r.drop c).reverse.map (piece tail)) (some (.val (.list ((offT c r).map (piece tail))))) b11 (by have := offT_len (c := c) hS.len; have := hS.len; simp; lia)
    rw [<- List.map_append, off_step hc0] at e10
    have ih := pile_loop (gv := gv) h0 h5 cs (i + 1) (stepT c r) (tx ++ [textT tail r]) (tk ++ [takenT tail c r]) (some (.val (.int i))) (some (.val (.int c))) (some (.val (.list ((offT c r).map (piece tail))))) b11' (hS.step c) (fun x hx => by rw [stepT_length]; exact hc x (.tail _ hx))
      (fun j hlt => by have := hj (j + 1) (by simpa using hlt); rw [show i + (j + 1) = i + 1 + j by lia] at this; simpa using this) (by simp at h1 ⊢; lia) (by simp at h2 ⊢; lia)
    obtain ⟨x8, x9, x10, x11, ih⟩ := ih
    refine ⟨x8, x9, x10, x11, ?_⟩
    have f10 : t_pile_10 (SP (.list (numsD cards)) nm tail F ((r.drop c).reverse.map (piece tail)) gv (tx ++ [textT tail r]) tk (some (.val (.int i))) (some (.val (.int c))) (some (.own ((offT c r).map (piece tail)))) b11) =
        some (.next, SP (.list (numsD cards)) nm tail F ((stepT c r).reverse.map (piece tail)) gv (tx ++ [textT tail r]) tk (some (.val (.int i))) (some (.val (.int c))) (some (.val (.list ((offT c r).map (piece tail))))) b11') :=
      forF_v (itF_v (nameF_own (i := 10) rfl) rfl) e10
    have f11 : t_pile_11 (SP (.list (numsD cards)) nm tail F ((stepT c r).reverse.map (piece tail)) gv (tx ++ [textT tail r]) tk (some (.val (.int i))) (some (.val (.int c))) (some (.val (.list ((offT c r).map (piece tail))))) b11') =
        some (.next, SP (.list (numsD cards)) nm tail F ((stepT c r).reverse.map (piece tail)) gv (tx ++ [textT tail r]) (tk ++ [takenT tail c r]) (some (.val (.int i))) (some (.val (.int c))) (some (.val (.list ((offT c r).map (piece tail))))) b11') :=
      exprF_v (appF_v (l := tk) rfl (nameF_v rfl) rfl (by simp at h2; lia))
    have step : bodyP (SP (.list (numsD cards)) nm tail F (r.reverse.map (piece tail)) gv tx tk (some (.val (.int i))) b9 b10 b11) = some (.next, SP (.list (numsD cards)) nm tail F ((stepT c r).reverse.map (piece tail)) gv (tx ++ [textT tail r]) (tk ++ [takenT tail c r]) (some (.val (.int i))) (some (.val (.int c))) (some (.val (.list ((offT c r).map (piece tail))))) b11') := by
      unfold bodyP
      rw [seqF_next (pile4 hS (by simp at h1; lia)), seqF_next e5, seqF_next e8, seqF_next f10, seqF_next f11]; rfl
    rw [List.length_cons, upFrom]
    rw [forL_step (S1 := SP (.list (numsD cards)) nm tail F (r.reverse.map (piece tail)) gv tx tk (some (.val (.int i))) b9 b10 b11) rfl step]
    rw [show ((i : Nat) : Int) + 1 = ((i + 1 : Nat) : Int) by push_cast; rfl, ih]
    simp [textsT, takensT, ordT, runT]
noncomputable abbrev SP0 (C : PyData) (nm tail : Str) (F : Int) (l : List PyData) : L :=
  [some (.val C), some (.val (.str nm)), some (.val (.str tail)), some (.val (.int F)), some (.acc F l), none, none, none, none, none, none, none, none, none, none, none, none]
theorem pile_fill : ∀ (ys : List Str) (l ac : List PyData) (cm : List (Option PyData)), cm.set 1 none = List.replicate 4 none -> l.length + ys.length ≤ 100 -> ac.length + ys.length ≤ 100 ->
    ∃ cm', compL 1 (emitF trueF (pileF 4 pushO (consL (nameF 2) (consL (cmpF 1) nilL)))) (ys.map .str) ⟨SP0 C nm tail F l, cm⟩ ac = some (ac ++ List.replicate ys.length .none, ⟨SP0 C nm tail F (l ++ ys.map (piece tail)), cm'⟩)
  | [], l, ac, cm, _, _, _ => ⟨cm, by simp [compL]⟩
  | y :: ys, l, ac, cm, hcm, h1, h2 => by
    have hcm' : (cm.set 1 (some (PyData.str y))).set 1 none = List.replicate 4 none := by rw [List.set_set]; exact hcm
    obtain ⟨cm', ih⟩ := pile_fill ys (l ++ [piece tail y]) (ac ++ [.none]) (cm.set 1 (some (.str y))) hcm' (by simp at h1 ⊢; lia) (by simp at h2 ⊢; lia)
    refine ⟨cm', ?_⟩
    have hp : pushO F l [.str tail, .str y] = some (.none, l ++ [piece tail y]) := by simp only [pushO]; rw [if_pos (by simp at h1; lia)]; rfl
    have ea : consL (nameF 2) (consL (cmpF 1) nilL) ⟨SP0 C nm tail F l, cm.set 1 (some (.str y))⟩ = some ([.str tail, .str y], ⟨SP0 C nm tail F l, cm.set 1 (some (.str y))⟩) := consL_v (nameF_v rfl) (consL_v (cmpF_v hcm (by decide)) nilL_v)
    have ep := pileF_v (i := 4) (o := pushO) (F := F) (l := l) rfl ea rfl hp
    have ee : emitF trueF (pileF 4 pushO (consL (nameF 2) (consL (cmpF 1) nilL))) ⟨SP0 C nm tail F l, cm.set 1 (some (.str y))⟩ ac = some (ac ++ [.none], ⟨SP0 C nm tail F (l ++ [piece tail y]), cm.set 1 (some (.str y))⟩) := by
      unfold emitF trueF
      simp only [Option.bind_some, if_true]
      rw [ep]
      simp only [Option.bind_some]
      rw [if_pos (by simp at h2; lia)]
      rfl
    rw [List.map_cons]
    unfold compL
    rw [ee]
    refine Eq.trans ih ?_
    simp [List.replicate_succ]
theorem shaped_nones : ∀ {n : Nat}, n ≤ 4 -> PySem.SeqAt.shaped (.list (List.replicate n PyData.none)) = true
  | 0, _ => by rfl
  | 1, _ => by rfl
  | 2, _ => by rfl
  | 3, _ => by rfl
  | 4, _ => by rfl
theorem pile_v {cards : List Nat} {names : List Str} (N : NamesOk nm names) (hne : names ≠ []) (ht : tail.length ≤ 2) (h0 : 0 < cards.length) (h5 : cards.length ≤ 5) (hc : ∀ c ∈ cards, c ≤ names.length) (hF : 0 ≤ F ∧ F ≤ 1000) :
    o_pile [.list (numsD cards), .str nm, .str tail, .int F] = some (.tuple [.list (textsT tail (round (names.length + 1) cards) names.reverse), .list (takensT tail (round (names.length + 1) cards) names.reverse), .int (F + names.length * (tail.length + 1))]) := by
  have h4 := N.l4
  have hS : Small tail names.reverse := ⟨fun x hx => N.one x (List.mem_reverse.mp hx), ht, by simpa using h4⟩
  have hb : (names.length + 1) * cards.length ≤ 5 * 5 := Nat.mul_le_mul (by lia) h5
  obtain ⟨b8, b9, b10, b11, e⟩ := pile_loop (nm := nm) (tail := tail) (F := F) (gv := some (.own (List.replicate names.length .none))) h0 h5 (round (names.length + 1) cards) 0 names.reverse [] [] none none none none hS (fun c h => by rw [List.length_reverse]; exact hc c (round_mem h))
    (fun j hj => by rw [round_length] at hj; rw [round_get _ _ _ hj, Nat.zero_add]) (by rw [round_length]; simp; grind) (by rw [round_length]; simp; lia)
  rw [List.reverse_reverse] at e
  refine fnA_v rfl ?_
  unfold m_pile
  have e1 : t_pile_1 (initL 17 [.list (numsD cards), .str nm, .str tail, .int F]) = some (.next, SP0 (.list (numsD cards)) nm tail F []) := rfl
  rw [seqF_next e1]
  obtain ⟨cm', f2⟩ := pile_fill (C := .list (numsD cards)) (nm := nm) (tail := tail) (F := F) names [] [] (List.replicate 4 none) (by rfl) (by simp; lia) (by simp; lia)
  have e2 : t_pile_2 (SP0 (.list (numsD cards)) nm tail F []) = some (.next, setL (SP0 (.list (numsD cards)) nm tail F (names.map (piece tail))) 5 (.own (List.replicate names.length .none))) := by
    refine asgO_v (S1 := ⟨SP0 (.list (numsD cards)) nm tail F (names.map (piece tail)), []⟩) ?_
    unfold compF
    rw [itF_v (nameF_v (i := 1) rfl) N.it]
    simp only [Option.bind_some]
    rw [f2]; rfl
  rw [seqF_next e2]
  have e3 : t_pile_3 (setL (SP0 (.list (numsD cards)) nm tail F (names.map (piece tail))) 5 (.own (List.replicate names.length .none))) = some (.next, SP (.list (numsD cards)) nm tail F (names.map (piece tail)) (some (.own (List.replicate names.length .none))) [] [] none none none none) :=
    tupR_v (is := [6, 7]) (consX_v (ownX_v (lstF_v nilL_v (by simp))) (consX_v (ownX_v (lstF_v nilL_v (by simp))) (show nilX _ = _ from rfl))) ⟨rfl, by decide⟩
  rw [seqF_next e3]
  have e12 : t_pile_12 (SP (.list (numsD cards)) nm tail F (names.map (piece tail)) (some (.own (List.replicate names.length .none))) [] [] none none none none) = some (.next, SP (.list (numsD cards)) nm tail F ((runT (round (names.length + 1) cards) names.reverse).reverse.map (piece tail)) (some (.own (List.replicate names.length .none))) (textsT tail (round (names.length + 1) cards) names.reverse) (takensT tail (round (names.length + 1) cards) names.reverse) b8 b9 b10 b11) := by
    refine forF_v (rng_cards N h5 rfl rfl) ?_
    rw [round_length, Nat.mul_comm] at e
    rw [List.nil_append, List.nil_append] at e
    exact e
  rw [seqF_next e12]
  generalize hR : runT (round (names.length + 1) cards) names.reverse = R at e12
  have hRl : R.length = names.length := by rw [<- hR, (runT_perm _ _).length_eq, List.length_reverse]
  have hSR : Small tail R := ⟨fun x hx => hS.one x ((runT_perm _ _).mem_iff.mp (by rw [hR]; exact hx)), ht, by rw [hRl]; exact h4⟩
  have elen := lenP_v hSR hF.1 hF.2
  generalize textsT tail (round (names.length + 1) cards) names.reverse = TX at e12 ⊢
  generalize takensT tail (round (names.length + 1) cards) names.reverse = TK at e12 ⊢
  have enames : (names.map (piece tail)).length = names.length := by simp
  have erep : repF (ofO (lstF (consL cN nilL))) (callF lenD (consL (nameF 1) nilL)) ⟨[some (.val (.list (numsD cards))), some (.val (.str nm)), some (.val (.str tail)), some (.val (.int F)), some (.acc F (R.reverse.map (piece tail))), some (.val (.list (List.replicate names.length .none))), some (.val (.list TX)), some (.val (.list TK)), b8, b9, b10, b11, none, none, none, none, none], []⟩ =
      some (List.replicate names.length .none, ⟨[some (.val (.list (numsD cards))), some (.val (.str nm)), some (.val (.str tail)), some (.val (.int F)), some (.acc F (R.reverse.map (piece tail))), some (.val (.list (List.replicate names.length .none))), some (.val (.list TX)), some (.val (.list TK)), b8, b9, b10, b11, none, none, none, none, none], []⟩) := by
    unfold repF
    rw [ofO_v (lstF_v (one_v (show cN _ = some (.none, _) from rfl)) (by simp))]
    simp only [Option.bind_some]
    rw [callF_v (one_v (nameF_v rfl)) (lenD_str (by rw [N.len]; lia))]
    simp only [Option.bind_some, lstOf, intOf]
    rw [if_pos ⟨by lia, by rw [N.len]; lia, by simp, by simp⟩]
    rw [N.len]
    simp
  refine ⟨_, seqF_ret (f := t_pile_13) (retF_v (tupF_v (consL_v (nameF_own (i := 6) rfl) (consL_v (nameF_own (i := 7) rfl) (one_v (ifF_t (tstF_v (bin2_v (nameF_own (i := 5) rfl) (ofO_v erep) (eqD_self (shaped_nones h4))) rfl) (pileT_v (i := 4) (l := R.reverse.map (piece tail)) rfl (by rw [elen, hRl])))))) (by simp)))⟩
end
noncomputable def sOf (l : List Nat) : Str := ⟨l.toArray⟩
theorem sOf_len (l : List Nat) : (sOf l).length = l.length := by simp [sOf, Str.length]
theorem sOf_list (l : List Nat) : (sOf l).cps.toList = l := rfl
theorem sOf_inj {l l' : List Nat} (h : sOf l = sOf l') : l = l' := congrArg (fun s : Str => s.cps.toList) h
theorem sOf_append (l l' : List Nat) : sOf l ++ sOf l' = sOf (l ++ l') := by
  show (⟨l.toArray ++ l'.toArray⟩ : Str) = ⟨(l ++ l').toArray⟩
  simp
theorem sp_eq : (Str.ofString " ") = sOf [32] := by decide +kernel
theorem ok_sOf {l : List Nat} (h : ∀ c ∈ l, c < 1114112) : PySem.SeqAt.shaped (.str (sOf l)) = true := by
  unfold PySem.SeqAt.shaped
  rw [Bool.and_eq_true]
  refine ⟨?_, by rfl⟩
  show (sOf l).cps.all (· < 0x110000) = true
  rw [<- Array.all_toList, List.all_eq_true]
  intro x hx
  exact decide_eq_true (h x hx)
theorem eqv_sOf (l l' : List Nat) : PyData.eqv (.str (sOf l)) (.str (sOf l')) = decide (l = l') := by
  have : PyData.eqv (.str (sOf l)) (.str (sOf l')) = (sOf l == sOf l') := by simp [PyData.eqv]
  rw [this]
  by_cases h : l = l'
  · subst h; simp
  · rw [decide_eq_false h, beq_eq_false_iff_ne]; exact fun q => h (sOf_inj q)
theorem eqD_sOf {l l' : List Nat} (h : ∀ c ∈ l, c < 1114112) (h' : ∀ c ∈ l', c < 1114112) : eqD (.str (sOf l)) (.str (sOf l')) = some (.bool (decide (l = l'))) := by
  unfold eqD
  rw [if_pos (by rw [ok_sOf h, ok_sOf h']; rfl), eqv_sOf]
theorem neD_sOf {l l' : List Nat} (h : ∀ c ∈ l, c < 1114112) (h' : ∀ c ∈ l', c < 1114112) : neD (.str (sOf l)) (.str (sOf l')) = some (.bool (!decide (l = l'))) := by
  unfold neD
  rw [if_pos (by rw [ok_sOf h, ok_sOf h']; rfl), eqv_sOf]
theorem itemD_str {l : List Nat} {i c : Nat} (h : i < 4611686018427387904) (hc : l[i]? = some c) : itemD (.str (sOf l)) (.int i) = some (.str (sOf [c])) := by
  simp only [itemD]
  rw [if_pos (small62 h), seqIdx_nat, if_pos (by rw [sOf_len]; exact (List.getElem?_eq_some_iff.mp hc).1)]
  show (l.toArray[i]?).map _ = _
  rw [List.getElem?_toArray, hc]; rfl
noncomputable abbrev tL : St -> Option (Bool × St) := andF (tstF (nameF 1)) (tstF (bin2 eqD (bin2 itemD (nameF 0) (nameF 2)) (cS " ")))
noncomputable abbrev tR : St -> Option (Bool × St) := andF (tstF (nameF 1)) (tstF (bin2 eqD (bin2 itemD (nameF 0) (nameF 3)) (cS " ")))
noncomputable abbrev SS (l : List Nat) (A i : Nat) (b3 : Option Loc) : L := [some (.val (.str (sOf l))), some (.val (.int A)), some (.val (.int i)), b3, none]
theorem is_sp {c : Nat} (hc : c < 1114112) : eqD (.str (sOf [c])) (.str (Str.ofString " ")) = some (.bool (decide (c = 32))) := by
  rw [sp_eq, eqD_sOf (by simpa using hc) (by simp)]; simp
theorem tL_f {l : List Nat} {A i : Nat} {b3 : Option Loc} (hl : ∀ c ∈ l, c < 1114112) (hi : i < 1000000) (h : A = 0 ∨ ∃ c, l[i]? = some c ∧ c ≠ 32) : tL ⟨SS l A i b3, []⟩ = some (false, ⟨SS l A i b3, []⟩) := by
  rcases Nat.eq_zero_or_pos A with h0 | h0
  · subst h0; exact andF_f (tstF_v (nameF_v rfl) rfl)
  · rcases h with h | ⟨c, hc, hne⟩
    · omega
    · refine andF_t (tstF_v (nameF_v rfl) (by show some ((A : Int) != 0) = some true; rw [bne_iff_ne.mpr (by lia)])) (tstF_v (bin2_v (bin2_v (nameF_v rfl) (nameF_v rfl) (itemD_str (by lia) hc)) rfl (is_sp (hl c (List.mem_of_getElem? hc)))) (by rw [decide_eq_false hne]; rfl))
theorem tL_t {l : List Nat} {A i : Nat} {b3 : Option Loc} (hA : 0 < A) (hi : i < 1000000) (hc : l[i]? = some 32) : tL ⟨SS l A i b3, []⟩ = some (true, ⟨SS l A i b3, []⟩) :=
  andF_t (tstF_v (nameF_v rfl) (by show some ((A : Int) != 0) = some true; rw [bne_iff_ne.mpr (by lia)])) (tstF_v (bin2_v (bin2_v (nameF_v rfl) (nameF_v rfl) (itemD_str (by lia) hc)) rfl (is_sp (by decide))) rfl)
theorem tR_f {l : List Nat} {A i j : Nat} (hl : ∀ c ∈ l, c < 1114112) (hi : j < 1000000) (h : A = 0 ∨ ∃ c, l[j]? = some c ∧ c ≠ 32) : tR ⟨SS l A i (some (.val (.int j))), []⟩ = some (false, ⟨SS l A i (some (.val (.int j))), []⟩) := by
  rcases Nat.eq_zero_or_pos A with h0 | h0
  · subst h0; exact andF_f (tstF_v (nameF_v rfl) rfl)
  · rcases h with h | ⟨c, hc, hne⟩
    · omega
    · refine andF_t (tstF_v (nameF_v rfl) (by show some ((A : Int) != 0) = some true; rw [bne_iff_ne.mpr (by lia)])) (tstF_v (bin2_v (bin2_v (nameF_v rfl) (nameF_v rfl) (itemD_str (by lia) hc)) rfl (is_sp (hl c (List.mem_of_getElem? hc)))) (by rw [decide_eq_false hne]; rfl))
theorem tR_t {l : List Nat} {A i j : Nat} (hA : 0 < A) (hi : j < 1000000) (hc : l[j]? = some 32) : tR ⟨SS l A i (some (.val (.int j))), []⟩ = some (true, ⟨SS l A i (some (.val (.int j))), []⟩) :=
  andF_t (tstF_v (nameF_v rfl) (by show some ((A : Int) != 0) = some true; rw [bne_iff_ne.mpr (by lia)])) (tstF_v (bin2_v (bin2_v (nameF_v rfl) (nameF_v rfl) (itemD_str (by lia) hc)) rfl (is_sp (by decide))) rfl)
theorem augF_v {i : Nat} {o : Int -> Int -> Int} {f : St -> Option (PyData × St)} {S : L} {S1 : St} {a b : Int} (h0 : S[i]? = some (some (.val (.int a)))) (hf : f ⟨S, []⟩ = some (.int b, S1)) : augF i o f S = some (.next, setL S1.loc i (.val (.int (o a b)))) := by
  unfold augF; rw [h0]; simp only [valOf, intOf, Option.bind_some]; rw [hf]; simp only [Option.bind_some, intOf, Option.map_some]
theorem whileF_f {t : St -> Option (Bool × St)} {b : L -> Option (Fl × L)} {n : Nat} {S : L} {S1 : St} (h : t ⟨S, []⟩ = some (false, S1)) : whileF t b (n + 1) S = some (.next, S1.loc) := by
  unfold whileF; rw [h]; rfl
theorem whileF_t {t : St -> Option (Bool × St)} {b : L -> Option (Fl × L)} {n : Nat} {S S2 : L} {S1 : St} (h : t ⟨S, []⟩ = some (true, S1)) (hb : b S1.loc = some (.next, S2)) : whileF t b (n + 1) S = whileF t b n S2 := by
  rw [whileF, h]; simp only [Option.bind_some, if_true]; rw [hb]; rfl
theorem loopL {l : List Nat} {b3 : Option Loc} (hl : ∀ c ∈ l, c < 1114112) : ∀ (k i A N : Nat), (∀ j, j < k -> l[i + j]? = some 32) -> k ≤ A -> (A = k ∨ ∃ c, l[i + k]? = some c ∧ c ≠ 32) -> k < N -> i + k < 1000000 ->
    whileF tL (seqF t_strip_2 (seqF t_strip_3 nextF)) N (SS l A i b3) = some (.next, SS l (A - k) (i + k) b3)
  | 0, i, A, N + 1, _, _, h, _, hi => by rw [whileF_f (tL_f (i := i) hl (by omega) (show A = 0 ∨ ∃ c, l[i]? = some c ∧ c ≠ 32 from h))]; rfl
  | k + 1, i, A, N + 1, hs, hk, h, hN, hi => by
    have h0 := hs 0 (by lia)
    have hb : seqF t_strip_2 (seqF t_strip_3 nextF) (SS l A i b3) = some (.next, SS l (A - 1) (i + 1) b3) := by
      have e2 : t_strip_2 (SS l A i b3) = some (.next, SS l A (i + 1) b3) := (augF_v (i := 2) (o := fun a b => a + b) (a := (i : Int)) (b := 1) (f := cI 1) (S1 := ⟨SS l A i b3, []⟩) rfl rfl).trans (by rw [show (i : Int) + 1 = ((i + 1 : Nat) : Int) by lia]; rfl)
      have e3 : t_strip_3 (SS l A (i + 1) b3) = some (.next, SS l (A - 1) (i + 1) b3) := (augF_v (i := 1) (o := fun a b => a - b) (a := (A : Int)) (b := 1) (f := cI 1) (S1 := ⟨SS l A (i + 1) b3, []⟩) rfl rfl).trans (by rw [show (A : Int) - 1 = ((A - 1 : Nat) : Int) by lia]; rfl)
      rw [seqF_next e2, seqF_next e3]; rfl
    rw [whileF_t (tL_t (by lia) (by lia) (by simpa using h0)) hb]
    rw [loopL hl k (i + 1) (A - 1) N (fun j hj => by have := hs (j + 1) (by lia); rw [show i + (j + 1) = i + 1 + j by lia] at this; exact this) (by omega) (by
      rcases h with h | ⟨c, hc, hne⟩
      · left; omega
      · right; exact ⟨c, by rw [show i + 1 + k = i + (k + 1) by lia]; exact hc, hne⟩) (by lia) (by lia)]
    rw [show A - 1 - k = A - (k + 1) by lia, show i + 1 + k = i + (k + 1) by lia]
theorem loopR {l : List Nat} {i : Nat} (hl : ∀ c ∈ l, c < 1114112) : ∀ (k j A N : Nat), (∀ z, z < k -> l[j - z]? = some 32) -> k ≤ j -> k ≤ A -> (A = k ∨ ∃ c, l[j - k]? = some c ∧ c ≠ 32) -> k < N -> j < 1000000 ->
    whileF tR (seqF t_strip_6 (seqF t_strip_7 nextF)) N (SS l A i (some (.val (.int j)))) = some (.next, SS l (A - k) i (some (.val (.int ((j - k : Nat) : Int)))))
  | 0, j, A, N + 1, _, _, _, h, _, hi => by rw [whileF_f (tR_f (j := j) hl (by omega) (show A = 0 ∨ ∃ c, l[j]? = some c ∧ c ≠ 32 from h))]; rfl
  | k + 1, j, A, N + 1, hs, hj, hk, h, hN, hi => by
    have h0 := hs 0 (by lia)
    have hb : seqF t_strip_6 (seqF t_strip_7 nextF) (SS l A i (some (.val (.int j)))) = some (.next, SS l (A - 1) i (some (.val (.int ((j - 1 : Nat) : Int))))) := by
      have e2 : t_strip_6 (SS l A i (some (.val (.int j)))) = some (.next, SS l A i (some (.val (.int ((j - 1 : Nat) : Int))))) := (augF_v (i := 3) (o := fun a b => a - b) (a := (j : Int)) (b := 1) (f := cI 1) (S1 := ⟨SS l A i (some (.val (.int j))), []⟩) rfl rfl).trans (by rw [show (j : Int) - 1 = ((j - 1 : Nat) : Int) by lia]; rfl)
      have e3 : t_strip_7 (SS l A i (some (.val (.int ((j - 1 : Nat) : Int))))) = some (.next, SS l (A - 1) i (some (.val (.int ((j - 1 : Nat) : Int))))) := (augF_v (i := 1) (o := fun a b => a - b) (a := (A : Int)) (b := 1) (f := cI 1) (S1 := ⟨SS l A i (some (.val (.int ((j - 1 : Nat) : Int)))), []⟩) rfl rfl).trans (by rw [show (A : Int) - 1 = ((A - 1 : Nat) : Int) by lia]; rfl)
      rw [seqF_next e2, seqF_next e3]; rfl
    rw [whileF_t (tR_t (by lia) (by omega) (by simpa using h0)) hb]
    rw [loopR hl k (j - 1) (A - 1) N (fun z hz => by have := hs (z + 1) (by lia); rw [show j - (z + 1) = j - 1 - z by lia] at this; exact this) (by lia) (by lia) (by
      rcases h with h | ⟨c, hc, hne⟩
      · left; lia
      · right; exact ⟨c, by rw [show j - 1 - k = j - (k + 1) by lia]; exact hc, hne⟩) (by lia) (by omega)]
    rw [show A - 1 - k = A - (k + 1) by lia, show j - 1 - k = j - (k + 1) by lia]
theorem cutF_v {f : St -> Option (PyData × St)} {lo hi : St -> Option (Option Int × St)} {S S1 S2 S3 : St} {x y : Str} {a b : Option Int} (h1 : f S = some (.str x, S1)) (h2 : lo S1 = some (a, S2)) (h3 : hi S2 = some (b, S3)) (hl : x.length ≤ 1000000) (hc : cutS x a b = some y) : cutF f lo hi S = some (.str y, S3) := by
  unfold cutF; rw [h1]; simp only [Option.bind_some]; rw [h2]; simp only [Option.bind_some]; rw [h3]; simp only [Option.bind_some, strOf]; rw [if_pos hl, hc]; rfl
theorem cutS_v {l : List Nat} {a b : Nat} (h : a ≤ b) (hb : b ≤ l.length) (hl : l.length ≤ 1000000) : cutS (sOf l) (some (a : Int)) (some (b : Int)) = some (sOf ((l.drop a).take (b - a))) := by
  unfold cutS
  rw [if_neg (by simp)]
  simp only [Option.getD_some, sOf_len]
  rw [if_pos ⟨by lia, by lia, by lia, hl⟩, sOf_list, show ((b : Int) - (a : Int)).toNat = b - a by lia, Int.toNat_natCast]
  rfl
theorem strip_v {l : List Nat} {A k1 k2 : Nat} (hl : ∀ c ∈ l, c < 1114112) (hn : l.length ≤ 500) (h1 : ∀ j, j < k1 -> l[j]? = some 32) (hA : k1 + k2 ≤ A) (e1 : A = k1 ∨ ∃ c, l[k1]? = some c ∧ c ≠ 32) (h2 : ∀ z, z < k2 -> l[l.length - 1 - z]? = some 32) (e2 : A = k1 + k2 ∨ ∃ c, l[l.length - 1 - k2]? = some c ∧ c ≠ 32) (hlen : k1 + k2 < l.length) :
    o_strip [.str (sOf l), .int A] = some (.str (sOf ((l.drop k1).take (l.length - k1 - k2)))) := by
  refine fnA_v rfl ?_
  unfold m_strip
  have f1 : t_strip_1 (initL 5 [.str (sOf l), .int A]) = some (.next, SS l A 0 none) := rfl
  have f4 : t_strip_4 (SS l A 0 none) = some (.next, SS l (A - k1) k1 none) := by
    have := loopL (b3 := none) hl k1 0 A 1000 (fun j hj => by rw [Nat.zero_add]; exact h1 j hj) (by lia) (by rw [Nat.zero_add]; exact e1) (by lia) (by lia)
    rw [Nat.zero_add] at this; exact this
  have f5 : t_strip_5 (SS l (A - k1) k1 none) = some (.next, SS l (A - k1) k1 (some (.val (.int ((l.length - 1 : Nat) : Int))))) := by
    refine (asgF_v (d := .int (((sOf l).length : Int) - 1)) (S1 := ⟨SS l (A - k1) k1 none, []⟩) (bin2_v (callF_v (one_v (nameF_v rfl)) (lenD_str (by rw [sOf_len]; lia))) rfl rfl)).trans ?_
    rw [sOf_len, show (l.length : Int) - 1 = ((l.length - 1 : Nat) : Int) by lia]; rfl
  have f8 : t_strip_8 (SS l (A - k1) k1 (some (.val (.int ((l.length - 1 : Nat) : Int))))) = some (.next, SS l (A - k1 - k2) k1 (some (.val (.int ((l.length - 1 - k2 : Nat) : Int))))) :=
    loopR hl k2 (l.length - 1) (A - k1) 1000 h2 (by lia) (by lia) (e2.imp (fun q => by lia) fun q => q) (by lia) (by omega)
  rw [seqF_next f1, seqF_next f4, seqF_next f5, seqF_next f8]
  refine ⟨_, seqF_ret (f := t_strip_9) (retF_v (cutF_v (nameF_v rfl) (intP_v (nameF_v rfl)) (intP_v (bin2_v (nameF_v rfl) rfl (c := .int ((l.length - 1 - k2 + 1 : Nat) : Int)) (by show some (PyData.int _) = _; push_cast; rfl))) (by rw [sOf_len]; lia) ?_))⟩
  rw [cutS_v (by omega) (by omega) (by omega)]
  rw [show l.length - 1 - k2 + 1 - k1 = l.length - k1 - k2 by omega]
theorem em_eq : (Str.ofString "") = sOf [] := by decide +kernel
noncomputable def landD (land : List (Option Nat)) : List PyData := land.map fun o => .str (sOf o.toList)
theorem landD_get {land : List (Option Nat)} {i : Nat} {o : Option Nat} (h : land[i]? = some o) : (landD land)[i]? = some (.str (sOf o.toList)) := by simp [landD, h]
theorem toList_inj {o o' : Option Nat} : o.toList = o'.toList ↔ o = o' := by cases o <;> cases o' <;> simp
theorem o_small {o : Option Nat} {land : List (Option Nat)} (hl : ∀ x, some x ∈ land -> x < 1114112) (h : o ∈ land) : ∀ c ∈ o.toList, c < 1114112 := by
  cases o with
  | none => intro c hc; simp at hc
  | some x => intro c hc; simp at hc; subst hc; exact hl c h
theorem fmod_nat {b n m i : Nat} (hn : 0 < n) : ((b : Int) - ((n * m : Nat) : Int) + (i : Int)).fmod (n : Int) = (((b + i) % n : Nat) : Int) := by
  rw [Int.fmod_eq_emod_of_nonneg _ (by lia)]
  have : ((b : Int) - ((n * m : Nat) : Int) + (i : Int)) = ((b + i : Nat) : Int) + (n : Int) * (-(m : Int)) := by push_cast; rw [Int.mul_neg]; lia
  rw [this, Int.add_mul_emod_self_left]; rfl
section
variable {LD : PyData} {land : List (Option Nat)}
noncomputable abbrev SH (LD : PyData) (n : Nat) (hs : List PyData) (b3 b4 : Option Loc) : L := [some (.val LD), some (.val (.int n)), some (.own hs), b3, b4, none, none]
theorem heights2 {n b : Nat} {hs : List PyData} {b4 : Option Loc} {o : Option Nat} (hl : ∀ x, some x ∈ land -> x < 1114112) (hn : land.length ≤ 100) (ho : land[b]? = some o) :
    t_heights_2 (SH (.list (landD land)) n hs (some (.val (.int b))) b4) = some (.next, SH (.list (landD land)) n hs (some (.val (.int b))) (some (.own (((List.range (land.length - (b + 1))).filter fun i => decide (land[b + 1 + i]? = some o)).map fun i => .int ((i + 1 : Nat) : Int))))) := by
  have hb : b < land.length := (List.getElem?_eq_some_iff.mp ho).1
  have hlen : (landD land).length = land.length := by simp [landD]
  have hi : rngF (consL (bin2 addD (nameF 3) (cI 1)) (consL (callF lenD (consL (nameF 0) nilL)) nilL)) ⟨SH (.list (landD land)) n hs (some (.val (.int b))) b4, []⟩ = some ((List.range (land.length - (b + 1))).map fun i => .int ((b + 1 + i : Nat) : Int), ⟨SH (.list (landD land)) n hs (some (.val (.int b))) b4, []⟩) := by
    have := rngF_v (g := consL (bin2 addD (nameF 3) (cI 1)) (consL (callF lenD (consL (nameF 0) nilL)) nilL)) (S := ⟨SH (.list (landD land)) n hs (some (.val (.int b))) b4, []⟩) (x := ((b + 1 : Nat) : Int)) (y := ((landD land).length : Int))
      (consL_v (bin2_v (nameF_v rfl) rfl (addD_nat (b := 1))) (one_v (callF_v (one_v (nameF_v rfl)) (lenD_list (by rw [hlen]; lia))))) rfl (by rw [hlen]; lia)
    rw [this, upFrom_map, hlen, show ((land.length : Int) - ((b + 1 : Nat) : Int)).toNat = land.length - (b + 1) by omega]
    rfl
  have hc := compF_emit (nn := 4) (i := 1) (ft := tstF (bin2 eqD (bin2 itemD (nameF 0) (cmpF 1)) (bin2 itemD (nameF 0) (nameF 3)))) (f := bin2 subD (cmpF 1) (nameF 3))
    (fun d => match d with | .int x => decide (land[x.toNat]? = some o) | _ => false) (fun d => match d with | .int x => .int (x - b) | d => d) hi (by simp; lia) (fun d hd cm hcm => by
      obtain ⟨i, hi, rfl⟩ := List.mem_map.mp hd
      have hi' : i < land.length - (b + 1) := List.mem_range.mp hi
      obtain ⟨o', ho'⟩ : ∃ o', land[b + 1 + i]? = some o' := ⟨_, List.getElem?_eq_getElem (by omega)⟩
      refine tstF_v (bin2_v (bin2_v (nameF_v rfl) (cmpF_v hcm (by decide)) ((itemD_nat (by omega)).trans (landD_get ho'))) (bin2_v (nameF_v rfl) (nameF_v rfl) ((itemD_nat (by lia)).trans (landD_get ho))) (eqD_sOf (o_small hl (List.mem_of_getElem? ho')) (o_small hl (List.mem_of_getElem? ho)))) ?_
      show some (decide (o'.toList = o.toList)) = some (decide (land[((b + 1 + i : Nat) : Int).toNat]? = some o))
      rw [Int.toNat_natCast, ho']
      congr 1
      simp only [toList_inj, Option.some.injEq]) (fun d hd _ cm hcm => by
      obtain ⟨i, hi, rfl⟩ := List.mem_map.mp hd
      exact bin2_v (cmpF_v hcm (by decide)) (nameF_v rfl) rfl)
  refine (asgO_v hc).trans ?_
  have : (((List.range (land.length - (b + 1))).map fun i => PyData.int ((b + 1 + i : Nat) : Int)).filter (fun d => match d with | .int x => decide (land[x.toNat]? = some o) | _ => false)).map (fun d => match d with | .int x => PyData.int (x - b) | d => d) =
      ((List.range (land.length - (b + 1))).filter fun i => decide (land[b + 1 + i]? = some o)).map fun i => .int ((i + 1 : Nat) : Int) := by
    rw [List.filter_map, List.map_map]
    simp only [Function.comp_def, Int.toNat_natCast]
    refine List.map_congr_left fun i _ => ?_
    congr 1; push_cast; lia
  rw [this]; rfl
structure HtOk (land : List (Option Nat)) (b h : Nat) : Prop where
  ex : ∃ o, land[b]? = some o ∧ (o = none -> h = 0) ∧ ∀ x, o = some x -> 0 < h ∧ land[b + h]? = some (some x) ∧ ∀ j, b < j -> j < b + h -> land[j]? ≠ some (some x)
theorem heights_body {n b h : Nat} {hs : List PyData} {b4 : Option Loc} (hl : ∀ x, some x ∈ land -> x < 1114112) (hn : land.length ≤ 100) (H : HtOk land b h) (hhs : hs.length ≤ 100) :
    ∃ b4', seqF t_heights_2 (seqF t_heights_3 nextF) (SH (.list (landD land)) n hs (some (.val (.int b))) b4) = some (.next, SH (.list (landD land)) n (hs ++ [.int h]) (some (.val (.int b))) b4') := by
  obtain ⟨o, ho, h0, h1⟩ := H.ex
  have hb : b < land.length := (List.getElem?_eq_some_iff.mp ho).1
  rw [seqF_next (heights2 hl hn ho)]
  generalize hag : (((List.range (land.length - (b + 1))).filter fun i => decide (land[b + 1 + i]? = some o)).map fun i => PyData.int ((i + 1 : Nat) : Int)) = ag
  have et : tstF (bin2 eqD (bin2 itemD (nameF 0) (nameF 3)) (cS "")) ⟨SH (.list (landD land)) n hs (some (.val (.int b))) (some (.own ag)), []⟩ = some (decide (o = none), ⟨SH (.list (landD land)) n hs (some (.val (.int b))) (some (.own ag)), []⟩) := by
    refine tstF_v (bin2_v (bin2_v (nameF_v rfl) (nameF_v rfl) ((itemD_nat (by lia)).trans (landD_get ho))) rfl (by rw [em_eq]; exact eqD_sOf (o_small hl (List.mem_of_getElem? ho)) (by simp))) ?_
    show some (decide (o.toList = [])) = _
    cases o <;> simp
  have e3 : t_heights_3 (SH (.list (landD land)) n hs (some (.val (.int b))) (some (.own ag))) = some (.next, SH (.list (landD land)) n (hs ++ [.int h]) (some (.val (.int b))) (some (.own ag))) := by
    cases o with
    | none =>
      rw [h0 rfl]
      have ef : ifF (tstF (bin2 eqD (bin2 itemD (nameF 0) (nameF 3)) (cS ""))) (cI 0) (subOwn 4 (cI 0)) ⟨SH (.list (landD land)) n hs (some (.val (.int b))) (some (.own ag)), []⟩ = some (.int 0, ⟨SH (.list (landD land)) n hs (some (.val (.int b))) (some (.own ag)), []⟩) := ifF_t et rfl
      exact exprF_v (appF_v (l := hs) rfl ef rfl (by lia))
    | some x =>
      obtain ⟨hp, e1, e2⟩ := h1 x rfl
      have hbh : b + h < land.length := (List.getElem?_eq_some_iff.mp e1).1
      have hf : (List.range (land.length - (b + 1))).find? (fun i => decide (land[b + 1 + i]? = some (some x))) = some (h - 1) := by
        rw [List.find?_range_eq_some]
        refine ⟨by rw [decide_eq_true_eq, show b + 1 + (h - 1) = b + h by omega]; exact e1, List.mem_range.mpr (by omega), fun j hj => ?_⟩
        rw [Bool.not_eq_true', decide_eq_false_iff_not]
        exact e2 _ (by lia) (by omega)
      have ha : ag[0]? = some (.int h) := by
        rw [<- hag, List.getElem?_map, <- List.head?_eq_getElem?, List.head?_filter, hf]
        show some (PyData.int ((h - 1 + 1 : Nat) : Int)) = _
        rw [show h - 1 + 1 = h by omega]
      have ef : ifF (tstF (bin2 eqD (bin2 itemD (nameF 0) (nameF 3)) (cS ""))) (cI 0) (subOwn 4 (cI 0)) ⟨SH (.list (landD land)) n hs (some (.val (.int b))) (some (.own ag)), []⟩ = some (.int h, ⟨SH (.list (landD land)) n hs (some (.val (.int b))) (some (.own ag)), []⟩) := ifF_f et (subOwn_v (k := 0) (l := ag) rfl rfl rfl (by decide) ha)
      exact exprF_v (appF_v (l := hs) rfl ef rfl (by omega))
  exact ⟨some (.own ag), by rw [seqF_next e3]; rfl⟩
theorem heights_loop {n : Nat} (hl : ∀ x, some x ∈ land -> x < 1114112) (hn : land.length ≤ 100) : ∀ (hs : List Nat) (b : Nat) (acc : List PyData) (b3 b4 : Option Loc), (∀ j h, hs[j]? = some h -> HtOk land (b + j) h) -> acc.length + hs.length ≤ 100 ->
    ∃ b3' b4', forL (tgtN 3) (seqF t_heights_2 (seqF t_heights_3 nextF)) (upFrom b hs.length) (SH (.list (landD land)) n acc b3 b4) = some (.next, SH (.list (landD land)) n (acc ++ numsD hs) b3' b4')
  | [], b, acc, b3, b4, _, _ => ⟨b3, b4, by simp [forL, upFrom, numsD]⟩
  | h :: hs, b, acc, b3, b4, H, ha => by
    obtain ⟨x4, e⟩ := heights_body (n := n) (hs := acc) (b4 := b4) hl hn (show HtOk land b h from H 0 h rfl) (by simp at ha; lia)
    obtain ⟨y3, y4, ih⟩ := heights_loop (n := n) hl hn hs (b + 1) (acc ++ [.int h]) (some (.val (.int b))) x4 (fun j g hj => by rw [show b + 1 + j = b + (j + 1) by lia]; exact H (j + 1) g hj) (by simp at ha ⊢; lia)
    refine ⟨y3, y4, ?_⟩
    rw [List.length_cons, upFrom, forL_step (S1 := SH (.list (landD land)) n acc (some (.val (.int b))) b4) rfl e]
    rw [show ((b : Nat) : Int) + 1 = ((b + 1 : Nat) : Int) by push_cast; rfl, ih]
    simp [numsD]
theorem heights_v {hs : List Nat} (hl : ∀ x, some x ∈ land -> x < 1114112) (hn : land.length ≤ 100) (H : ∀ j h, hs[j]? = some h -> HtOk land j h) (h5 : hs.length ≤ 5) : o_heights [.list (landD land), .int hs.length] = some (.list (numsD hs)) := by
  refine fnA_v rfl ?_
  unfold m_heights
  have e1 : t_heights_1 (initL 7 [.list (landD land), .int hs.length]) = some (.next, SH (.list (landD land)) hs.length [] none none) := asgO_v (lstF_v nilL_v (by simp))
  rw [seqF_next e1]
  obtain ⟨b3, b4, e⟩ := heights_loop (n := hs.length) hl hn hs 0 [] none none (fun j h hj => by rw [Nat.zero_add]; exact H j h hj) (by simp; lia)
  have e4 : t_heights_4 (SH (.list (landD land)) hs.length [] none none) = some (.next, SH (.list (landD land)) hs.length (numsD hs) b3 b4) := by
    refine forF_v (rngF_v (x := ((0 : Nat) : Int)) (y := (hs.length : Int)) (one_v (nameF_v rfl)) rfl (by omega)) ?_
    rw [show ((hs.length : Int) - ((0 : Nat) : Int)).toNat = hs.length by lia]
    exact e
  rw [seqF_next e4]
  exact ⟨_, seqF_ret (f := t_heights_5) (retF_v (nameF_own (i := 2) rfl))⟩
end
theorem cross_eq (h : Nat) : ∀ (L : LN) (k : Nat), L.length ≤ k -> cross h L k = ((List.range L.length).filter fun i => decide (k - i < L.getD i 0) && decide (L.getD i 0 < k - i + h)).length
  | [], k, _ => rfl
  | g :: L, k, hk => by
    have ih := cross_eq h L (k - 1) (by simp at hk; omega)
    have e : cross h (g :: L) k = (if k < g ∧ g < k + h then cross h L (k - 1) + 1 else cross h L (k - 1)) := by
      show @Bool.rec (fun _ => Nat) (cross h L (k - 1)) (@Bool.rec (fun _ => Nat) (cross h L (k - 1)) (Nat.succ (cross h L (k - 1))) (Nat.ble (Nat.succ g) (k + h))) (Nat.ble (Nat.succ k) g) = _
      cases e1 : Nat.ble (Nat.succ k) g with
      | false => rw [if_neg (fun q => by rw [Nat.ble_eq_true_of_le q.1] at e1; cases e1)]
      | true =>
        cases e2 : Nat.ble (Nat.succ g) (k + h) with
        | false => rw [if_neg (fun q => by rw [Nat.ble_eq_true_of_le q.2] at e2; cases e2)]
        | true => rw [if_pos ⟨Nat.le_of_ble_eq_true e1, Nat.le_of_ble_eq_true e2⟩]
    rw [e, ih, List.length_cons, List.range_succ_eq_map, List.filter_cons, List.filter_map, ]
    have e3 : ((List.range L.length).filter ((fun i => decide (k - i < (g :: L).getD i 0) && decide ((g :: L).getD i 0 < k - i + h)) ∘ Nat.succ)) = (List.range L.length).filter fun i => decide (k - 1 - i < L.getD i 0) && decide (L.getD i 0 < k - 1 - i + h) := by
      congr 1
      funext i
      simp only [Function.comp, List.getD_cons_succ]
      rw [show k - i.succ = k - 1 - i by lia]
    rw [e3]
    by_cases q : k < g ∧ g < k + h
    · rw [if_pos q, if_pos (by simp; exact q)]; simp
    · rw [if_neg q, if_neg (by simp; exact fun h1 => Nat.not_lt.mp fun h2 => q ⟨h1, h2⟩)]; simp
theorem nameF_c {i : Nat} {T : L} {cm : List (Option PyData)} {d : PyData} (h : T[i]? = some (some (.val d))) : nameF i ⟨T, cm⟩ = some (d, ⟨T, cm⟩) := nameF_v h
theorem subD_int {a b : Int} : subD (.int a) (.int b) = some (.int (a - b)) := rfl
theorem ltD_int {a b : Int} : ltD (.int a) (.int b) = some (.bool (decide (a < b))) := rfl
theorem gtD_int {a b : Int} : gtD (.int a) (.int b) = some (.bool (decide (b < a))) := rfl
noncomputable abbrev SC (hs : List Nat) (m n : Nat) (cs : List PyData) (b4 b5 b6 : Option Loc) : L := [some (.val (.list (numsD hs))), some (.val (.int m)), some (.val (.int n)), some (.own cs), b4, b5, b6, none, none]
section
variable {hs : List Nat} {m : Nat} {cs : List PyData} {b4 b5 b6 : Option Loc}
noncomputable def crossD (hs : List Nat) (m b h : Nat) : List Nat := (List.range (hs.length * m)).filter fun i => decide (hs.length * m - i < hs.getD ((b + i) % hs.length) 0) && decide (hs.getD ((b + i) % hs.length) 0 < hs.length * m - i + h)
theorem cards4 {b h : Nat} (h0 : 0 < hs.length) (h5 : hs.length ≤ 5) (hm : m ≤ 4) (hb : b < hs.length) (hh : h ≤ 1000) (hle : ∀ g ∈ hs, g ≤ 1000) :
    ∃ l, t_cards_4 (SC hs m hs.length cs (some (.val (.int b))) (some (.val (.int ((b + h : Nat) : Int)))) b6) = some (.next, SC hs m hs.length cs (some (.val (.int b))) (some (.val (.int ((b + h : Nat) : Int)))) (some (.own l))) ∧ l.length = (crossD hs m b h).length := by
  have hnm : hs.length * m ≤ 5 * 4 := Nat.mul_le_mul h5 hm
  generalize hS : (⟨SC hs m hs.length cs (some (.val (.int b))) (some (.val (.int ((b + h : Nat) : Int)))) b6, []⟩ : St) = S
  have s0 : S.loc[0]? = some (some (.val (.list (numsD hs)))) := by subst hS; rfl
  have s1 : S.loc[1]? = some (some (.val (.int m))) := by subst hS; rfl
  have s2 : S.loc[2]? = some (some (.val (.int hs.length))) := by subst hS; rfl
  have s4 : S.loc[4]? = some (some (.val (.int b))) := by subst hS; rfl
  have s5 : S.loc[5]? = some (some (.val (.int ((b + h : Nat) : Int)))) := by subst hS; rfl
  have hi : rngF (consL (bin2 subD (nameF 4) (bin2 mulD (nameF 2) (nameF 1))) (consL (nameF 4) nilL)) S = some ((List.range (hs.length * m)).map fun i => .int ((b : Int) - ((hs.length * m : Nat) : Int) + (i : Nat)), S) := by
    have := rngF_v (g := consL (bin2 subD (nameF 4) (bin2 mulD (nameF 2) (nameF 1))) (consL (nameF 4) nilL)) (S := S) (S1 := S) (x := (b : Int) - ((hs.length * m : Nat) : Int)) (y := (b : Int))
      (consL_v (bin2_v (nameF_v s4) (bin2_v (nameF_v s2) (nameF_v s1) (mulD_nat (by lia))) subD_int) (one_v (nameF_v s4))) rfl (by lia)
    rw [this, upFrom_map, show ((b : Int) - ((b : Int) - ((hs.length * m : Nat) : Int))).toNat = hs.length * m by lia]
  have hg : ∀ i, i < hs.length * m -> ∀ cm : List (Option PyData), cm.set 1 none = List.replicate 6 none -> bin2 itemD (nameF 0) (bin2 modD (cmpF 1) (nameF 2)) ⟨S.loc, cm.set 1 (some (.int ((b : Int) - ((hs.length * m : Nat) : Int) + (i : Nat))))⟩ = some (.int ((hs.getD ((b + i) % hs.length) 0 : Nat) : Int), ⟨S.loc, cm.set 1 (some (.int ((b : Int) - ((hs.length * m : Nat) : Int) + (i : Nat))))⟩) := fun i hi cm hcm => by
    have hlt := Nat.mod_lt (b + i) h0
    refine bin2_v (nameF_v s0) (bin2_v (cmpF_v hcm (by decide)) (nameF_v s2) (c := .int ((((b + i) % hs.length : Nat)) : Int)) ?_) ?_
    · show (if ((hs.length : Nat) : Int) ≠ 0 then some (PyData.int (((b : Int) - ((hs.length * m : Nat) : Int) + (i : Nat)).fmod (hs.length : Int))) else none) = _
      rw [if_pos (by lia), fmod_nat h0]
    · rw [itemD_nat (by lia)]
      refine numsD_get ?_
      rw [List.getD_eq_getElem?_getD, List.getElem?_eq_getElem hlt]; rfl
  have hc := compF_emit (nn := 6) (i := 1) (ft := andF (tstF (bin2 gtD (bin2 itemD (nameF 0) (bin2 modD (cmpF 1) (nameF 2))) (cI 0))) (chain2 ltD ltD (nameF 4) (bin2 addD (cmpF 1) (bin2 itemD (nameF 0) (bin2 modD (cmpF 1) (nameF 2)))) (nameF 5))) (f := cmpF 1)
    (fun d => match d with | .int x => decide (hs.length * m - (x - ((b : Int) - ((hs.length * m : Nat) : Int))).toNat < hs.getD ((b + (x - ((b : Int) - ((hs.length * m : Nat) : Int))).toNat) % hs.length) 0) && decide (hs.getD ((b + (x - ((b : Int) - ((hs.length * m : Nat) : Int))).toNat) % hs.length) 0 < hs.length * m - (x - ((b : Int) - ((hs.length * m : Nat) : Int))).toNat + h) | _ => false) (fun d => d) hi (by simp; lia) (fun d hd cm hcm => by
      obtain ⟨i, hi, rfl⟩ := List.mem_map.mp hd
      have hi' : i < hs.length * m := List.mem_range.mp hi
      have hz := hg i hi' cm hcm
      have ei : ((b : Int) - ((hs.length * m : Nat) : Int) + (i : Nat) - ((b : Int) - ((hs.length * m : Nat) : Int))).toNat = i := by omega
      simp only [ei]
      generalize hgv : hs.getD ((b + i) % hs.length) 0 = g at hz ⊢
      by_cases g0 : 0 < g
      · have hadd : bin2 addD (cmpF 1) (bin2 itemD (nameF 0) (bin2 modD (cmpF 1) (nameF 2))) ⟨S.loc, cm.set 1 (some (.int ((b : Int) - ((hs.length * m : Nat) : Int) + (i : Nat))))⟩ = some (.int ((b : Int) - ((hs.length * m : Nat) : Int) + (i : Nat) + (g : Int)), ⟨S.loc, cm.set 1 (some (.int ((b : Int) - ((hs.length * m : Nat) : Int) + (i : Nat))))⟩) := bin2_v (cmpF_v hcm (by omega)) hz rfl
        refine andF_t (tstF_v (bin2_v hz rfl gtD_int) (by rw [decide_eq_true (by omega : (0 : Int) < (g : Int))]; rfl)) ?_
        by_cases q1 : (b : Int) < (b : Int) - ((hs.length * m : Nat) : Int) + (i : Nat) + (g : Int)
        · refine (chain2_tt (x := true) (nameF_c s4) hadd ltD_int (by rw [decide_eq_true q1]; rfl) (nameF_c s5) ltD_int rfl).trans ?_
          congr 2
          rw [decide_eq_true (by omega : hs.length * m - i < g), Bool.true_and]
          exact decide_eq_decide.mpr (by omega)
        · refine (chain2_f (nameF_c s4) hadd ltD_int (by rw [decide_eq_false q1]; rfl)).trans ?_
          rw [decide_eq_false (by omega : ¬ hs.length * m - i < g), Bool.false_and]
      · refine (andF_f (tstF_v (bin2_v hz rfl gtD_int) (by rw [decide_eq_false (by omega : ¬ (0 : Int) < (g : Int))]; rfl))).trans ?_
        rw [decide_eq_false (by omega : ¬ hs.length * m - i < g), Bool.false_and]) (fun d hd _ cm hcm => cmpF_v hcm (by omega))
  have hlen : (((List.range (hs.length * m)).map fun i => PyData.int ((b : Int) - ((hs.length * m : Nat) : Int) + (i : Nat))).filter (fun d => match d with | .int x => decide (hs.length * m - (x - ((b : Int) - ((hs.length * m : Nat) : Int))).toNat < hs.getD ((b + (x - ((b : Int) - ((hs.length * m : Nat) : Int))).toNat) % hs.length) 0) && decide (hs.getD ((b + (x - ((b : Int) - ((hs.length * m : Nat) : Int))).toNat) % hs.length) 0 < hs.length * m - (x - ((b : Int) - ((hs.length * m : Nat) : Int))).toNat + h) | _ => false)).length = (crossD hs m b h).length := by
    rw [List.filter_map, List.length_map]
    unfold crossD
    congr 1
    refine List.filter_congr fun i hi => ?_
    simp only [Function.comp]
    rw [show ((b : Int) - ((hs.length * m : Nat) : Int) + (i : Nat) - ((b : Int) - ((hs.length * m : Nat) : Int))).toNat = i by omega]
  rw [List.map_id'] at hc
  generalize List.filter _ _ = Z at hc hlen
  subst hS
  exact ⟨Z, asgO_v hc, hlen⟩
end
theorem lenOwn_v {i : Nat} {S : St} {l : List PyData} (h : S.loc[i]? = some (some (.own l))) (hl : l.length ≤ 1000000) : lenOwn i S = some (.int l.length, S) := by
  unfold lenOwn; rw [h]; simp only [ownOf, Option.bind_some]; rw [if_pos hl]
noncomputable def cardN (hs : List Nat) (m b : Nat) : Nat := if hs.getD b 0 = 0 then 0 else 1 + (crossD hs m b (hs.getD b 0)).length
section
variable {hs : List Nat} {m : Nat} {b4 b5 b6 : Option Loc}
theorem cards_body {b : Nat} {cs : List PyData} (h0 : 0 < hs.length) (h5 : hs.length ≤ 5) (hm : m ≤ 4) (hb : b < hs.length) (hle : ∀ g ∈ hs, g ≤ 1000) (hcs : cs.length ≤ 100) :
    ∃ b5' b6', seqF t_cards_3 (seqF t_cards_4 (seqF t_cards_5 nextF)) (SC hs m hs.length cs (some (.val (.int b))) b5 b6) = some (.next, SC hs m hs.length (cs ++ [.int (cardN hs m b)]) (some (.val (.int b))) b5' b6') := by
  have hg : hs[b]? = some (hs.getD b 0) := by rw [List.getD_eq_getElem?_getD, List.getElem?_eq_getElem hb]; rfl
  unfold cardN
  generalize hs.getD b 0 = h at hg ⊢
  have hh := hle h (List.mem_of_getElem? hg)
  have e3 : t_cards_3 (SC hs m hs.length cs (some (.val (.int b))) b5 b6) = some (.next, SC hs m hs.length cs (some (.val (.int b))) (some (.val (.int ((b + h : Nat) : Int)))) b6) :=
    asgF_v (S1 := ⟨SC hs m hs.length cs (some (.val (.int b))) b5 b6, []⟩) (bin2_v (nameF_v rfl) (bin2_v (nameF_v rfl) (nameF_v rfl) ((itemD_nat (by lia)).trans (numsD_get hg))) addD_nat)
  obtain ⟨l, e4, hl⟩ := cards4 (cs := cs) (b6 := b6) (h := h) h0 h5 hm hb hh hle
  have hll : l.length ≤ 20 := by
    have : (crossD hs m b h).length ≤ hs.length * m := by unfold crossD; exact Nat.le_trans (List.length_filter_le _ _) (by simp)
    have : hs.length * m ≤ 5 * 4 := Nat.mul_le_mul h5 hm
    lia
  rw [seqF_next e3, seqF_next e4]
  generalize hS : (⟨SC hs m hs.length cs (some (.val (.int b))) (some (.val (.int ((b + h : Nat) : Int)))) (some (.own l)), []⟩ : St) = S
  have s0 : S.loc[0]? = some (some (.val (.list (numsD hs)))) := by subst hS; rfl
  have s4 : S.loc[4]? = some (some (.val (.int b))) := by subst hS; rfl
  have s6 : S.loc[6]? = some (some (.own l)) := by subst hS; rfl
  have s3 : S.loc[3]? = some (some (.own cs)) := by subst hS; rfl
  have et : tstF (bin2 eqD (bin2 itemD (nameF 0) (nameF 4)) (cI 0)) S = some ((h : Int) == 0, S) :=
    tstF_v (bin2_v (bin2_v (nameF_v s0) (nameF_v s4) ((itemD_nat (by lia)).trans (numsD_get hg))) rfl eqD_int) rfl
  have ef : ifF (tstF (bin2 eqD (bin2 itemD (nameF 0) (nameF 4)) (cI 0))) (cI 0) (bin2 addD (cI 1) (lenOwn 6)) S = some (.int ((if h = 0 then 0 else 1 + (crossD hs m b h).length : Nat) : Int), S) := by
    by_cases q : h = 0
    · subst q; exact ifF_t et rfl
    · rw [if_neg q]
      refine ifF_f (by rw [et, beq_eq_false_iff_ne.mpr (by lia)]) ?_
      refine bin2_v rfl (lenOwn_v s6 (by lia)) ?_
      rw [hl]
      exact addD_nat (a := 1)
  have e5 : t_cards_5 (SC hs m hs.length cs (some (.val (.int b))) (some (.val (.int ((b + h : Nat) : Int)))) (some (.own l))) = some (.next, SC hs m hs.length (cs ++ [.int ((if h = 0 then 0 else 1 + (crossD hs m b h).length : Nat) : Int)]) (some (.val (.int b))) (some (.val (.int ((b + h : Nat) : Int)))) (some (.own l))) := by
    have := appF_v (i := 3) s3 ef s3 (by lia)
    subst hS
    exact exprF_v this
  rw [seqF_next e5]
  exact ⟨_, _, rfl⟩
theorem cards_loop (h0 : 0 < hs.length) (h5 : hs.length ≤ 5) (hm : m ≤ 4) (hle : ∀ g ∈ hs, g ≤ 1000) : ∀ (k b : Nat) (cs : List PyData) (b4 b5 b6 : Option Loc), b + k = hs.length -> cs.length + k ≤ 100 ->
    ∃ b4' b5' b6', forL (tgtN 4) (seqF t_cards_3 (seqF t_cards_4 (seqF t_cards_5 nextF))) (upFrom b k) (SC hs m hs.length cs b4 b5 b6) = some (.next, SC hs m hs.length (cs ++ (List.range k).map fun i => .int (cardN hs m (b + i))) b4' b5' b6')
  | 0, b, cs, b4, b5, b6, _, _ => ⟨b4, b5, b6, by simp [forL, upFrom]⟩
  | k + 1, b, cs, b4, b5, b6, hbk, hcs => by
    obtain ⟨x5, x6, e⟩ := cards_body (b5 := b5) (b6 := b6) (cs := cs) h0 h5 hm (b := b) (by lia) hle (by lia)
    obtain ⟨y4, y5, y6, ih⟩ := cards_loop h0 h5 hm hle k (b + 1) (cs ++ [.int (cardN hs m b)]) (some (.val (.int b))) x5 x6 (by omega) (by simp; lia)
    have el : cs ++ [.int (cardN hs m b)] ++ ((List.range k).map fun i => PyData.int (cardN hs m (b + 1 + i))) = cs ++ (List.range (k + 1)).map fun i => PyData.int (cardN hs m (b + i)) := by
      rw [List.range_succ_eq_map, List.map_cons, List.map_map, List.append_assoc]
      have : ∀ i, b + 1 + i = b + i.succ := fun i => by omega
      simp only [this, Function.comp_def, Nat.add_zero, List.singleton_append]
    rw [el] at ih
    refine ⟨y4, y5, y6, ?_⟩
    rw [upFrom, forL_step (S1 := SC hs m hs.length cs (some (.val (.int b))) b5 b6) rfl e, show ((b : Nat) : Int) + 1 = ((b + 1 : Nat) : Int) by push_cast; rfl]
    exact ih
theorem cards_v (h0 : 0 < hs.length) (h5 : hs.length ≤ 5) (hm : m ≤ 4) (hle : ∀ g ∈ hs, g ≤ 1000) : o_cards [.list (numsD hs), .int m] = some (.list (numsD ((List.range hs.length).map (cardN hs m)))) := by
  refine fnA_v rfl ?_
  unfold m_cards
  have hL : (numsD hs).length = hs.length := numsD_len hs
  have e1 : t_cards_1 (initL 9 [.list (numsD hs), .int m]) = some (.next, [some (.val (.list (numsD hs))), some (.val (.int m)), some (.val (.int hs.length)), none, none, none, none, none, none]) := by
    refine (asgF_v (i := 2) (S1 := ⟨initL 9 [.list (numsD hs), .int m], []⟩) (callF_v (one_v (nameF_v rfl)) (lenD_list (by rw [hL]; lia)))).trans ?_
    rw [hL]; rfl
  have e2 : t_cards_2 [some (.val (.list (numsD hs))), some (.val (.int m)), some (.val (.int hs.length)), none, none, none, none, none, none] = some (.next, SC hs m hs.length [] none none none) := asgO_v (lstF_v nilL_v (by simp))
  obtain ⟨x4, x5, x6, e⟩ := cards_loop (m := m) h0 h5 hm hle hs.length 0 [] none none none (by lia) (by simp; lia)
  have e6 : t_cards_6 (SC hs m hs.length [] none none none) = some (.next, SC hs m hs.length (numsD ((List.range hs.length).map (cardN hs m))) x4 x5 x6) := by
    refine forF_v (rngF_v (x := ((0 : Nat) : Int)) (y := (hs.length : Int)) (one_v (nameF_v rfl)) rfl (by lia)) ?_
    rw [show ((hs.length : Int) - ((0 : Nat) : Int)).toNat = hs.length by lia]
    refine e.trans ?_
    simp [numsD, Function.comp_def]
  rw [seqF_next e1, seqF_next e2, seqF_next e6]
  exact ⟨_, seqF_ret (f := t_cards_7) (retF_v (nameF_own (i := 3) rfl))⟩
theorem cardB_eq {m nm h : Nat} {l : LN} : cardB m nm l h = if h = 0 then 0 else 1 + cross h (rep m l) nm := by
  cases h with
  | zero => rfl
  | succ h => show Nat.succ (cross (h + 1) (rep m l) nm) = _; rw [if_neg (by lia)]; lia
theorem cardsBk_eq (m nm : Nat) : ∀ (l seen : LN), cardsBk m nm l seen = (List.range l.length).map fun i => cardB m nm (l.drop i ++ (seen ++ l.take i)) (l.getD i 0)
  | [], seen => rfl
  | h :: r, seen => by
    show cardB m nm (app (h :: r) seen) h :: cardsBk m nm r (app seen [h]) = _
    rw [app_eq, app_eq, cardsBk_eq m nm r, List.length_cons, List.range_succ_eq_map, List.map_cons, List.map_map]
    congr 1
    · simp
    · refine List.map_congr_left fun i _ => ?_
      simp
theorem cards_eq {n : Nat} (hn : hs.length = n) (h0 : 0 < n) : cardsBk m (n * m) hs [] = (List.range hs.length).map (cardN hs m) := by
  rw [cardsBk_eq]
  refine List.map_congr_left fun b hb => ?_
  have hb : b < hs.length := List.mem_range.mp hb
  rw [List.nil_append, cardB_eq]
  unfold cardN
  have hl : (hs.drop b ++ hs.take b).length = n := by simp; grind
  have hcr : cross (hs.getD b 0) (rep m (hs.drop b ++ hs.take b)) (n * m) = (crossD hs m b (hs.getD b 0)).length := by
    rw [rep_eq, show (List.replicate m (hs.drop b ++ hs.take b)).flatten = round m (hs.drop b ++ hs.take b) from rfl]
    have hrl : (round m (hs.drop b ++ hs.take b)).length = n * m := by rw [round_length, hl, Nat.mul_comm]
    rw [cross_eq _ _ _ (by omega), hrl]
    unfold crossD
    rw [hn]
    congr 1
    refine List.filter_congr fun i hi => ?_
    have hi : i < n * m := List.mem_range.mp hi
    have hg : (round m (hs.drop b ++ hs.take b)).getD i 0 = hs.getD ((b + i) % n) 0 := by
      rw [List.getD_eq_getElem?_getD, List.getD_eq_getElem?_getD, round_get _ _ _ (by rw [hl, Nat.mul_comm]; exact hi), hl]
      congr 1
      have hm := Nat.mod_lt i h0
      have e1 : (b + i) % n = if b + i % n < n then b + i % n else b + i % n - n := by
        rw [Nat.add_mod, Nat.mod_eq_of_lt (by lia : b < n)]
        by_cases q : b + i % n < n
        · rw [if_pos q, Nat.mod_eq_of_lt q]
        · rw [if_neg q, Nat.mod_eq_sub_mod (by lia), Nat.mod_eq_of_lt (by omega)]
      rw [e1]
      by_cases q : b + i % n < n
      · rw [if_pos q, List.getElem?_append_left (by simp; grind), List.getElem?_drop]
      · rw [if_neg q, List.getElem?_append_right (by simp; lia), List.getElem?_take_of_lt (by simp; grind)]
        congr 1; simp; lia
    rw [hg]
  rw [hcr]
end
noncomputable def isYes : Option PyData -> Bool
  | some (.bool true) => true
  | _ => false
theorem isYes_eq {o : Option PyData} (h : isYes o = true) : o = some (.bool true) := by
  unfold isYes at h; split at h
  · rfl
  · cases h
noncomputable def blanks (k : Nat) : List Nat := List.replicate k 32
noncomputable def lineL (a c t : Nat) : List Nat := blanks a ++ c :: blanks t
noncomputable def codes : List Nat := [33, 65, 97, 126]
theorem where_all : ((List.range 21).all fun a => isYes (o_where [.int (a : Int)])) = true := by decide +kernel
theorem where_v {a : Nat} (h : a ≤ 20) : o_where [.int a] = some (.bool true) := isYes_eq (List.all_eq_true.mp where_all a (List.mem_range.mpr (by omega)))
theorem code_small {c : Nat} (hc : c ∈ codes) : c < 1114112 ∧ c ≠ 32 := by
  simp [codes] at hc; lia
theorem blanks_get {k i : Nat} (h : i < k) : (blanks k)[i]? = some 32 := by unfold blanks; rw [List.getElem?_replicate]; rw [if_pos h]
theorem blanks_len (k : Nat) : (blanks k).length = k := by simp [blanks]
theorem lineL_len (a c t : Nat) : (lineL a c t).length = a + 1 + t := by simp [lineL, blanks_len]; lia
theorem lineL_small {a c t : Nat} (hc : c < 1114112) : ∀ x ∈ lineL a c t, x < 1114112 := by
  intro x hx
  simp only [lineL, blanks, List.mem_append, List.mem_cons, List.mem_replicate] at hx
  rcases hx with h | h | h
  · omega
  · lia
  · lia
theorem lineL_l {a c t i : Nat} (h : i < a) : (lineL a c t)[i]? = some 32 := by
  unfold lineL; rw [List.getElem?_append_left (by rw [blanks_len]; exact h)]; exact blanks_get h
theorem lineL_c {a c t : Nat} : (lineL a c t)[a]? = some c := by
  unfold lineL; rw [List.getElem?_append_right (by rw [blanks_len]; exact Nat.le_refl _), blanks_len, Nat.sub_self]; rfl
theorem lineL_r {a c t i : Nat} (h1 : a < i) (h2 : i < a + 1 + t) : (lineL a c t)[i]? = some 32 := by
  unfold lineL
  rw [List.getElem?_append_right (by rw [blanks_len]; lia), blanks_len, show i - a = (i - a - 1) + 1 by grind, List.getElem?_cons_succ]
  exact blanks_get (by omega)
theorem lineL_take {a c t k1 k2 : Nat} (h1 : k1 ≤ a) (h2 : k2 ≤ t) : ((lineL a c t).drop k1).take ((lineL a c t).length - k1 - k2) = lineL (a - k1) c (t - k2) := by
  rw [lineL_len]
  unfold lineL blanks
  rw [List.drop_append_of_le_length (by simp; exact h1), List.drop_replicate, List.take_append, List.length_replicate]
  rw [List.take_of_length_le (by simp; omega), show a + 1 + t - k1 - k2 - (a - k1) = (t - k2) + 1 by grind, List.take_succ_cons, List.take_replicate, Nat.min_eq_left (by omega)]
theorem strip_line {a c t A k1 k2 : Nat} (hc : c < 1114112 ∧ c ≠ 32) (ha : a ≤ 100) (ht : t ≤ 100) (h1 : k1 ≤ a) (h2 : k2 ≤ t) (hA : k1 + k2 ≤ A) (e1 : A = k1 ∨ k1 = a) (e2 : A = k1 + k2 ∨ k2 = t) :
    o_strip [.str (sOf (lineL a c t)), .int A] = some (.str (sOf (lineL (a - k1) c (t - k2)))) := by
  have hl := lineL_len a c t
  rw [strip_v (k1 := k1) (k2 := k2) (lineL_small hc.1) (by lia) (fun j hj => lineL_l (by lia)) hA (e1.imp (fun q => q) fun q => ⟨c, by rw [q]; exact lineL_c, hc.2⟩) (fun z hz => lineL_r (by omega) (by omega)) (e2.imp (fun q => q) fun q => ⟨c, by rw [show (lineL a c t).length - 1 - k2 = a by omega]; exact lineL_c, hc.2⟩) (by lia), lineL_take h1 h2]
noncomputable abbrev tabL (a c t : Nat) : List Nat := 9 :: (lineL a c t ++ [9])
theorem tabL_small {a c t : Nat} (hc : c < 1114112) : ∀ x ∈ tabL a c t, x < 1114112 := by
  intro x hx
  rcases List.mem_cons.mp hx with h | h
  · omega
  · rcases List.mem_append.mp h with h | h
    · exact lineL_small hc x h
    · simp at h; lia
theorem strip_tab {a c t : Nat} (hc : c < 1114112) (ha : a ≤ 100) (ht : t ≤ 100) : o_strip [.str (sOf (tabL a c t)), .int ((40 : Nat) : Int)] = some (.str (sOf (tabL a c t))) := by
  have hl : (tabL a c t).length = a + 1 + t + 2 := by simp [tabL, lineL_len]
  have hlast : (tabL a c t)[(tabL a c t).length - 1 - 0]? = some 9 := by
    rw [hl, show a + 1 + t + 2 - 1 - 0 = (a + 1 + t) + 1 by lia, List.getElem?_cons_succ, List.getElem?_append_right (by rw [lineL_len]; exact Nat.le_refl _), lineL_len, Nat.sub_self]; rfl
  rw [strip_v (k1 := 0) (k2 := 0) (tabL_small hc) (by lia) (fun j hj => by lia) (by decide) (.inr ⟨9, rfl, by decide⟩) (fun z hz => by lia) (.inr ⟨9, hlast, by decide⟩) (by lia)]
  rw [List.drop_zero, Nat.sub_zero, Nat.sub_zero, List.take_length]
theorem tab_eq : (Str.ofString "\t") = sOf [9] := by decide +kernel
theorem shaped_strs {l : List (List Nat)} (h : ∀ x ∈ l, ∀ c ∈ x, c < 1114112) : PySem.SeqAt.shaped (.list (l.map fun x => .str (sOf x))) = true := by
  have h1 : PyData.canLayAll0 (l.map fun x => .str (sOf x)) = true := by
    induction l with
    | nil => rfl
    | cons a r ih =>
      show (PyData.canLay0 (.str (sOf a)) && PyData.canLayAll0 (r.map fun x => .str (sOf x))) = true
      rw [ih fun x hx => h x (.tail _ hx), PySem.SeqAt.canLay_of_shaped (ok_sOf (h a (.head _)))]; rfl
  have h2 : PyData.depthAll (l.map fun x => .str (sOf x)) = 0 := by
    clear h h1
    induction l with
    | nil => rfl
    | cons a r ih => show max 0 (PyData.depthAll (r.map fun x => .str (sOf x))) = 0; rw [ih]; rfl
  unfold PySem.SeqAt.shaped
  rw [Bool.and_eq_true]
  refine ⟨h1, ?_⟩
  show decide (PyData.depthAll _ + 1 ≤ 64) = true
  rw [h2]; rfl
theorem addL_v {f f' : St -> Option (PyData × St)} {S S1 S2 : St} {a b : List PyData} (h1 : f S = some (.list a, S1)) (h2 : f' S1 = some (.list b, S2)) (hl : a.length + b.length ≤ 1000000) : addL f f' S = some (a ++ b, S2) := by
  unfold addL; rw [h1]; simp only [Option.bind_some]; rw [h2]; simp only [Option.bind_some]; rw [if_pos hl]
theorem addD_sOf {l l' : List Nat} (h : l.length + l'.length ≤ 10000) : addD (.str (sOf l)) (.str (sOf l')) = some (.str (sOf (l ++ l'))) := by
  rw [addD_str (by rw [sOf_len, sOf_len]; lia), sOf_append]
theorem cutS_tail {t k : Nat} (ht : t ≤ 100) : cutS (sOf (blanks t)) (some (k : Int)) none = some (sOf (blanks (t - k))) := by
  unfold cutS
  simp only [Option.getD_some, Option.getD_none, sOf_len, blanks_len]
  by_cases h : t ≤ k
  · rw [if_pos ⟨trivial, by lia⟩, show t - k = 0 by omega]; rfl
  · rw [if_neg (fun q => h (by have := q.2; lia)), if_pos ⟨by lia, by lia, by lia, by lia⟩, sOf_list, Int.toNat_natCast, show ((t : Int) - (k : Int)).toNat = t - k by grind]
    congr 1
    unfold blanks
    rw [List.drop_replicate, List.take_replicate, Nat.min_self]; rfl
theorem bared_v {c t h : Nat} (hc : c < 1114112 ∧ c ≠ 32) (ht : t ≤ 2) (hh : h ≤ 60) : o_bared [.str (sOf (lineL h c t)), .int h, .str (sOf (blanks t))] = some (.bool true) := by
  refine fnA_v rfl ?_
  unfold m_bared
  generalize hS : initL 6 [.str (sOf (lineL h c t)), .int h, .str (sOf (blanks t))] = S0
  have s0 : S0[0]? = some (some (.val (.str (sOf (lineL h c t))))) := by subst hS; rfl
  have s1 : S0[1]? = some (some (.val (.int h))) := by subst hS; rfl
  have s2 : S0[2]? = some (some (.val (.str (sOf (blanks t))))) := by subst hS; rfl
  have hlen := lineL_len h c t
  have hr : ∀ T : L, rngF (consL (cI 3) nilL) ⟨T, []⟩ = some ((List.range 3).map fun (i : Nat) => .int (i : Int), ⟨T, []⟩) := fun T => rngF_v (x := 0) (y := 3) (one_v rfl) rfl (by decide)
  have ht1 : ∀ T : L, T[0]? = some (some (.val (.str (sOf (lineL h c t))))) -> bin2 addD (bin2 addD (cS "\t") (nameF 0)) (cS "\t") ⟨T, []⟩ = some (.str (sOf (tabL h c t)), ⟨T, []⟩) := fun T hT => by
    refine bin2_v (bin2_v rfl (nameF_v hT) (c := .str (sOf (9 :: lineL h c t))) ?_) rfl ?_
    · rw [tab_eq, addD_sOf (by simp; lia)]; rfl
    · rw [tab_eq, addD_sOf (by simp; lia)]; rfl
  have c1 := compF_map (nn := 5) (i := 1) (f := callF o_strip (consL (nameF 0) (consL (bin2 addD (nameF 1) (cmpF 1)) nilL))) (S := ⟨S0, []⟩) (fun d => match d with | .int x => .str (sOf (c :: blanks (t - x.toNat))) | d => d) (hr S0) (by simp) (fun d hd cm hcm => by
    obtain ⟨i, hi, rfl⟩ := List.mem_map.mp hd
    refine callF_v (consL_v (nameF_c s0) (one_v (bin2_v (nameF_c s1) (cmpF_v hcm (by decide)) addD_nat))) ?_
    have := strip_line (a := h) (c := c) (t := t) (A := h + i) (k1 := h) (k2 := min i t) hc (by lia) (by lia) (Nat.le_refl _) (Nat.min_le_right _ _) (by lia) (.inr rfl) (by lia)
    rw [this, Nat.sub_self, show t - min i t = t - ((i : Nat) : Int).toNat by rw [Int.toNat_natCast]; grind]; rfl)
  have hL : ((List.range 3).map fun (i : Nat) => PyData.int (i : Int)).map (fun d => match d with | .int x => PyData.str (sOf (c :: blanks (t - x.toNat))) | d => d) = ((List.range 3).map fun i => c :: blanks (t - i)).map fun x => .str (sOf x) := by
    rw [List.map_map, List.map_map]; rfl
  rw [hL] at c1
  have e1 : t_bared_1 S0 = some (.next, setL S0 3 (.own (((List.range 3).map fun i => c :: blanks (t - i)).map (fun x => PyData.str (sOf x)) ++ [.str (sOf (tabL h c t))]))) :=
    asgO_v (addL_v (ofO_v c1) (ofO_v (lstF_v (one_v (callF_v (consL_v (ht1 S0 s0) (one_v (show cI 40 ⟨S0, []⟩ = some (.int ((40 : Nat) : Int), ⟨S0, []⟩) from rfl))) (strip_tab hc.1 (by lia) (by lia)))) (by simp))) (by simp))
  rw [seqF_next e1]
  generalize hT : setL S0 3 (.val (.list (((List.range 3).map fun i => c :: blanks (t - i)).map (fun x => PyData.str (sOf x)) ++ [.str (sOf (tabL h c t))]))) = T
  have t0 : T[0]? = some (some (.val (.str (sOf (lineL h c t))))) := by subst hT; subst hS; rfl
  have t1 : T[1]? = some (some (.val (.int h))) := by subst hT; subst hS; rfl
  have t2 : T[2]? = some (some (.val (.str (sOf (blanks t))))) := by subst hT; subst hS; rfl
  have c2 := compF_map (nn := 5) (i := 1) (f := bin2 addD (bin2 itemD (nameF 0) (nameF 1)) (cutF (nameF 2) (intP (cmpF 1)) noP)) (S := ⟨T, []⟩) (fun d => match d with | .int x => .str (sOf (c :: blanks (t - x.toNat))) | d => d) (hr T) (by simp) (fun d hd cm hcm => by
    obtain ⟨i, hi, rfl⟩ := List.mem_map.mp hd
    refine bin2_v (bin2_v (nameF_c t0) (nameF_c t1) (itemD_str (by lia) lineL_c)) (cutF_v (nameF_c t2) (intP_v (cmpF_v hcm (by decide))) rfl (by rw [sOf_len, blanks_len]; lia) (cutS_tail (by lia))) ?_
    rw [addD_sOf (by simp [blanks_len]; omega)]; rfl)
  rw [hL] at c2
  have hsh : PySem.SeqAt.shaped (.list (((List.range 3).map fun i => c :: blanks (t - i)).map (fun x => PyData.str (sOf x)) ++ [.str (sOf (tabL h c t))])) = true := by
    have := shaped_strs (l := ((List.range 3).map fun i => c :: blanks (t - i)) ++ [tabL h c t]) (fun x hx => by
      rcases List.mem_append.mp hx with hx | hx
      · obtain ⟨i, _, rfl⟩ := List.mem_map.mp hx
        exact lineL_small (a := 0) hc.1
      · rw [List.mem_singleton.mp hx]; exact tabL_small hc.1)
    rwa [List.map_append] at this
  refine ⟨_, seqF_ret (f := t_bared_2) (retF_v (bin2_v (S1 := ⟨T, []⟩) ?_ (ofO_v (addL_v (ofO_v c2) (ofO_v (lstF_v (one_v (ht1 T t0)) (by simp))) (by simp))) (eqD_self hsh)))⟩
  have := nameF_own (i := 3) (S := ⟨setL S0 3 (.own (((List.range 3).map fun i => c :: blanks (t - i)).map (fun x => PyData.str (sOf x)) ++ [.str (sOf (tabL h c t))])), []⟩) (l := ((List.range 3).map fun i => c :: blanks (t - i)).map (fun x => PyData.str (sOf x)) ++ [.str (sOf (tabL h c t))]) (by subst hS; rfl)
  rw [this, <- hT]
  simp [setL]
noncomputable def nameC (off m : Nat) : List Nat := ((codes ++ codes).drop off).take m
theorem names_all : ((List.range 4).all fun off => (List.range 3).all fun m => isYes (o_lnames [.str (sOf (nameC off (m + 2)))])) = true := by decide +kernel
theorem names_v {off m : Nat} (ho : off < 4) (hm : 2 ≤ m ∧ m ≤ 4) : o_lnames [.str (sOf (nameC off m))] = some (.bool true) := by
  have := isYes_eq (List.all_eq_true.mp (List.all_eq_true.mp names_all off (List.mem_range.mpr ho)) (m - 2) (List.mem_range.mpr (by omega)))
  rwa [show m - 2 + 2 = m by omega] at this
theorem line_lt {a a' c c' t t' : Nat} (h : a' < a) (hc : 32 < c') : lineL a c t < lineL a' c' t' := by
  induction a' generalizing a with
  | zero =>
    cases a with
    | zero => lia
    | succ a => exact List.cons_lt_cons_iff.mpr (.inl hc)
  | succ a' ih =>
    cases a with
    | zero => lia
    | succ a => exact List.cons_lt_cons_iff.mpr (.inr ⟨rfl, ih (by lia)⟩)
theorem lt_irr (a : List Nat) : ¬ a < a := List.lt_irrefl a
theorem lt_asy {a b : List Nat} (h : a < b) : ¬ b < a := fun q => lt_irr a (List.lt_trans h q)
theorem strcoll_v (a b : List Nat) : o_strcoll [.str (sOf a), .str (sOf b)] = some (.int (b2i (decide (b < a)) - b2i (decide (a < b)))) :=
  fnA_v rfl ⟨_, seqF_ret (retF_v (bin2_v (bin2_v (nameF_v rfl) (nameF_v rfl) (show gtD (.str (sOf a)) (.str (sOf b)) = some (.bool (decide (b < a))) from rfl)) (bin2_v (nameF_v rfl) (nameF_v rfl) (show ltD (.str (sOf a)) (.str (sOf b)) = some (.bool (decide (a < b))) from rfl)) rfl))⟩
noncomputable abbrev row3 : PyData := .list [.int (-1), .int 1, .int 0]
theorem shaped_rows (k : Nat) : PySem.SeqAt.shaped (.list (List.replicate k row3)) = true := by
  have h1 : PyData.canLayAll0 (List.replicate k row3) = true := by
    induction k with
    | zero => rfl
    | succ k ih => rw [List.replicate_succ]; show (PyData.canLay0 row3 && PyData.canLayAll0 (List.replicate k row3)) = true; rw [ih]; rfl
  have h2 : PyData.depthAll (List.replicate k row3) ≤ 1 := by
    clear h1
    induction k with
    | zero => exact Nat.zero_le _
    | succ k ih => rw [List.replicate_succ]; show max 1 (PyData.depthAll (List.replicate k row3)) ≤ 1; lia
  unfold PySem.SeqAt.shaped
  rw [Bool.and_eq_true]
  refine ⟨h1, ?_⟩
  show decide (PyData.depthAll _ + 1 ≤ 64) = true
  exact decide_eq_true (by lia)
theorem cmpF_l {S : L} {cm : List (Option PyData)} {i : Nat} {d : PyData} (hi : i < cm.length) : cmpF i ⟨S, cm.set i (some d)⟩ = some (d, ⟨S, cm.set i (some d)⟩) := by
  unfold cmpF; rw [show (cm.set i (some d))[i]? = some (some d) by simp [hi]]
theorem inner_none {S : L} : ∀ (ds : List Int) (cm : List (Option PyData)) (ac : List PyData), 2 < cm.length -> ∃ cm', cm'.length = cm.length ∧ compL 2 (emitF (tstF (un1 isBoolD (cmpF 2))) (cmpF 2)) (ds.map .int) ⟨S, cm⟩ ac = some (ac, ⟨S, cm'⟩)
  | [], cm, ac, _ => ⟨cm, rfl, rfl⟩
  | d :: ds, cm, ac, h => by
    obtain ⟨cm', hl, e⟩ := inner_none ds (cm.set 2 (some (.int d))) ac (by simpa using h)
    refine ⟨cm', by rw [hl]; simp, ?_⟩
    have et : emitF (tstF (un1 isBoolD (cmpF 2))) (cmpF 2) ⟨S, cm.set 2 (some (.int d))⟩ ac = some (ac, ⟨S, cm.set 2 (some (.int d))⟩) := by
      unfold emitF
      rw [tstF_v (x := false) (un1_v (o := isBoolD) (a := .int d) (c := .bool false) (cmpF_l h) rfl) rfl]; rfl
    rw [List.map_cons]; unfold compL; rw [et]; exact e
theorem outer_none {S : L} : ∀ (k : Nat) (cm : List (Option PyData)) (ac : List PyData), 2 < cm.length -> ∃ cm', compL 1 (nestF trueF (itF (cmpF 1)) 2 (emitF (tstF (un1 isBoolD (cmpF 2))) (cmpF 2))) (List.replicate k row3) ⟨S, cm⟩ ac = some (ac, ⟨S, cm'⟩)
  | 0, cm, ac, _ => ⟨cm, rfl⟩
  | k + 1, cm, ac, h => by
    obtain ⟨cm1, hl, e1⟩ := inner_none (S := S) [-1, 1, 0] (cm.set 1 (some row3)) ac (by simpa using h)
    obtain ⟨cm', e⟩ := outer_none (S := S) k cm1 ac (by rw [hl]; simpa using h)
    refine ⟨cm', ?_⟩
    have et : nestF trueF (itF (cmpF 1)) 2 (emitF (tstF (un1 isBoolD (cmpF 2))) (cmpF 2)) ⟨S, cm.set 1 (some row3)⟩ ac = some (ac, ⟨S, cm1⟩) := by
      unfold nestF trueF
      simp only [Option.bind_some, if_true]
      rw [itF_v (cmpF_l (by lia)) (show itemsD row3 = some ([-1, 1, 0].map PyData.int) from rfl)]
      exact e1
    rw [List.replicate_succ]; unfold compL; rw [et]; exact e
theorem rising_v {xs : List (List Nat)} (h : ∀ i a b, xs[i]? = some a -> xs[i + 1]? = some b -> a < b) (hl : xs.length ≤ 100) : o_rising [.list (xs.map fun x => .str (sOf x))] = some (.bool true) := by
  refine fnA_v rfl ?_
  unfold m_rising
  generalize hS : initL 4 [.list (xs.map fun x => PyData.str (sOf x))] = S0
  have s0 : S0[0]? = some (some (.val (.list (xs.map fun x => .str (sOf x))))) := by subst hS; rfl
  have hL : (xs.map fun x => PyData.str (sOf x)).length = xs.length := by simp
  have hr : rngF (consL (cI 1) (consL (callF lenD (consL (nameF 0) nilL)) nilL)) ⟨S0, []⟩ = some ((List.range (xs.length - 1)).map fun (i : Nat) => .int ((1 + i : Nat) : Int), ⟨S0, []⟩) := by
    have := rngF_v (g := consL (cI 1) (consL (callF lenD (consL (nameF 0) nilL)) nilL)) (S := ⟨S0, []⟩) (x := 1) (y := ((xs.map fun x => PyData.str (sOf x)).length : Int)) (consL_v rfl (one_v (callF_v (one_v (nameF_v s0)) (lenD_list (by rw [hL]; lia))))) rfl (by rw [hL]; lia)
    rw [this, upFrom_map, hL, show ((xs.length : Int) - 1).toNat = xs.length - 1 by omega]
    rfl
  have c1 := compF_map (nn := 4) (i := 1) (f := ofO (lstF (consL (callF o_strcoll (consL (bin2 itemD (nameF 0) (bin2 subD (cmpF 1) (cI 1))) (consL (bin2 itemD (nameF 0) (cmpF 1)) nilL))) (consL (callF o_strcoll (consL (bin2 itemD (nameF 0) (cmpF 1)) (consL (bin2 itemD (nameF 0) (bin2 subD (cmpF 1) (cI 1))) nilL))) (consL (callF o_strcoll (consL (bin2 itemD (nameF 0) (cmpF 1)) (consL (bin2 itemD (nameF 0) (cmpF 1)) nilL))) nilL))))) (fun _ => row3) hr (by simp; lia) (fun d hd cm hcm => by
    obtain ⟨i, hi, rfl⟩ := List.mem_map.mp hd
    have hi : i < xs.length - 1 := List.mem_range.mp hi
    obtain ⟨a, ha⟩ : ∃ a, xs[i]? = some a := ⟨_, List.getElem?_eq_getElem (by omega)⟩
    obtain ⟨b, hb⟩ : ∃ b, xs[i + 1]? = some b := ⟨_, List.getElem?_eq_getElem (by omega)⟩
    have hab := h i a b ha hb
    have hcg : cmpF 1 ⟨S0, cm.set 1 (some (.int ((1 + i : Nat) : Int)))⟩ = some (.int ((1 + i : Nat) : Int), ⟨S0, cm.set 1 (some (.int ((1 + i : Nat) : Int)))⟩) := cmpF_v hcm (by decide)
    have e1 : bin2 itemD (nameF 0) (bin2 subD (cmpF 1) (cI 1)) ⟨S0, cm.set 1 (some (.int ((1 + i : Nat) : Int)))⟩ = some (.str (sOf a), ⟨S0, cm.set 1 (some (.int ((1 + i : Nat) : Int)))⟩) := by
      refine bin2_v (nameF_c s0) (bin2_v hcg rfl (c := .int (i : Int)) ?_) ((itemD_nat (by grind)).trans (by simp [ha]))
      show some (PyData.int (((1 + i : Nat) : Int) - 1)) = _
      rw [show ((1 + i : Nat) : Int) - 1 = (i : Int) by lia]
    have e2 : bin2 itemD (nameF 0) (cmpF 1) ⟨S0, cm.set 1 (some (.int ((1 + i : Nat) : Int)))⟩ = some (.str (sOf b), ⟨S0, cm.set 1 (some (.int ((1 + i : Nat) : Int)))⟩) :=
      bin2_v (nameF_c s0) hcg ((itemD_nat (by grind)).trans (by rw [Nat.add_comm]; simp [hb]))
    have k1 : o_strcoll [.str (sOf a), .str (sOf b)] = some (.int (-1)) := by rw [strcoll_v, decide_eq_false (lt_asy hab), decide_eq_true hab]; rfl
    have k2 : o_strcoll [.str (sOf b), .str (sOf a)] = some (.int 1) := by rw [strcoll_v, decide_eq_false (lt_asy hab), decide_eq_true hab]; rfl
    have k3 : o_strcoll [.str (sOf b), .str (sOf b)] = some (.int 0) := by rw [strcoll_v, decide_eq_false (lt_irr b)]; rfl
    exact ofO_v (lstF_v (consL_v (callF_v (consL_v e1 (one_v e2)) k1) (consL_v (callF_v (consL_v e2 (one_v e1)) k2) (one_v (callF_v (consL_v e2 (one_v e2)) k3)))) (by simp)))
  rw [show ((List.range (xs.length - 1)).map fun (i : Nat) => PyData.int ((1 + i : Nat) : Int)).map (fun _ => row3) = List.replicate (xs.length - 1) row3 by rw [List.map_map]; exact (List.map_const' ..).trans (by simp)] at c1
  generalize hk : xs.length - 1 = k at c1
  have e1 : t_rising_1 S0 = some (.next, setL S0 1 (.own (List.replicate k row3))) := asgO_v c1
  rw [seqF_next e1]
  generalize hT : setL S0 1 (.val (.list (List.replicate k row3))) = T
  have t1 : T[1]? = some (some (.val (.list (List.replicate k row3)))) := by subst hT; subst hS; rfl
  have c2 := compF_map (nn := 2) (i := 1) (f := ofO (lstF (consL (un1 negD (cI 1)) (consL (cI 1) (consL (cI 0) nilL))))) (S := ⟨T, []⟩) (fun _ => row3) (itF_v (nameF_v t1) rfl) (by simp; omega) (fun d hd cm hcm => ofO_v (lstF_v (consL_v (un1_v rfl rfl) (consL_v rfl (one_v rfl))) (by simp)))
  rw [show (List.replicate k row3).map (fun _ => row3) = List.replicate k row3 by simp] at c2
  obtain ⟨cm', c3⟩ := outer_none (S := T) k (List.replicate 5 none) [] (by simp)
  have c4 : compF 5 1 (itF (nameF 1)) (nestF trueF (itF (cmpF 1)) 2 (emitF (tstF (un1 isBoolD (cmpF 2))) (cmpF 2))) ⟨T, []⟩ = some ([], ⟨T, []⟩) := by
    unfold compF; rw [itF_v (nameF_v t1) rfl]; simp only [Option.bind_some]; rw [c3]; rfl
  have hn : nameF 1 ⟨setL S0 1 (.own (List.replicate k row3)), []⟩ = some (.list (List.replicate k row3), ⟨T, []⟩) := by
    rw [nameF_own (i := 1) (l := List.replicate k row3) (by subst hS; rfl), <- hT]; simp [setL]
  exact ⟨_, seqF_ret (f := t_rising_2) (retF_v (andV_t (bin2_v hn (ofO_v c2) (eqD_self (shaped_rows k))) (bin2_v (ofO_v c4) (ofO_v (lstF_v nilL_v (by simp))) (eqD_self (by rfl)))))⟩
theorem lstrip_all : (codes.all fun c => (List.range 3).all fun t => (List.range 21).all fun a => Nat.beq (Txt.lstripChars (sOf (lineL a c t)) (Str.ofString " ")).length (1 + t)) = true := by decide +kernel
theorem lstrip_v {c t a : Nat} (hc : c ∈ codes) (ht : t ≤ 2) (ha : a ≤ 20) : (Txt.lstripChars (sOf (lineL a c t)) (Str.ofString " ")).length = 1 + t :=
  Nat.eq_of_beq_eq_true (List.all_eq_true.mp (List.all_eq_true.mp (List.all_eq_true.mp lstrip_all c hc) t (List.mem_range.mpr (by omega))) a (List.mem_range.mpr (by lia)))
theorem mulD_blanks {k : Nat} (hk : k ≤ 1000) : mulD (.str (Str.ofString " ")) (.int k) = some (.str (sOf (blanks k))) := by
  rw [sp_eq]
  simp only [mulD]
  rw [if_pos ⟨by rw [sOf_len]; simp, by lia, by lia⟩, Int.toNat_natCast, sOf_list]
  congr 2
  unfold sOf blanks
  congr 2
  induction k with
  | zero => rfl
  | succ k ih => rw [List.replicate_succ, List.flatten_cons, ih (by lia), List.replicate_succ]; rfl
theorem cutS_tail1 {l : List Nat} (h : 1 ≤ l.length) (hl : l.length ≤ 1000000) : cutS (sOf l) (some 1) none = some (sOf (l.drop 1)) := by
  unfold cutS
  simp only [Option.getD_some, Option.getD_none, sOf_len]
  by_cases q : l.length ≤ 1
  · rw [if_pos ⟨trivial, by lia⟩]
    have : l.drop 1 = [] := List.drop_eq_nil_of_le q
    rw [this]; rfl
  · rw [if_neg (fun z => q (by have := z.2; lia)), if_pos ⟨by decide, by lia, by lia, hl⟩, sOf_list, show (1 : Int).toNat = 1 from rfl, show ((l.length : Int) - 1).toNat = (l.drop 1).length by simp, List.take_length]
    rfl
theorem subOwn_last {i : Nat} {S S1 : St} {f : St -> Option (PyData × St)} {l : List PyData} {d : PyData} {z : Loc} (h0 : S.loc[i]? = some (some z)) (h : f S = some (.int (-1), S1)) (h1 : S1.loc[i]? = some (some (.own (l ++ [d])))) : subOwn i f S = some (d, S1) := by
  have e3 : seqIndex? (-1) (l ++ [d]).length = some l.length := by
    unfold seqIndex?; simp; lia
  unfold subOwn
  refine Option.bind_eq_some_iff.mpr ⟨z, by rw [h0]; rfl, Option.bind_eq_some_iff.mpr ⟨(.int (-1), S1), h, Option.bind_eq_some_iff.mpr ⟨l ++ [d], by rw [h1]; rfl, Option.bind_eq_some_iff.mpr ⟨(-1 : Int), rfl, ?_⟩⟩⟩⟩
  rw [if_pos (by decide), e3]
  refine Option.map_eq_some_iff.mpr ⟨d, ?_, rfl⟩
  exact Option.bind_eq_some_iff.mpr ⟨l.length, rfl, by simp⟩
noncomputable abbrev SN (TX LD HS : PyData) (nm tl : Str) (n : Nat) (b6 b7 b8 b9 b10 b11 b12 b13 b14 : Option Loc) : L :=
  [some (.val TX), some (.val LD), some (.val HS), some (.val (.str nm)), some (.val (.str tl)), some (.val (.int n)), b6, b7, b8, b9, b10, b11, b12, b13, b14, none, none, none, none, none, none, none, none]
section
variable {TX LD HS : PyData} {nm : Str} {n : Nat} {b6 b7 b8 b9 b10 b11 b12 b13 b14 : Option Loc}
noncomputable def newA (h a : Nat) : Nat := if a = 0 then h else a
theorem inner_body {a c t h : Nat} {l : List PyData} (hc : c ∈ codes) (ht : t ≤ 2) (ha : a ≤ 20) (hh : h ≤ 20) (h0 : a = 0 -> 1 ≤ h) (hl : l.length ≤ 100) :
    seqF t_lines_9 (seqF t_lines_11 (seqF t_lines_12 (seqF t_lines_14 nextF))) (SN TX LD HS nm (sOf (blanks t)) n b6 b7 b8 b9 (some (.val (.int h))) (some (.val (.str (sOf (lineL a c t))))) b12 (some (.own l)) b14) =
      some (.next, SN TX LD HS nm (sOf (blanks t)) n b6 b7 b8 b9 (some (.val (.int h))) (some (.val (.str (sOf (lineL (newA h a) c t))))) b12 (some (.own (l ++ [.str (sOf (lineL (newA h a - 1) c t))]))) (some (.val (.int a)))) := by
  have hcc := code_small hc
  have hlen : ∀ a, (sOf (lineL a c t)).length = a + 1 + t := fun a => by rw [sOf_len, lineL_len]
  have e9 : t_lines_9 (SN TX LD HS nm (sOf (blanks t)) n b6 b7 b8 b9 (some (.val (.int h))) (some (.val (.str (sOf (lineL a c t))))) b12 (some (.own l)) b14) = some (.next, SN TX LD HS nm (sOf (blanks t)) n b6 b7 b8 b9 (some (.val (.int h))) (some (.val (.str (sOf (lineL a c t))))) b12 (some (.own l)) (some (.val (.int a)))) := by
    refine (asgF_v (i := 14) (d := .int a) (S1 := ⟨SN TX LD HS nm (sOf (blanks t)) n b6 b7 b8 b9 (some (.val (.int h))) (some (.val (.str (sOf (lineL a c t))))) b12 (some (.own l)) b14, []⟩) (bin2_v (a := .int ((a + 1 + t : Nat) : Int)) (b := .int ((1 + t : Nat) : Int)) (callF_v (one_v (nameF_v rfl)) ?_) (callF_v (one_v (methF_v (nameF_v rfl) rfl (one_v rfl) (show lstripD [.str (sOf (lineL a c t)), .str (Str.ofString " ")] = some (.str (Txt.lstripChars (sOf (lineL a c t)) (Str.ofString " "))) from if_pos (by rw [hlen]; lia)))) ?_) ?_)).trans rfl
    · rw [lenD_str (by rw [hlen]; lia), hlen]
    · rw [lenD_str (by rw [lstrip_v hc ht ha]; lia), lstrip_v hc ht ha]
    · show some (PyData.int _) = _
      congr 2; lia
  rw [seqF_next e9]
  have e11 : t_lines_11 (SN TX LD HS nm (sOf (blanks t)) n b6 b7 b8 b9 (some (.val (.int h))) (some (.val (.str (sOf (lineL a c t))))) b12 (some (.own l)) (some (.val (.int a)))) = some (.next, SN TX LD HS nm (sOf (blanks t)) n b6 b7 b8 b9 (some (.val (.int h))) (some (.val (.str (sOf (lineL (newA h a) c t))))) b12 (some (.own l)) (some (.val (.int a)))) := by
    have et : tstF (bin2 eqD (nameF 14) (cI 0)) ⟨SN TX LD HS nm (sOf (blanks t)) n b6 b7 b8 b9 (some (.val (.int h))) (some (.val (.str (sOf (lineL a c t))))) b12 (some (.own l)) (some (.val (.int a))), []⟩ = some ((a : Int) == 0, _) := tstF_v (bin2_v (nameF_v rfl) rfl eqD_int) rfl
    by_cases q : a = 0
    · subst q
      refine condF_t (et.trans (by rfl)) ?_
      have e10 : t_lines_10 (SN TX LD HS nm (sOf (blanks t)) n b6 b7 b8 b9 (some (.val (.int h))) (some (.val (.str (sOf (lineL 0 c t))))) b12 (some (.own l)) (some (.val (.int ((0 : Nat) : Int))))) = some (.next, SN TX LD HS nm (sOf (blanks t)) n b6 b7 b8 b9 (some (.val (.int h))) (some (.val (.str (sOf (lineL h c t))))) b12 (some (.own l)) (some (.val (.int ((0 : Nat) : Int))))) := by
        refine asgF_v (i := 11) (S1 := ⟨SN TX LD HS nm (sOf (blanks t)) n b6 b7 b8 b9 (some (.val (.int h))) (some (.val (.str (sOf (lineL 0 c t))))) b12 (some (.own l)) (some (.val (.int ((0 : Nat) : Int)))), []⟩) (bin2_v (bin2_v rfl (nameF_v rfl) (mulD_blanks (by lia))) (nameF_v rfl) ?_)
        rw [addD_sOf (by rw [blanks_len, lineL_len]; lia)]; rfl
      show seqF t_lines_10 nextF _ = _
      rw [seqF_next e10]; rfl
    · refine condF_f (et.trans (by rw [beq_eq_false_iff_ne.mpr (by lia)])) ?_
      unfold newA; rw [if_neg q]; rfl
  rw [seqF_next e11]
  have hA1 : 1 ≤ newA h a := by unfold newA; split <;> lia
  have hA2 : newA h a ≤ 20 := by unfold newA; split <;> omega
  have e12 : t_lines_12 (SN TX LD HS nm (sOf (blanks t)) n b6 b7 b8 b9 (some (.val (.int h))) (some (.val (.str (sOf (lineL (newA h a) c t))))) b12 (some (.own l)) (some (.val (.int a)))) = some (.next, SN TX LD HS nm (sOf (blanks t)) n b6 b7 b8 b9 (some (.val (.int h))) (some (.val (.str (sOf (lineL (newA h a) c t))))) b12 (some (.own (l ++ [.str (sOf (lineL (newA h a - 1) c t))]))) (some (.val (.int a)))) := by
    refine exprF_v (appF_v (i := 13) (l := l) (l' := l) (S1 := ⟨SN TX LD HS nm (sOf (blanks t)) n b6 b7 b8 b9 (some (.val (.int h))) (some (.val (.str (sOf (lineL (newA h a) c t))))) b12 (some (.own l)) (some (.val (.int a))), []⟩) rfl (callF_v (consL_v (nameF_v rfl) (one_v rfl)) ?_) rfl (by lia))
    exact strip_line (a := newA h a) (c := c) (t := t) (A := 1) (k1 := 1) (k2 := 0) hcc (by lia) (by lia) hA1 (by lia) (by decide) (.inl rfl) (.inl rfl)
  rw [seqF_next e12]
  have hAa : a = 0 -> newA h a = h := fun q => by unfold newA; rw [if_pos q]
  generalize newA h a = A at hA1 hA2 hAa
  generalize hS : (SN TX LD HS nm (sOf (blanks t)) n b6 b7 b8 b9 (some (.val (.int h))) (some (.val (.str (sOf (lineL A c t))))) b12 (some (.own (l ++ [.str (sOf (lineL (A - 1) c t))]))) (some (.val (.int a)))) = S
  have s11 : S[11]? = some (some (.val (.str (sOf (lineL A c t))))) := by subst hS; rfl
  have s13 : S[13]? = some (some (.own (l ++ [.str (sOf (lineL (A - 1) c t))]))) := by subst hS; rfl
  have s14 : S[14]? = some (some (.val (.int a))) := by subst hS; rfl
  have s10 : S[10]? = some (some (.val (.int h))) := by subst hS; rfl
  have s4 : S[4]? = some (some (.val (.str (sOf (blanks t))))) := by subst hS; rfl
  have hd : (lineL A c t).drop 1 = lineL (A - 1) c t := by
    cases A with
    | zero => lia
    | succ A => rfl
  have t1 : tstF (bin2 neD (subOwn 13 (un1 negD (cI 1))) (cutF (nameF 11) (intP (cI 1)) noP)) ⟨S, []⟩ = some (false, ⟨S, []⟩) := by
    refine tstF_v (bin2_v (subOwn_last (S := ⟨S, []⟩) (S1 := ⟨S, []⟩) s13 (un1_v rfl rfl) s13) (cutF_v (nameF_v s11) (intP_v (x := 1) rfl) rfl (by rw [hlen]; lia) (cutS_tail1 (by rw [lineL_len]; lia) (by rw [lineL_len]; lia))) (by rw [hd]; exact neD_sOf (lineL_small hcc.1) (lineL_small hcc.1))) (by rw [decide_eq_true rfl]; rfl)
  have t2 : notF (tstF (callF o_where (consL (nameF 14) nilL))) ⟨S, []⟩ = some (false, ⟨S, []⟩) := notF_v (x := true) (tstF_v (callF_v (one_v (nameF_v s14)) (where_v ha)) rfl)
  have t3 : andF (tstF (bin2 eqD (nameF 14) (cI 0))) (notF (tstF (callF o_bared (consL (nameF 11) (consL (nameF 10) (consL (nameF 4) nilL)))))) ⟨S, []⟩ = some (false, ⟨S, []⟩) := by
    have et : tstF (bin2 eqD (nameF 14) (cI 0)) ⟨S, []⟩ = some ((a : Int) == 0, ⟨S, []⟩) := tstF_v (bin2_v (nameF_v s14) rfl eqD_int) rfl
    by_cases q : a = 0
    · have hb : o_bared [.str (sOf (lineL A c t)), .int h, .str (sOf (blanks t))] = some (.bool true) := by rw [hAa q]; exact bared_v hcc ht (by lia)
      exact andF_t (et.trans (by rw [q]; rfl)) (notF_v (x := true) (tstF_v (callF_v (consL_v (nameF_v s11) (consL_v (nameF_v s10) (one_v (nameF_v s4)))) hb) rfl))
    · exact andF_f (et.trans (by rw [beq_eq_false_iff_ne.mpr (by omega)]))
  have e14 : t_lines_14 S = some (.next, S) := condF_f (orF_f t1 (orF_f t2 t3)) rfl
  rw [seqF_next e14]
  rfl
theorem inner_loop {t h : Nat} (ht : t ≤ 2) (hh : h ≤ 20) : ∀ (ps : List (Nat × Nat)) (l : List PyData) (b11 b14 : Option Loc), (∀ p ∈ ps, p.1 ∈ codes ∧ p.2 ≤ 20 ∧ (p.2 = 0 -> 1 ≤ h)) -> l.length + ps.length ≤ 100 ->
    ∃ b11' b14', forL (tgtN 11) (seqF t_lines_9 (seqF t_lines_11 (seqF t_lines_12 (seqF t_lines_14 nextF)))) (ps.map fun p => .str (sOf (lineL p.2 p.1 t))) (SN TX LD HS nm (sOf (blanks t)) n b6 b7 b8 b9 (some (.val (.int h))) b11 b12 (some (.own l)) b14) =
      some (.next, SN TX LD HS nm (sOf (blanks t)) n b6 b7 b8 b9 (some (.val (.int h))) b11' b12 (some (.own (l ++ ps.map fun p => .str (sOf (lineL (newA h p.2 - 1) p.1 t))))) b14')
  | [], l, b11, b14, _, _ => ⟨b11, b14, by simp [forL]⟩
  | p :: ps, l, b11, b14, hp, hl => by
    obtain ⟨p1, p2, p3⟩ := hp p (.head _)
    have e := inner_body (TX := TX) (LD := LD) (HS := HS) (nm := nm) (n := n) (b6 := b6) (b7 := b7) (b8 := b8) (b9 := b9) (b12 := b12) (b14 := b14) (l := l) p1 ht p2 hh p3 (by lia)
    obtain ⟨x11, x14, ih⟩ := inner_loop ht hh ps (l ++ [.str (sOf (lineL (newA h p.2 - 1) p.1 t))]) (some (.val (.str (sOf (lineL (newA h p.2) p.1 t))))) (some (.val (.int p.2))) (fun q hq => hp q (.tail _ hq)) (by simp at hl ⊢; lia)
    refine ⟨x11, x14, ?_⟩
    rw [List.map_cons, forL_step (S1 := SN TX LD HS nm (sOf (blanks t)) n b6 b7 b8 b9 (some (.val (.int h))) (some (.val (.str (sOf (lineL p.2 p.1 t))))) b12 (some (.own l)) b14) rfl e, ih]
    simp
end
structure BeatOk (held : List Nat) (acts : List (Nat × Nat)) (o : List Nat) (h : Nat) : Prop where
  s : ∃ s : List (Nat × Nat), s.Perm acts ∧ s.Pairwise (fun p q => q.2 < p.2) ∧ held ++ s.map (·.1) = o
  small : ∀ p ∈ acts, p.1 ∈ codes ∧ p.2 ≤ 20 ∧ (p.2 = 0 -> 1 ≤ h)
  hh : h ≤ 20
  len : acts.length ≤ 4
  held4 : held.length ≤ 4
  heldc : ∀ c ∈ held, c ∈ codes
noncomputable def nextA (h : Nat) (acts : List (Nat × Nat)) : List (Nat × Nat) := acts.map fun p => (p.1, newA h p.2 - 1)
noncomputable def linesD (t : Nat) (acts : List (Nat × Nat)) : List PyData := acts.map fun p => .str (sOf (lineL p.2 p.1 t))
noncomputable def namesD (l : List Nat) : List PyData := l.map fun c => .str (sOf [c])
noncomputable def textD (t : Nat) (o : List Nat) : PyData := .str (sOf ((o.map fun c => blanks t ++ [c]).flatten))
theorem sortF_v {f : St -> Option (PyData × St)} {S S1 : St} {ss : List Str} (h : f S = some (.list (ss.map .str), S1)) (hl : ss.length < 64) : sortF f S = some ((sortS ss).map .str, S1) := by
  unfold sortF; rw [h]; simp only [Option.bind_some, lstOf, isStrs_map]; rw [if_pos hl]
theorem sort_acts {t : Nat} {acts s : List (Nat × Nat)} (hp : s.Perm acts) (hs : s.Pairwise (fun p q => q.2 < p.2)) (hc : ∀ p ∈ acts, p.1 ∈ codes) : sortS (acts.map fun p => sOf (lineL p.2 p.1 t)) = s.map fun p => sOf (lineL p.2 p.1 t) := by
  refine sorted_unique ((sortS_perm _).trans (hp.symm.map _)) (sortS_sorted _) ?_
  rw [List.pairwise_map]
  have hs' : s.Pairwise (fun p q => q.2 < p.2 ∧ q.1 ∈ codes) := by
    refine List.Pairwise.imp_of_mem ?_ hs
    intro p q _ hq h
    exact ⟨h, hc q (hp.mem_iff.mp hq)⟩
  refine hs'.imp fun {p q} ⟨h, hq⟩ => ?_
  rw [leS_iff]
  have : 32 < q.1 := by simp [codes] at hq; lia
  exact lt_asy (line_lt (t := t) (t' := t) (c := p.1) h this)
theorem cat_sOf : ∀ l : List (List Nat), cat (l.map sOf) = sOf l.flatten := fun l => by
  unfold cat sOf
  congr 2
  rw [List.map_map]
  congr 1
  exact List.map_id'' (fun x => rfl) l
section
variable {texts LDl : List PyData} {LD : PyData} {hs : List Nat} {nm : Str} {n b : Nat} {b9 b10 b11 b12 b13 b14 : Option Loc}
noncomputable def isL (x : Option Loc) (l : List PyData) : Prop := x = some (.own l) ∨ x = some (.val (.list l))
theorem name6 {TX HS : PyData} {tl : Str} {x6 x7 x8 x9 x10 x11 x12 x13 x14 : Option Loc} {l : List PyData} (h : isL x6 l) : nameF 6 ⟨SN TX LD HS nm tl n x6 x7 x8 x9 x10 x11 x12 x13 x14, []⟩ = some (.list l, ⟨SN TX LD HS nm tl n (some (.val (.list l))) x7 x8 x9 x10 x11 x12 x13 x14, []⟩) := by
  rcases h with rfl | rfl
  · exact nameF_own rfl
  · exact nameF_v rfl
theorem name7 {TX HS : PyData} {tl : Str} {x6 x7 x8 x9 x10 x11 x12 x13 x14 : Option Loc} {l : List PyData} (h : isL x7 l) : nameF 7 ⟨SN TX LD HS nm tl n x6 x7 x8 x9 x10 x11 x12 x13 x14, []⟩ = some (.list l, ⟨SN TX LD HS nm tl n x6 (some (.val (.list l))) x8 x9 x10 x11 x12 x13 x14, []⟩) := by
  rcases h with rfl | rfl
  · exact nameF_own rfl
  · exact nameF_v rfl
noncomputable abbrev bodyL : L -> Option (Fl × L) := seqF t_lines_4 (seqF t_lines_5 (seqF t_lines_7 (seqF t_lines_8 (seqF t_lines_15 (seqF t_lines_16 nextF)))))
theorem beat_body {t h : Nat} {held : List Nat} {acts : List (Nat × Nat)} {o : List Nat} {x6 x7 : Option Loc} (ht : t ≤ 2) (B : BeatOk held acts o h) (h6 : isL x6 (namesD held)) (h7 : isL x7 (linesD t acts)) (hb : b < 1000) (hn : 0 < n ∧ n ≤ 1000)
    (hx : texts[b]? = some (textD t o)) (hh : hs[b % n]? = some h) :
    ∃ y9 y10 y11 y12 y13 y14, bodyL (SN (.list texts) LD (.list (numsD hs)) nm (sOf (blanks t)) n x6 x7 (some (.val (.int b))) b9 b10 b11 b12 b13 b14) =
      some (.next, SN (.list texts) LD (.list (numsD hs)) nm (sOf (blanks t)) n (some (.val (.list (namesD held)))) (some (.val (.list (linesD t (nextA h acts))))) (some (.val (.int b))) y9 y10 y11 y12 y13 y14) := by
  obtain ⟨s, sp, sd, so⟩ := B.s
  have hcs : ∀ p ∈ acts, p.1 ∈ codes := fun p hp => (B.small p hp).1
  have ssm : ∀ p ∈ s, p.1 ∈ codes ∧ p.2 ≤ 20 := fun p hp => ⟨(B.small p (sp.mem_iff.mp hp)).1, (B.small p (sp.mem_iff.mp hp)).2.1⟩
  have sl : s.length ≤ 4 := by rw [sp.length_eq]; exact B.len
  have al := B.len
  have hl4 := B.held4
  have hL : linesD t acts = (acts.map fun p => sOf (lineL p.2 p.1 t)).map .str := by simp [linesD, Function.comp_def]
  have e4 : t_lines_4 (SN (.list texts) LD (.list (numsD hs)) nm (sOf (blanks t)) n x6 x7 (some (.val (.int b))) b9 b10 b11 b12 b13 b14) =
      some (.next, SN (.list texts) LD (.list (numsD hs)) nm (sOf (blanks t)) n x6 (some (.val (.list (linesD t acts)))) (some (.val (.int b))) (some (.own (linesD t s))) (some (.val (.int h))) b11 b12 b13 b14) := by
    have f := sortF_v (f := nameF 7) (S := ⟨SN (.list texts) LD (.list (numsD hs)) nm (sOf (blanks t)) n x6 x7 (some (.val (.int b))) b9 b10 b11 b12 b13 b14, []⟩) (ss := acts.map fun p => sOf (lineL p.2 p.1 t)) (by rw [name7 h7, hL]) (by simp; lia)
    rw [sort_acts sp sd hcs] at f
    rw [<- hL] at f
    have g : bin2 itemD (nameF 2) (bin2 modD (nameF 8) (nameF 5)) ⟨SN (.list texts) LD (.list (numsD hs)) nm (sOf (blanks t)) n x6 (some (.val (.list (linesD t acts)))) (some (.val (.int b))) b9 b10 b11 b12 b13 b14, []⟩ = some (.int h, ⟨SN (.list texts) LD (.list (numsD hs)) nm (sOf (blanks t)) n x6 (some (.val (.list (linesD t acts)))) (some (.val (.int b))) b9 b10 b11 b12 b13 b14, []⟩) :=
      bin2_v (nameF_v rfl) (bin2_v (nameF_v rfl) (nameF_v rfl) (modD_nat hn.1)) ((itemD_nat (Nat.lt_of_le_of_lt (Nat.mod_le b n) (Nat.lt_trans hb (by decide)))).trans (numsD_get hh))
    refine (tupR_v (is := [9, 10]) (consX_v (ownX_v f) (consX_v (valX_v g) (show nilX _ = _ from rfl))) ⟨rfl, by decide⟩).trans ?_
    rw [show (s.map fun p => sOf (lineL p.2 p.1 t)).map PyData.str = linesD t s by simp [linesD, Function.comp_def]]
    rfl
  have e5 : t_lines_5 (SN (.list texts) LD (.list (numsD hs)) nm (sOf (blanks t)) n x6 (some (.val (.list (linesD t acts)))) (some (.val (.int b))) (some (.own (linesD t s))) (some (.val (.int h))) b11 b12 b13 b14) =
      some (.next, SN (.list texts) LD (.list (numsD hs)) nm (sOf (blanks t)) n x6 (some (.val (.list (linesD t acts)))) (some (.val (.int b))) (some (.val (.list (linesD t s)))) (some (.val (.int h))) b11 (some (.own (namesD (s.map (·.1))))) b13 b14) := by
    have c := compF_map (nn := 3) (i := 1) (f := callF o_strip (consL (cmpF 1) (consL (cI 40) nilL))) (S := ⟨SN (.list texts) LD (.list (numsD hs)) nm (sOf (blanks t)) n x6 (some (.val (.list (linesD t acts)))) (some (.val (.int b))) (some (.own (linesD t s))) (some (.val (.int h))) b11 b12 b13 b14, []⟩)
      (S' := ⟨SN (.list texts) LD (.list (numsD hs)) nm (sOf (blanks t)) n x6 (some (.val (.list (linesD t acts)))) (some (.val (.int b))) (some (.val (.list (linesD t s)))) (some (.val (.int h))) b11 b12 b13 b14, []⟩) (ds := linesD t s)
      (fun d => match d with | .str x => .str (sOf (x.cps.toList.filter fun c => decide (c ≠ 32))) | d => d) (itF_v (nameF_own (i := 9) rfl) rfl) (by simp [linesD]; lia) (fun d hd cm hcm => by
        obtain ⟨p, hp, rfl⟩ := List.mem_map.mp hd
        obtain ⟨p1, p2⟩ := ssm p hp
        refine callF_v (consL_v (cmpF_v hcm (by decide)) (one_v (show cI 40 _ = some (.int ((40 : Nat) : Int), _) from rfl))) ?_
        rw [strip_line (a := p.2) (c := p.1) (t := t) (A := 40) (k1 := p.2) (k2 := t) (code_small p1) (by lia) (by lia) (Nat.le_refl _) (Nat.le_refl _) (by lia) (.inr rfl) (.inr rfl), Nat.sub_self, Nat.sub_self]
        have : (lineL p.2 p.1 t).filter (fun c => decide (c ≠ 32)) = [p.1] := by
          have hne := (code_small p1).2
          unfold lineL blanks
          rw [List.filter_append, List.filter_cons_of_pos (by simpa using hne)]
          simp
        show some (PyData.str (sOf (lineL 0 p.1 0))) = some (PyData.str (sOf ((lineL p.2 p.1 t).filter fun c => decide (c ≠ 32))))
        rw [this]; rfl)
    refine (asgO_v c).trans ?_
    have : (linesD t s).map (fun d => match d with | .str x => PyData.str (sOf (x.cps.toList.filter fun c => decide (c ≠ 32))) | d => d) = namesD (s.map (·.1)) := by
      unfold linesD namesD
      rw [List.map_map, List.map_map]
      refine List.map_congr_left fun p hp => ?_
      have hne := (code_small (ssm p hp).1).2
      show PyData.str (sOf ((lineL p.2 p.1 t).filter fun c => decide (c ≠ 32))) = _
      have : (lineL p.2 p.1 t).filter (fun c => decide (c ≠ 32)) = [p.1] := by
        unfold lineL blanks
        rw [List.filter_append, List.filter_cons_of_pos (by simpa using hne)]
        simp
      rw [this]; rfl
    rw [this]; rfl
  have oc : ∀ c ∈ o, c ∈ codes := by
    rw [<- so]; intro c hc
    rcases List.mem_append.mp hc with hc | hc
    · exact B.heldc c hc
    · obtain ⟨p, hp, rfl⟩ := List.mem_map.mp hc; exact (ssm p hp).1
  have ol : o.length ≤ 8 := by rw [<- so]; simp; lia
  have e7 : t_lines_7 (SN (.list texts) LD (.list (numsD hs)) nm (sOf (blanks t)) n x6 (some (.val (.list (linesD t acts)))) (some (.val (.int b))) (some (.val (.list (linesD t s)))) (some (.val (.int h))) b11 (some (.own (namesD (s.map (·.1))))) b13 b14) =
      some (.next, SN (.list texts) LD (.list (numsD hs)) nm (sOf (blanks t)) n (some (.val (.list (namesD held)))) (some (.val (.list (linesD t acts)))) (some (.val (.int b))) (some (.val (.list (linesD t s)))) (some (.val (.int h))) b11 (some (.val (.list (namesD (s.map (·.1)))))) b13 b14) := by
    generalize hS : SN (.list texts) LD (.list (numsD hs)) nm (sOf (blanks t)) n (some (.val (.list (namesD held)))) (some (.val (.list (linesD t acts)))) (some (.val (.int b))) (some (.val (.list (linesD t s)))) (some (.val (.int h))) b11 (some (.val (.list (namesD (s.map (·.1)))))) b13 b14 = T
    have t4 : T[4]? = some (some (.val (.str (sOf (blanks t))))) := by subst hS; rfl
    have t9 : T[9]? = some (some (.val (.list (linesD t s)))) := by subst hS; rfl
    have ha : itF (ofO (addL (nameF 6) (nameF 12))) ⟨SN (.list texts) LD (.list (numsD hs)) nm (sOf (blanks t)) n x6 (some (.val (.list (linesD t acts)))) (some (.val (.int b))) (some (.val (.list (linesD t s)))) (some (.val (.int h))) b11 (some (.own (namesD (s.map (·.1))))) b13 b14, []⟩ = some (namesD o, ⟨T, []⟩) := by
      have h12 : nameF 12 ⟨SN (.list texts) LD (.list (numsD hs)) nm (sOf (blanks t)) n (some (.val (.list (namesD held)))) (some (.val (.list (linesD t acts)))) (some (.val (.int b))) (some (.val (.list (linesD t s)))) (some (.val (.int h))) b11 (some (.own (namesD (s.map (·.1))))) b13 b14, []⟩ = some (.list (namesD (s.map (·.1))), ⟨T, []⟩) := by rw [<- hS]; exact nameF_own rfl
      refine itF_v (ofO_v (addL_v (b := namesD (s.map (·.1))) (name6 h6) h12 (by simp [namesD]; lia))) ?_
      show some (namesD held ++ namesD (s.map (·.1))) = _
      rw [<- so]; simp [namesD]
    have ha' : itF (ofO (addL (nameF 6) (nameF 12))) ⟨SN (.list texts) LD (.list (numsD hs)) nm (sOf (blanks t)) n x6 (some (.val (.list (linesD t acts)))) (some (.val (.int b))) (some (.val (.list (linesD t s)))) (some (.val (.int h))) b11 (some (.own (namesD (s.map (·.1))))) b13 b14, []⟩ = some (namesD o, ⟨T, []⟩) := ha
    have c := compF_map (nn := 3) (i := 1) (f := bin2 addD (nameF 4) (cmpF 1)) (fun d => match d with | .str x => .str (sOf (blanks t ++ x.cps.toList)) | d => d) ha' (by simp [namesD]; lia) (fun d hd cm hcm => by
      obtain ⟨c, hc, rfl⟩ := List.mem_map.mp hd
      exact bin2_v (nameF_c t4) (cmpF_v hcm (by decide)) (addD_sOf (by simp [blanks_len]; lia)))
    have hm : (namesD o).map (fun d => match d with | .str x => PyData.str (sOf (blanks t ++ x.cps.toList)) | d => d) = ((o.map fun c => blanks t ++ [c]).map sOf).map .str := by
      unfold namesD; rw [List.map_map, List.map_map, List.map_map]; rfl
    rw [hm] at c
    have hsum : (((o.map fun c => blanks t ++ [c]).map sOf).map (·.length)).sum ≤ 16777216 := by
      have : ∀ l : List Nat, (((l.map fun c => blanks t ++ [c]).map sOf).map (·.length)).sum = l.length * (t + 1) := fun l => by
        induction l with
        | nil => simp
        | cons a l ih => rw [List.map_cons, List.map_cons, List.map_cons, List.sum_cons, ih, List.length_cons, Nat.add_mul]; simp [sOf_len, blanks_len]; lia
      rw [this]
      have := Nat.mul_le_mul ol (by lia : t + 1 ≤ 3)
      grind
    have hj : methF isStrD joinD (cS "") (consL (ofO (compF 3 1 (itF (ofO (addL (nameF 6) (nameF 12)))) (emitF trueF (bin2 addD (nameF 4) (cmpF 1))))) nilL) ⟨SN (.list texts) LD (.list (numsD hs)) nm (sOf (blanks t)) n x6 (some (.val (.list (linesD t acts)))) (some (.val (.int b))) (some (.val (.list (linesD t s)))) (some (.val (.int h))) b11 (some (.own (namesD (s.map (·.1))))) b13 b14, []⟩ = some (textD t o, ⟨T, []⟩) := by
      refine methF_v (p := isStrD) (a := .str (Str.ofString "")) rfl rfl (one_v (ofO_v c)) ?_
      rw [joinD_cat rfl hsum, cat_sOf]; rfl
    have hsh : ∀ x ∈ (o.map fun c => blanks t ++ [c]).flatten, x < 1114112 := by
      intro x hx
      obtain ⟨l, hl, hx⟩ := List.mem_flatten.mp hx
      obtain ⟨c, hc, rfl⟩ := List.mem_map.mp hl
      have := code_small (oc c hc)
      rcases List.mem_append.mp hx with hx | hx
      · have := List.eq_of_mem_replicate hx; omega
      · simp at hx; omega
    have t1 : tstF (bin2 neD (bin2 itemD (nameF 0) (nameF 8)) (methF isStrD joinD (cS "") (consL (ofO (compF 3 1 (itF (ofO (addL (nameF 6) (nameF 12)))) (emitF trueF (bin2 addD (nameF 4) (cmpF 1))))) nilL))) ⟨SN (.list texts) LD (.list (numsD hs)) nm (sOf (blanks t)) n x6 (some (.val (.list (linesD t acts)))) (some (.val (.int b))) (some (.val (.list (linesD t s)))) (some (.val (.int h))) b11 (some (.own (namesD (s.map (·.1))))) b13 b14, []⟩ = some (false, ⟨T, []⟩) :=
      tstF_v (bin2_v (bin2_v (nameF_v rfl) (nameF_v rfl) ((itemD_nat (Nat.lt_trans hb (by decide))).trans hx)) hj (neD_self (ok_sOf hsh))) rfl
    have hr : o_rising [.list (linesD t s)] = some (.bool true) := by
      have := rising_v (xs := s.map fun p => lineL p.2 p.1 t) (fun i a c ha hc => by
        rw [List.getElem?_map, Option.map_eq_some_iff] at ha hc
        obtain ⟨p, hp, rfl⟩ := ha
        obtain ⟨q, hq, rfl⟩ := hc
        have hqc := (ssm q (List.mem_of_getElem? hq)).1
        have h1 := List.pairwise_iff_getElem.mp sd i (i + 1) (List.getElem?_eq_some_iff.mp hp).1 (List.getElem?_eq_some_iff.mp hq).1 (by omega)
        rw [(List.getElem?_eq_some_iff.mp hp).2, (List.getElem?_eq_some_iff.mp hq).2] at h1
        exact line_lt h1 (by simp [codes] at hqc; omega)) (by simp; omega)
      rwa [List.map_map] at this
    have t2 : notF (tstF (callF o_rising (consL (nameF 9) nilL))) ⟨T, []⟩ = some (false, ⟨T, []⟩) := notF_v (x := true) (tstF_v (callF_v (one_v (nameF_v t9)) hr) rfl)
    exact condF_f (orF_f t1 t2) rfl
  have e8 : t_lines_8 (SN (.list texts) LD (.list (numsD hs)) nm (sOf (blanks t)) n (some (.val (.list (namesD held)))) (some (.val (.list (linesD t acts)))) (some (.val (.int b))) (some (.val (.list (linesD t s)))) (some (.val (.int h))) b11 (some (.val (.list (namesD (s.map (·.1)))))) b13 b14) =
      some (.next, SN (.list texts) LD (.list (numsD hs)) nm (sOf (blanks t)) n (some (.val (.list (namesD held)))) (some (.val (.list (linesD t acts)))) (some (.val (.int b))) (some (.val (.list (linesD t s)))) (some (.val (.int h))) b11 (some (.val (.list (namesD (s.map (·.1)))))) (some (.own [])) b14) := asgO_v (lstF_v nilL_v (by simp))
  obtain ⟨y11, y14, e⟩ := inner_loop (TX := .list texts) (LD := LD) (HS := .list (numsD hs)) (nm := nm) (n := n) (b6 := some (.val (.list (namesD held)))) (b7 := some (.val (.list (linesD t acts)))) (b8 := some (.val (.int b))) (b9 := some (.val (.list (linesD t s)))) (b12 := some (.val (.list (namesD (s.map (·.1)))))) ht B.hh acts [] b11 b14 (fun p hp => B.small p hp) (by simp; omega)
  have e15 : t_lines_15 (SN (.list texts) LD (.list (numsD hs)) nm (sOf (blanks t)) n (some (.val (.list (namesD held)))) (some (.val (.list (linesD t acts)))) (some (.val (.int b))) (some (.val (.list (linesD t s)))) (some (.val (.int h))) b11 (some (.val (.list (namesD (s.map (·.1)))))) (some (.own [])) b14) =
      some (.next, SN (.list texts) LD (.list (numsD hs)) nm (sOf (blanks t)) n (some (.val (.list (namesD held)))) (some (.val (.list (linesD t acts)))) (some (.val (.int b))) (some (.val (.list (linesD t s)))) (some (.val (.int h))) y11 (some (.val (.list (namesD (s.map (·.1)))))) (some (.own (linesD t (nextA h acts)))) y14) := by
    refine forF_v (itF_v (nameF_v (i := 7) rfl) rfl) ?_
    refine Eq.trans e ?_
    rw [show linesD t (nextA h acts) = [] ++ acts.map fun p => PyData.str (sOf (lineL (newA h p.2 - 1) p.1 t)) by simp [linesD, nextA, Function.comp_def]]
  have e16 : t_lines_16 (SN (.list texts) LD (.list (numsD hs)) nm (sOf (blanks t)) n (some (.val (.list (namesD held)))) (some (.val (.list (linesD t acts)))) (some (.val (.int b))) (some (.val (.list (linesD t s)))) (some (.val (.int h))) y11 (some (.val (.list (namesD (s.map (·.1)))))) (some (.own (linesD t (nextA h acts)))) y14) =
      some (.next, SN (.list texts) LD (.list (numsD hs)) nm (sOf (blanks t)) n (some (.val (.list (namesD held)))) (some (.val (.list (linesD t (nextA h acts))))) (some (.val (.int b))) (some (.val (.list (linesD t s)))) (some (.val (.int h))) y11 (some (.val (.list (namesD (s.map (·.1)))))) (some (.val (.list (linesD t (nextA h acts))))) y14) := asgF_v (nameF_own (i := 13) rfl)
  have fin : bodyL (SN (.list texts) LD (.list (numsD hs)) nm (sOf (blanks t)) n x6 x7 (some (.val (.int b))) b9 b10 b11 b12 b13 b14) =
      some (.next, SN (.list texts) LD (.list (numsD hs)) nm (sOf (blanks t)) n (some (.val (.list (namesD held)))) (some (.val (.list (linesD t (nextA h acts))))) (some (.val (.int b))) (some (.val (.list (linesD t s)))) (some (.val (.int h))) y11 (some (.val (.list (namesD (s.map (·.1)))))) (some (.val (.list (linesD t (nextA h acts))))) y14) := by
    unfold bodyL
    rw [seqF_next e4, seqF_next e5, seqF_next e7, seqF_next e8, seqF_next e15, seqF_next e16]
    rfl
  exact ⟨_, _, _, _, _, _, fin⟩
end
noncomputable def LinesOk (held : List Nat) : List (Nat × Nat) -> List (List Nat × Nat) -> Prop
  | _, [] => True
  | acts, q :: r => BeatOk held acts q.1 q.2 ∧ LinesOk held (nextA q.2 acts) r
section
variable {texts : List PyData} {land : List (Option Nat)} {hs nc : List Nat} {nm : Str} {n t : Nat} {held : List Nat}
theorem lines_loop {LD : PyData} (ht : t ≤ 2) (hn : 0 < n ∧ n ≤ 1000) : ∀ (qs : List (List Nat × Nat)) (b : Nat) (acts : List (Nat × Nat)) (x6 x7 b8 b9 b10 b11 b12 b13 b14 : Option Loc), LinesOk held acts qs -> isL x6 (namesD held) -> isL x7 (linesD t acts) ->
    (∀ j q, qs[j]? = some q -> texts[b + j]? = some (textD t q.1) ∧ hs[(b + j) % n]? = some q.2) -> b + qs.length ≤ 1000 ->
    ∃ T, forL (tgtN 8) bodyL (upFrom b qs.length) (SN (.list texts) LD (.list (numsD hs)) nm (sOf (blanks t)) n x6 x7 b8 b9 b10 b11 b12 b13 b14) = some (.next, T)
  | [], b, acts, x6, x7, b8, b9, b10, b11, b12, b13, b14, _, _, _, _, _ => ⟨_, rfl⟩
  | q :: qs, b, acts, x6, x7, b8, b9, b10, b11, b12, b13, b14, K, h6, h7, hq, hb => by
    obtain ⟨B, K'⟩ := K
    obtain ⟨q1, q2⟩ := hq 0 q rfl
    obtain ⟨y9, y10, y11, y12, y13, y14, e⟩ := beat_body (LD := LD) (nm := nm) (b9 := b9) (b10 := b10) (b11 := b11) (b12 := b12) (b13 := b13) (b14 := b14) ht B h6 h7 (b := b) (by simp at hb; lia) hn q1 q2
    obtain ⟨T, ih⟩ := lines_loop (LD := LD) ht hn qs (b + 1) (nextA q.2 acts) _ _ (some (.val (.int b))) y9 y10 y11 y12 y13 y14 K' (.inr rfl) (.inr rfl) (fun j p hj => by rw [show b + 1 + j = b + (j + 1) by lia]; exact hq (j + 1) p hj) (by simp at hb ⊢; lia)
    refine ⟨T, ?_⟩
    rw [List.length_cons, upFrom, forL_step (S1 := SN (.list texts) LD (.list (numsD hs)) nm (sOf (blanks t)) n x6 x7 (some (.val (.int b))) b9 b10 b11 b12 b13 b14) rfl e, show ((b : Nat) : Int) + 1 = ((b + 1 : Nat) : Int) by push_cast; rfl]
    exact ih
theorem isStrs_land (land : List (Option Nat)) : isStrs (landD land) = some (land.map fun o => sOf o.toList) := by
  have : landD land = (land.map fun o => sOf o.toList).map .str := by simp [landD, Function.comp_def]
  rw [this, isStrs_map]
theorem sOf_beq (l l' : List Nat) : (sOf l == sOf l') = (l == l') := by
  by_cases h : l = l'
  · subst h; simp
  · rw [beq_eq_false_iff_ne.mpr h, beq_eq_false_iff_ne.mpr fun q => h (sOf_inj q)]
theorem opt_beq (o : Option Nat) (c : Nat) : (o.toList == [c]) = (o == some c) := by
  cases o with
  | none => rfl
  | some x => show ([x] == [c]) = (some x == some c); by_cases h : x = c <;> simp [h]
theorem land_any (land : List (Option Nat)) (c : Nat) : (land.map fun o => sOf o.toList).any (· == sOf [c]) = land.contains (some c) := by
  rw [List.any_map, List.contains_eq_any_beq]
  congr 1; funext o
  show (sOf o.toList == sOf [c]) = (some c == o)
  rw [sOf_beq, opt_beq, Bool.beq_comm]
theorem land_idx (land : List (Option Nat)) (c : Nat) : (land.map fun o => sOf o.toList).idxOf (sOf [c]) = land.idxOf (some c) := by
  induction land with
  | nil => rfl
  | cons o r ih =>
    rw [List.map_cons, List.idxOf_cons, List.idxOf_cons, ih, sOf_beq, opt_beq]
noncomputable def actL (land : List (Option Nat)) (nc : List Nat) : List (Nat × Nat) := (nc.filter fun c => land.contains (some c)).map fun c => (c, land.idxOf (some c))
noncomputable def heldL (land : List (Option Nat)) (nc : List Nat) : List Nat := nc.filter fun c => !land.contains (some c)
theorem lines_v {qs : List (List Nat × Nat)} (ht : t ≤ 2) (hn : 0 < hs.length ∧ hs.length ≤ 5) (hit : itemsD (.str nm) = some (namesD nc)) (hnc : nc.length ≤ 4) (hcode : ∀ c ∈ nc, c ∈ codes) (hland : land.length ≤ 100) (K : LinesOk (heldL land nc) (actL land nc) qs) (hql : qs.length = 2 * hs.length)
    (hq : ∀ j q, qs[j]? = some q -> texts[j]? = some (textD t q.1) ∧ hs[j % hs.length]? = some q.2) :
    o_lines [.list texts, .list (landD land), .list (numsD hs), .str nm, .str (sOf (blanks t))] = some (.bool true) := by
  refine fnA_v rfl ?_
  unfold m_lines
  have hL : (numsD hs).length = hs.length := numsD_len hs
  have hLD : (landD land).length = land.length := by simp [landD]
  have e1 : t_lines_1 (initL 23 [.list texts, .list (landD land), .list (numsD hs), .str nm, .str (sOf (blanks t))]) = some (.next, SN (.list texts) (.list (landD land)) (.list (numsD hs)) nm (sOf (blanks t)) hs.length none none none none none none none none none) := by
    refine (asgF_v (i := 5) (S1 := ⟨initL 23 [.list texts, .list (landD land), .list (numsD hs), .str nm, .str (sOf (blanks t))], []⟩) (callF_v (one_v (nameF_v rfl)) (lenD_list (by rw [hL]; lia)))).trans ?_
    rw [hL]; rfl
  rw [seqF_next e1]
  have e2 : t_lines_2 (SN (.list texts) (.list (landD land)) (.list (numsD hs)) nm (sOf (blanks t)) hs.length none none none none none none none none none) = some (.next, SN (.list texts) (.list (landD land)) (.list (numsD hs)) nm (sOf (blanks t)) hs.length (some (.own (namesD (heldL land nc)))) none none none none none none none none) := by
    have c := compF_emit (nn := 3) (i := 1) (ft := tstF (bin2 notInD (cmpF 1) (nameF 1))) (f := cmpF 1) (S := ⟨SN (.list texts) (.list (landD land)) (.list (numsD hs)) nm (sOf (blanks t)) hs.length none none none none none none none none none, []⟩)
      (fun d => match d with | .str x => !land.contains x.cps.toList.head? | _ => false) (fun d => d) (itF_v (nameF_v (i := 3) rfl) hit) (by simp [namesD]; lia) (fun d hd cm hcm => by
        obtain ⟨c, hc, rfl⟩ := List.mem_map.mp hd
        refine tstF_v (bin2_v (cmpF_v hcm (by decide)) (nameF_v rfl) (show notInD (.str (sOf [c])) (.list (landD land)) = some (.bool (!land.contains (some c))) from ?_)) rfl
        unfold notInD; simp only [isStrs_land, Option.map_some, land_any]) (fun d hd _ cm hcm => cmpF_v hcm (by decide))
    refine (asgO_v c).trans ?_
    have : ((namesD nc).filter (fun d => match d with | .str x => !land.contains x.cps.toList.head? | _ => false)).map (fun d => d) = namesD (heldL land nc) := by
      rw [List.map_id']
      unfold namesD heldL
      rw [List.filter_map]; rfl
    rw [this]; rfl
  rw [seqF_next e2]
  have e3 : t_lines_3 (SN (.list texts) (.list (landD land)) (.list (numsD hs)) nm (sOf (blanks t)) hs.length (some (.own (namesD (heldL land nc)))) none none none none none none none none) = some (.next, SN (.list texts) (.list (landD land)) (.list (numsD hs)) nm (sOf (blanks t)) hs.length (some (.own (namesD (heldL land nc)))) (some (.own (linesD t (actL land nc)))) none none none none none none none) := by
    have c := compF_emit (nn := 4) (i := 1) (ft := tstF (bin2 inD (cmpF 1) (nameF 1))) (f := bin2 addD (bin2 addD (bin2 mulD (cS " ") (methF isLstD indexD (nameF 1) (consL (cmpF 1) nilL))) (cmpF 1)) (nameF 4)) (S := ⟨SN (.list texts) (.list (landD land)) (.list (numsD hs)) nm (sOf (blanks t)) hs.length (some (.own (namesD (heldL land nc)))) none none none none none none none none, []⟩)
      (fun d => match d with | .str x => land.contains x.cps.toList.head? | _ => false) (fun d => match d with | .str x => .str (sOf (lineL (land.idxOf x.cps.toList.head?) (x.cps.toList.headD 0) t)) | d => d) (itF_v (nameF_v (i := 3) rfl) hit) (by simp [namesD]; lia) (fun d hd cm hcm => by
        obtain ⟨c, hc, rfl⟩ := List.mem_map.mp hd
        refine tstF_v (bin2_v (cmpF_v hcm (by decide)) (nameF_v rfl) (show inD (.str (sOf [c])) (.list (landD land)) = some (.bool (land.contains (some c))) from ?_)) rfl
        simp only [inD, isStrs_land, Option.map_some, land_any]) (fun d hd hp cm hcm => by
        obtain ⟨c, hc, rfl⟩ := List.mem_map.mp hd
        have hp : land.contains (some c) = true := hp
        have hmem : some c ∈ land := by simpa using hp
        have hidx : land.idxOf (some c) < land.length := List.idxOf_lt_length_iff.mpr hmem
        have hix : indexD [.list (landD land), .str (sOf [c])] = some (.int (land.idxOf (some c))) := by
          simp only [indexD, isStrs_land, Option.bind_some]
          rw [if_pos ⟨List.mem_map.mpr ⟨some c, hmem, rfl⟩, by simp; lia⟩, land_idx]
        refine bin2_v (bin2_v (bin2_v rfl (methF_v (nameF_v rfl) rfl (one_v (cmpF_v hcm (by decide))) hix) (mulD_blanks (by lia))) (cmpF_v hcm (by decide)) (addD_sOf (by simp [blanks_len]; lia))) (nameF_v rfl) ?_
        rw [addD_sOf (by simp [blanks_len]; lia)]
        show some (PyData.str (sOf (blanks (land.idxOf (some c)) ++ [c] ++ blanks t))) = some (PyData.str (sOf (lineL (land.idxOf (some c)) c t)))
        unfold lineL; simp)
    refine (asgO_v c).trans ?_
    have : ((namesD nc).filter (fun d => match d with | .str x => land.contains x.cps.toList.head? | _ => false)).map (fun d => match d with | .str x => PyData.str (sOf (lineL (land.idxOf x.cps.toList.head?) (x.cps.toList.headD 0) t)) | d => d) = linesD t (actL land nc) := by
      unfold namesD linesD actL
      rw [List.filter_map, List.map_map, List.map_map]; rfl
    rw [this]; rfl
  rw [seqF_next e3]
  obtain ⟨T, e⟩ := lines_loop (LD := .list (landD land)) (nm := nm) (texts := texts) (hs := hs) (n := hs.length) ht ⟨hn.1, by lia⟩ qs 0 (actL land nc) (some (.own (namesD (heldL land nc)))) (some (.own (linesD t (actL land nc)))) none none none none none none none K (.inl rfl) (.inl rfl) (fun j q hj => by rw [Nat.zero_add]; exact hq j q hj) (by lia)
  have e17 : t_lines_17 (SN (.list texts) (.list (landD land)) (.list (numsD hs)) nm (sOf (blanks t)) hs.length (some (.own (namesD (heldL land nc)))) (some (.own (linesD t (actL land nc)))) none none none none none none none) = some (.next, T) := by
    refine forF_v (rngF_v (x := ((0 : Nat) : Int)) (y := ((2 * hs.length : Nat) : Int)) (one_v (bin2_v rfl (nameF_v rfl) (mulD_nat (a := 2) (by lia)))) rfl (by lia)) ?_
    rw [show (((2 * hs.length : Nat) : Int) - ((0 : Nat) : Int)).toNat = qs.length by omega]
    exact e
  rw [seqF_next e17]
  exact ⟨_, seqF_ret (f := t_lines_18) (retF_v rfl)⟩
end
theorem hS_get (Q : LN) : ∀ (a : LN) (b : Nat), (hS Q a)[b]? = a[b]?.map fun x => hgt x (PS Q (a.drop (b + 1)))
  | [], b => by simp [hS]
  | c :: a, 0 => rfl
  | c :: a, b + 1 => by rw [hS_cons, List.getElem?_cons_succ, List.getElem?_cons_succ, hS_get Q a b]; rfl
theorem PS_round {P c : LN} (h : PS P c = P) : ∀ k, PS P (round k c) = P
  | 0 => rfl
  | k + 1 => by
    show PS P (List.replicate (k + 1) c).flatten = P
    rw [List.replicate_succ, List.flatten_cons, PS_append, show (List.replicate k c).flatten = round k c from rfl, PS_round h k, h]
theorem hS_round {P c : LN} (h : PS P c = P) : ∀ k, hS P (round k c) = round k (hS P c)
  | 0 => rfl
  | k + 1 => by
    show hS P (List.replicate (k + 1) c).flatten = (List.replicate (k + 1) (hS P c)).flatten
    rw [List.replicate_succ, List.flatten_cons, hS_append, show (List.replicate k c).flatten = round k c from rfl, PS_round h k, hS_round h k, List.replicate_succ, List.flatten_cons]; rfl
theorem round_drop {c : LN} {b : Nat} (k : Nat) (hb : b ≤ c.length) : (round (k + 1) c).drop b = c.drop b ++ round k c := by
  show (List.replicate (k + 1) c).flatten.drop b = _
  rw [List.replicate_succ, List.flatten_cons, List.drop_append_of_le_length hb]; rfl
structure ActsOk (M : Nat) (r : List Nat) (W : LN) (acts : List (Nat × Nat)) : Prop where
  mem : ∀ x a, (x, a) ∈ acts ↔ ∃ j, j < M ∧ r[j]? = some x ∧ W[j]? = some a
  nd : (acts.map (·.1)).Nodup
  small : ∀ p ∈ acts, p.2 ≤ 20
theorem nodup_of_map {α β : Type} {f : α -> β} : ∀ {l : List α}, (l.map f).Nodup -> l.Nodup
  | [], _ => .nil
  | a :: l, h => by
    rw [List.map_cons, List.nodup_cons] at h
    exact List.nodup_cons.mpr ⟨fun q => h.1 (List.mem_map.mpr ⟨a, q, rfl⟩), nodup_of_map h.2⟩
theorem zip_mem' {r : List Nat} {W : LN} {M x a : Nat} (hW : W.length = M) : (x, a) ∈ (r.take M).zip W ↔ ∃ j, j < M ∧ r[j]? = some x ∧ W[j]? = some a := by
  rw [List.mem_iff_getElem?]
  constructor
  · rintro ⟨j, hj⟩
    rw [List.getElem?_zip_eq_some] at hj
    have hlt := (List.getElem?_eq_some_iff.mp hj.2).1
    have : (r.take M)[j]? = some x := hj.1
    rw [List.getElem?_take_of_lt (by lia)] at this
    exact ⟨j, by lia, this, hj.2⟩
  · rintro ⟨j, hj, h1, h2⟩
    exact ⟨j, by rw [List.getElem?_zip_eq_some]; exact ⟨by rw [List.getElem?_take_of_lt hj]; exact h1, h2⟩⟩
theorem nodup_zip : ∀ {l : List Nat} {W : LN}, l.Nodup -> (l.zip W).Nodup
  | [], _, _ => by simp
  | _ :: _, [], _ => by simp
  | a :: l, w :: W, h => by
    rw [List.nodup_cons] at h
    rw [List.zip_cons_cons]
    exact List.nodup_cons.mpr ⟨fun q => h.1 (List.of_mem_zip q).1, nodup_zip h.2⟩
theorem pw_zip : ∀ {l : List Nat} {W : LN}, W.Pairwise (· < ·) -> (l.zip W).Pairwise fun p q => p.2 < q.2
  | [], _, _ => by simp
  | _ :: _, [], _ => by simp
  | a :: l, w :: W, h => by
    rw [List.pairwise_cons] at h
    rw [List.zip_cons_cons]
    exact List.pairwise_cons.mpr ⟨fun q hq => h.1 _ (List.of_mem_zip hq).2, pw_zip h.2⟩
theorem beat_ok {M c : Nat} {r : List Nat} {W' : LN} {acts : List (Nat × Nat)} (A : ActsOk M r (back c W') acts) (nd : r.Nodup) (hr : M ≤ r.length) (hr4 : r.length ≤ 4) (hc : c ≤ M) (hW : W'.length = M) (hpw : W'.Pairwise (· < ·)) (hcd : ∀ x ∈ r, x ∈ codes) (hh : hgt c W' ≤ 20) :
    BeatOk (r.drop M).reverse acts r.reverse (hgt c W') := by
  have hW' : (back c W').length = M := by rw [back_length (by lia), hW]
  have key : ∀ p, p ∈ acts ↔ p ∈ (r.take M).zip (back c W') := fun p => by obtain ⟨x, a⟩ := p; rw [A.mem, zip_mem' hW']
  have hnd := nodup_of_map A.nd
  have hnt : (r.take M).Nodup := nd.sublist (List.take_sublist M r)
  have hperm : ((r.take M).zip (back c W')).Perm acts := (List.perm_ext_iff_of_nodup (nodup_zip hnt) hnd).mpr fun p => (key p).symm
  have htl : (r.take M).length = M := by simp; lia
  refine ⟨⟨((r.take M).zip (back c W')).reverse, (List.reverse_perm _).trans hperm, ?_, ?_⟩, fun p hp => ⟨?_, A.small p hp, fun h0 => ?_⟩, hh, ?_, by simp; lia, fun x hx => hcd x (List.mem_of_mem_drop (List.mem_reverse.mp hx))⟩
  · rw [List.pairwise_reverse]; exact pw_zip (back_pw hpw)
  · rw [List.map_reverse, List.map_fst_zip (by lia), <- List.reverse_append, List.take_append_drop]
  · obtain ⟨j, hj, h1, _⟩ := (A.mem p.1 p.2).mp hp
    exact hcd p.1 (List.mem_of_getElem? h1)
  · obtain ⟨j, hj, h1, h2⟩ := (A.mem p.1 p.2).mp hp
    cases c with
    | zero =>
      rw [back_zero, List.getElem?_map] at h2
      obtain ⟨v, _, hv⟩ := Option.map_eq_some_iff.mp h2
      lia
    | succ k => rw [hgt_succ]; lia
  · rw [<- hperm.length_eq, List.length_zip, htl, hW']; lia
theorem acts_next {M c : Nat} {r : List Nat} {W' : LN} {acts : List (Nat × Nat)} (A : ActsOk M r (back c W') acts) (nd : r.Nodup) (hr : M ≤ r.length) (hc : c ≤ M) (hW : W'.length = M) (hh : hgt c W' ≤ 20) :
    ActsOk M (stepT c r) W' (nextA (hgt c W') acts) := by
  have fwd : ∀ x a j, j < M -> r[j]? = some x -> (back c W')[j]? = some a -> (stepT c r)[nxt c j]? = some x ∧ W'[nxt c j]? = some (newA (hgt c W') a - 1) := fun x a j hj h1 h2 => by
    refine ⟨stepT_get (by lia) h1, ?_⟩
    by_cases q : c ≠ 0 ∧ j = 0
    · obtain ⟨q0, rfl⟩ := q
      obtain ⟨k, rfl⟩ := Nat.exists_eq_succ_of_ne_zero q0
      rw [back_top] at h2
      cases h2
      have hk : k < W'.length := by lia
      show W'[k]? = _
      rw [hgt_succ, newA, if_pos rfl, List.getElem?_eq_getElem hk, List.getD_eq_getElem?_getD, List.getElem?_eq_getElem hk]; rfl
    · rw [back_get q] at h2
      obtain ⟨v, hv, rfl⟩ := Option.map_eq_some_iff.mp h2
      rw [hv, newA, if_neg (by lia)]; rfl
  refine ⟨fun x a' => ⟨fun h => ?_, fun ⟨j', hj', h1, h2⟩ => ?_⟩, ?_, fun p hp => ?_⟩
  · obtain ⟨⟨y, a⟩, hp, e⟩ := List.mem_map.mp h
    cases e
    obtain ⟨j, hj, g1, g2⟩ := (A.mem y a).mp hp
    obtain ⟨f1, f2⟩ := fwd y a j hj g1 g2
    exact ⟨nxt c j, lt_nxt hc hj, f1, f2⟩
  · have hx : x ∈ r := (stepT_perm c r).mem_iff.mp (List.mem_of_getElem? h1)
    obtain ⟨j, hj⟩ := List.mem_iff_getElem?.mp hx
    have hs := stepT_get (c := c) (by lia) hj
    have hnd : (stepT c r).Nodup := (stepT_perm c r).nodup_iff.mpr nd
    have ej : nxt c j = j' := by
      have hlt := (List.getElem?_eq_some_iff.mp hs).1
      exact (List.getElem?_inj hlt hnd).mp (hs.trans h1.symm)
    have hjM : j < M := nxt_lt hc (by rw [ej]; exact hj')
    obtain ⟨a, ha⟩ : ∃ a, (back c W')[j]? = some a := ⟨_, List.getElem?_eq_getElem (by rw [back_length (by lia)]; lia)⟩
    obtain ⟨_, f2⟩ := fwd x a j hjM hj ha
    rw [ej, h2] at f2
    cases f2
    exact List.mem_map.mpr ⟨(x, a), (A.mem x a).mpr ⟨j, hjM, hj, ha⟩, rfl⟩
  · have : (nextA (hgt c W') acts).map (·.1) = acts.map (·.1) := by simp [nextA, Function.comp_def]
    rw [this]; exact A.nd
  · obtain ⟨q, hq, rfl⟩ := List.mem_map.mp hp
    have := A.small q hq
    show newA (hgt c W') q.2 - 1 ≤ 20
    unfold newA; split <;> omega
noncomputable def qsT (P : LN) : List Nat -> List Nat -> List Nat -> List (List Nat × Nat)
  | [], _, _ => []
  | c :: cs, rest, r => (r.reverse, hgt c (PS P (cs ++ rest))) :: qsT P cs rest (stepT c r)
theorem stepT_drop {M c : Nat} {r : List Nat} (hc : c ≤ M) (hr : M ≤ r.length) : (stepT c r).drop M = r.drop M := by
  cases c with
  | zero => rfl
  | succ k => cases r with
    | nil => simp at hr; lia
    | cons x r' =>
      obtain ⟨M, rfl⟩ : ∃ m, M = m + 1 := ⟨M - 1, by lia⟩
      have hk : k ≤ r'.length := by simp at hr; lia
      show (r'.take k ++ x :: r'.drop k).drop (M + 1) = r'.drop M
      rw [List.drop_append, List.drop_of_length_le (by simp; lia), List.nil_append, List.length_take, Nat.min_eq_left hk, show M + 1 - k = (M - k) + 1 by grind, List.drop_succ_cons, List.drop_drop, show k + (M - k) = M by grind]
theorem lines_ok {M : Nat} {P : LN} (hP : P.length = M) (hpw : P.Pairwise (· < ·)) : ∀ (cs rest r : List Nat) (acts : List (Nat × Nat)), (∀ c ∈ cs ++ rest, c ≤ M) -> (∀ (b h : Nat), (hS P (cs ++ rest))[b]? = some h -> h ≤ 20) -> r.Nodup -> M ≤ r.length -> r.length ≤ 4 -> (∀ x ∈ r, x ∈ codes) -> ActsOk M r (PS P (cs ++ rest)) acts ->
    LinesOk (r.drop M).reverse acts (qsT P cs rest r)
  | [], rest, r, acts, _, _, _, _, _, _, _ => trivial
  | c :: cs, rest, r, acts, hc, hh, nd, hr, hr4, hcd, A => by
    have hc0 : c ≤ M := hc c (.head _)
    have hcs : ∀ x ∈ cs ++ rest, x ≤ M := fun x hx => hc x (.tail _ hx)
    have hW : (PS P (cs ++ rest)).length = M := by rw [PS_length (by rw [hP]; exact hcs), hP]
    have h20 : hgt c (PS P (cs ++ rest)) ≤ 20 := hh 0 _ rfl
    refine ⟨beat_ok A nd hr hr4 hc0 hW (PS_pw hpw _) hcd h20, ?_⟩
    have := lines_ok hP hpw cs rest (stepT c r) (nextA (hgt c (PS P (cs ++ rest))) acts) hcs (fun b h hb => hh (b + 1) h hb) ((stepT_perm c r).nodup_iff.mpr nd) (by rw [stepT_length]; exact hr) (by rw [stepT_length]; exact hr4) (fun x hx => hcd x ((stepT_perm c r).mem_iff.mp hx)) (acts_next A nd hr hc0 hW h20)
    rw [stepT_drop hc0 hr] at this
    exact this
structure Game (n m : Nat) (c nc : List Nat) : Prop where
  hn : n = 3 ∨ n = 4 ∨ n = 5
  hm : m = 2 ∨ m = 3 ∨ m = 4
  cl : c.length = n
  cm : ∀ x ∈ c, x ≤ m
  nl : nc.length = m
  nd : nc.Nodup
  code : ∀ x ∈ nc, x ∈ codes
section
variable {n m : Nat} {c nc : List Nat}
noncomputable def hsG (c : List Nat) : List Nat := hS (fixP c) c
noncomputable def landG (m : Nat) (c nc : List Nat) : List (Option Nat) := landT (round (m + 1) c) nc.reverse
structure Facts (n m : Nat) (c nc : List Nat) : Prop where
  P : Cyc n c (maxC c) (fixP c) (hsG c)
  Pl : (fixP c).length = maxC c
  M : maxC c ≤ m
  hl : (hsG c).length = n
  h20 : ∀ h ∈ hsG c, h ≤ 20
  nM : n * maxC c ≤ 20
theorem Game.facts (G : Game n m c nc) : Facts n m c nc := by
  have hm4 : m ≤ 4 := by have := G.hm; lia
  have hn5 : n ≤ 5 := by have := G.hn; lia
  obtain ⟨a, b⟩ := cyc_of (ok_all G.hn G.cl fun x hx => Nat.le_trans (G.cm x hx) hm4)
  have hM := maxC_le G.cm
  have hnM : n * maxC c ≤ 5 * 4 := Nat.mul_le_mul hn5 (by lia)
  exact ⟨a, b, hM, by unfold hsG; rw [hS_length, G.cl], fun h hh => by have := a.hle h hh; lia, hnM⟩
theorem runT_length {α : Type} (cs : List Nat) (r : List α) : (runT cs r).length = r.length := (runT_perm cs r).length_eq
theorem Game.ht (G : Game n m c nc) (b h : Nat) (hb : (hsG c)[b]? = some h) : HtOk (landG m c nc) b h := by
  have F := G.facts
  have hlt : b < n := by have := (List.getElem?_eq_some_iff.mp hb).1; rw [F.hl] at this; exact this
  have hb' := hb
  unfold hsG at hb'
  rw [hS_get, List.getElem?_eq_getElem (by rw [G.cl]; exact hlt)] at hb'
  obtain ⟨cb, ecb⟩ : ∃ cb, c[b]? = some cb := ⟨_, List.getElem?_eq_getElem (by rw [G.cl]; exact hlt)⟩
  have hgt' : hgt cb (PS (fixP c) (c.drop (b + 1))) = h := by
    rw [List.getElem?_eq_getElem (by rw [G.cl]; exact hlt)] at ecb
    cases ecb; exact Option.some.inj hb'
  have hM : cb ≤ maxC c := F.P.cM cb (List.mem_of_getElem? ecb)
  have hNl : (round (m + 1) c).length = (m + 1) * n := by rw [round_length, G.cl]
  have hcs : ∀ x ∈ round (m + 1) c, x ≤ (fixP c).length := fun x hx => by rw [F.Pl]; exact F.P.cM x (round_mem hx)
  have hdrop : (round (m + 1) c).drop b = cb :: ((round (m + 1) c).drop (b + 1)) := by
    have h1 : (round (m + 1) c)[b]? = some cb := by rw [round_get _ _ _ (by rw [G.cl, Nat.add_mul]; omega), G.cl, Nat.mod_eq_of_lt hlt]; exact ecb
    have hl := (List.getElem?_eq_some_iff.mp h1).1
    rw [List.drop_eq_getElem_cons hl, (List.getElem?_eq_some_iff.mp h1).2]
  have hPS : PS (fixP c) ((round (m + 1) c).drop (b + 1)) = PS (fixP c) (c.drop (b + 1)) := by
    rw [round_drop m (by rw [G.cl]; assumption), PS_append, PS_round F.P.fix]
  generalize hr : runT ((round (m + 1) c).take b) nc.reverse = r
  have hrl : r.length = m := by rw [<- hr, runT_length, List.length_reverse, G.nl]
  have hrnd : r.Nodup := by rw [<- hr]; exact (runT_perm _ _).nodup_iff.mpr ((List.reverse_perm nc).nodup_iff.mpr G.nd)
  have hland : (landG m c nc).drop b = landT (cb :: ((round (m + 1) c).drop (b + 1))) r := by
    unfold landG; rw [landT_drop, hdrop, hr]
  have hget : ∀ i, (landG m c nc)[b + i]? = (landT (cb :: ((round (m + 1) c).drop (b + 1))) r)[i]? := fun i => by rw [<- hland, List.getElem?_drop]
  have h0 := hget 0
  refine ⟨⟨if cb = 0 then none else r.head?, (show (landG m c nc)[b]? = _ from h0), fun q => ?_, fun x q => ?_⟩⟩
  · cases cb with
    | zero => rw [<- hgt']; rfl
    | succ k =>
      rw [if_neg (by lia)] at q
      cases r with
      | nil => simp at hrl; have := G.hm; lia
      | cons a r => cases q
  · cases cb with
    | zero => cases q
    | succ k =>
      rw [if_neg (by lia)] at q
      have hx : r[0]? = some x := by rw [<- List.head?_eq_getElem?]; exact q
      have hxk := stepT_get (c := k + 1) (r := r) (by rw [hrl]; have := F.M; lia) hx
      have hxk' : (stepT (k + 1) r)[k]? = some x := hxk
      have hWl : (PS (fixP c) (c.drop (b + 1))).length = maxC c := by rw [PS_length (fun y hy => by rw [F.Pl]; exact F.P.cM y (List.mem_of_mem_drop hy)), F.Pl]
      have hlands := lands ((round (m + 1) c).drop (b + 1)) (stepT (k + 1) r) (fixP c) ((stepT_perm _ _).nodup_iff.mpr hrnd) (by rw [stepT_length, hrl, F.Pl]; exact F.M) (fun y hy => hcs y (List.mem_of_mem_drop hy)) k x hxk'
      have hk : k < (PS (fixP c) (c.drop (b + 1))).length := by rw [hWl]; assumption
      have hv : (PS (fixP c) ((round (m + 1) c).drop (b + 1)))[k]? = some (h - 1) := by
        rw [hPS, List.getElem?_eq_getElem hk]
        rw [hgt_succ, List.getD_eq_getElem?_getD, List.getElem?_eq_getElem hk] at hgt'
        congr 1
        simp only [Option.getD_some] at hgt'
        omega
      have hpos : 0 < h := by rw [<- hgt', hgt_succ]; omega
      obtain ⟨l1, l2⟩ := hlands.1 (h - 1) hv
      have hle : h ≤ n * maxC c := F.P.hle h (List.mem_of_getElem? hb)
      have hnm : n * maxC c ≤ n * m := Nat.mul_le_mul_left n F.M
      have hlen : h - 1 < ((round (m + 1) c).drop (b + 1)).length := by
        rw [List.length_drop, hNl, Nat.add_mul, Nat.mul_comm m n]; omega
      refine ⟨hpos, ?_, fun j h1 h2 hj => ?_⟩
      · rw [hget h, show h = (h - 1) + 1 by omega]
        exact l2 hlen
      · rw [show j = b + (j - b) by omega, hget (j - b), show j - b = (j - b - 1) + 1 by omega] at hj
        have := l1 (j - b - 1) hj
        omega
end
theorem idxOf_first {l : List (Option Nat)} {x : Option Nat} {v : Nat} (h : l[v]? = some x) (h1 : ∀ i, l[i]? = some x -> v ≤ i) : l.idxOf x = v := by
  have hv := (List.getElem?_eq_some_iff.mp h).1
  have hm : x ∈ l := List.mem_of_getElem? h
  have hlt : l.idxOf x < l.length := List.idxOf_lt_length_iff.mpr hm
  have e : l[l.idxOf x]? = some x := by rw [List.getElem?_eq_getElem hlt, List.getElem_idxOf hlt]
  have hle := h1 _ e
  rcases Nat.lt_or_ge v (l.idxOf x) with q | q
  · have := List.not_of_lt_findIdx (p := (· == x)) (xs := l) (i := v) q
    rw [(List.getElem?_eq_some_iff.mp h).2] at this
    simp at this
  · lia
theorem round_append (a b : Nat) (c : List Nat) : round a c ++ round b c = round (a + b) c := by
  unfold round; rw [<- List.flatten_append, List.replicate_append_replicate]
theorem qsT_length (P : LN) : ∀ (cs rest r : List Nat), (qsT P cs rest r).length = cs.length
  | [], _, _ => rfl
  | c :: cs, rest, r => by show (qsT P cs rest _).length + 1 = _; rw [qsT_length P cs]; rfl
theorem qsT_get (P : LN) : ∀ (cs rest r : List Nat) (j : Nat) (q : List Nat × Nat), (qsT P cs rest r)[j]? = some q -> ∃ row, (ordT (cs ++ rest) r)[j]? = some row ∧ q.1 = row.reverse ∧ (hS P (cs ++ rest))[j]? = some q.2
  | [], _, _, j, q, h => by simp [qsT] at h
  | c :: cs, rest, r, 0, q, h => by
    have : q = (r.reverse, hgt c (PS P (cs ++ rest))) := by simpa [qsT] using h.symm
    subst this
    exact ⟨r, rfl, rfl, rfl⟩
  | c :: cs, rest, r, j + 1, q, h => by
    have h' : (qsT P cs rest (stepT c r))[j]? = some q := by simpa [qsT] using h
    exact qsT_get P cs rest (stepT c r) j q h'
section
variable {n m : Nat} {c nc : List Nat}
theorem Game.lands (G : Game n m c nc) : ∀ j x, nc.reverse[j]? = some x -> (∀ v, (fixP c)[j]? = some v -> (∀ i, (landG m c nc)[i]? = some (some x) -> v ≤ i) ∧ (landG m c nc)[v]? = some (some x)) ∧ (maxC c ≤ j -> some x ∉ landG m c nc) := fun j x hx => by
  have F := G.facts
  have h := Mine.lands (round (m + 1) c) nc.reverse (fixP c) ((List.reverse_perm nc).nodup_iff.mpr G.nd) (by rw [List.length_reverse, G.nl, F.Pl]; exact F.M) (fun y hy => by rw [F.Pl]; exact F.P.cM y (round_mem hy)) j x hx
  rw [PS_round F.P.fix, F.Pl] at h
  refine ⟨fun v hv => ?_, h.2⟩
  obtain ⟨h1, h2⟩ := h.1 v hv
  refine ⟨h1, h2 ?_⟩
  have := F.P.ple v (List.mem_of_getElem? hv)
  have h3 : n * maxC c ≤ n * m := Nat.mul_le_mul_left n F.M
  rw [round_length, G.cl, Nat.add_mul, Nat.mul_comm m n]; lia
theorem Game.acts (G : Game n m c nc) : ActsOk (maxC c) nc.reverse (fixP c) (actL (landG m c nc) nc) := by
  have F := G.facts
  have key : ∀ x j, nc.reverse[j]? = some x -> j < maxC c -> ∃ v, (fixP c)[j]? = some v ∧ (landG m c nc).idxOf (some x) = v ∧ some x ∈ landG m c nc := fun x j hx hj => by
    obtain ⟨v, hv⟩ : ∃ v, (fixP c)[j]? = some v := ⟨_, List.getElem?_eq_getElem (by rw [F.Pl]; exact hj)⟩
    obtain ⟨h1, h2⟩ := (G.lands j x hx).1 v hv
    exact ⟨v, hv, idxOf_first h2 h1, List.mem_of_getElem? h2⟩
  refine ⟨fun x a => ⟨fun h => ?_, fun ⟨j, hj, h1, h2⟩ => ?_⟩, ?_, fun p hp => ?_⟩
  · obtain ⟨y, hy, e⟩ := List.mem_map.mp h
    cases e
    obtain ⟨hy1, hy2⟩ := List.mem_filter.mp hy
    have hmem : some x ∈ landG m c nc := by simpa using hy2
    obtain ⟨j, hj⟩ := List.mem_iff_getElem?.mp (List.mem_reverse.mpr hy1)
    have hjM : j < maxC c := by
      rcases Nat.lt_or_ge j (maxC c) with q | q
      · exact q
      · exact absurd hmem ((G.lands j x hj).2 q)
    obtain ⟨v, hv, e, _⟩ := key x j hj hjM
    exact ⟨j, hjM, hj, by rw [e]; exact hv⟩
  · obtain ⟨v, hv, e, hm⟩ := key x j h1 hj
    rw [h2] at hv; cases hv
    exact List.mem_map.mpr ⟨x, List.mem_filter.mpr ⟨List.mem_reverse.mp (List.mem_of_getElem? h1), by simpa using hm⟩, by rw [e]⟩
  · have : (actL (landG m c nc) nc).map (·.1) = nc.filter fun c' => (landG m c nc).contains (some c') := by unfold actL; rw [List.map_map]; exact List.map_id'' (fun _ => rfl) _
    rw [this]; exact G.nd.sublist List.filter_sublist
  · obtain ⟨y, hy, e0⟩ := List.mem_map.mp hp
    rw [<- e0]
    obtain ⟨hy1, hy2⟩ := List.mem_filter.mp hy
    have hmem : some y ∈ landG m c nc := by simpa using hy2
    obtain ⟨j, hj⟩ := List.mem_iff_getElem?.mp (List.mem_reverse.mpr hy1)
    have hjM : j < maxC c := by
      rcases Nat.lt_or_ge j (maxC c) with q | q
      · exact q
      · exact absurd hmem ((G.lands j y hj).2 q)
    obtain ⟨v, hv, e, _⟩ := key y j hj hjM
    show (landG m c nc).idxOf (some y) ≤ 20
    rw [e]
    have := F.P.ple v (List.mem_of_getElem? hv)
    have := F.nM
    lia
theorem Game.held (G : Game n m c nc) : heldL (landG m c nc) nc = (nc.reverse.drop (maxC c)).reverse := by
  have F := G.facts
  have hsplit : nc = (nc.reverse.drop (maxC c)).reverse ++ (nc.reverse.take (maxC c)).reverse := by
    rw [<- List.reverse_append, List.take_append_drop, List.reverse_reverse]
  unfold heldL
  generalize hd : (nc.reverse.drop (maxC c)).reverse = D at hsplit
  generalize ht : (nc.reverse.take (maxC c)).reverse = T at hsplit
  have h1 : ∀ x ∈ D, (!(landG m c nc).contains (some x)) = true := fun x hx => by
    rw [<- hd, List.mem_reverse] at hx
    obtain ⟨i, hi⟩ := List.mem_iff_getElem?.mp hx
    rw [List.getElem?_drop] at hi
    have := (G.lands _ x hi).2 (by lia)
    simpa using this
  have h2 : ∀ x ∈ T, ¬ (!(landG m c nc).contains (some x)) = true := fun x hx => by
    rw [<- ht, List.mem_reverse] at hx
    obtain ⟨i, hi⟩ := List.mem_iff_getElem?.mp hx
    have hlt : i < maxC c := by have := (List.getElem?_eq_some_iff.mp hi).1; simp at this; grind
    rw [List.getElem?_take_of_lt hlt] at hi
    obtain ⟨v, hv⟩ : ∃ v, (fixP c)[i]? = some v := ⟨_, List.getElem?_eq_getElem (by rw [F.Pl]; exact hlt)⟩
    have := List.mem_of_getElem? ((G.lands i x hi).1 v hv).2
    simpa using this
  have : nc.filter (fun c' => !(landG m c nc).contains (some c')) = (D ++ T).filter (fun c' => !(landG m c nc).contains (some c')) := by rw [<- hsplit]
  rw [this, List.filter_append, List.filter_eq_self.mpr h1, List.filter_eq_nil_iff.mpr h2, List.append_nil]
noncomputable def qsG (m : Nat) (c nc : List Nat) : List (List Nat × Nat) := qsT (fixP c) (round 2 c) (round (m - 1) c) nc.reverse
theorem Game.round (G : Game n m c nc) : round 2 c ++ round (m - 1) c = round (m + 1) c := by
  rw [round_append, show 2 + (m - 1) = m + 1 by have := G.hm; lia]
theorem Game.lines (G : Game n m c nc) : LinesOk (heldL (landG m c nc) nc) (actL (landG m c nc) nc) (qsG m c nc) := by
  have F := G.facts
  rw [G.held]
  have hA : ActsOk (maxC c) nc.reverse (PS (fixP c) (Mine.round 2 c ++ Mine.round (m - 1) c)) (actL (landG m c nc) nc) := by rw [G.round, PS_round F.P.fix]; exact G.acts
  refine lines_ok F.Pl F.P.inc (Mine.round 2 c) (Mine.round (m - 1) c) nc.reverse (actL (landG m c nc) nc) (fun x hx => ?_) (fun b h hb => ?_) ((List.reverse_perm nc).nodup_iff.mpr G.nd) (by rw [List.length_reverse, G.nl]; exact F.M) (by rw [List.length_reverse, G.nl]; have := G.hm; lia) (fun x hx => G.code x (List.mem_reverse.mp hx)) hA
  · rw [G.round] at hx; exact F.P.cM x (round_mem hx)
  · rw [G.round, hS_round F.P.fix] at hb
    exact F.h20 h (round_mem (List.mem_of_getElem? hb))
theorem Game.qs_len (G : Game n m c nc) : (qsG m c nc).length = 2 * (hsG c).length := by
  unfold qsG; rw [qsT_length, round_length, G.cl, G.facts.hl]
theorem ordT_map {α β : Type} (f : α -> β) : ∀ (cs : List Nat) (r : List α), ordT cs (r.map f) = (ordT cs r).map (List.map f)
  | [], r => rfl
  | c :: cs, r => by
    have hs : stepT c (r.map f) = (stepT c r).map f := by
      cases c with
      | zero => rfl
      | succ k => cases r with
        | nil => rfl
        | cons x r' => simp [stepT, List.map_take, List.map_drop]
    show r.map f :: ordT cs (stepT c (r.map f)) = _
    rw [hs, ordT_map f cs]; rfl
noncomputable abbrev nmOf (c : Nat) : Str := sOf [c]
theorem texts_get {t : Nat} {cs r : List Nat} {j : Nat} {row : List Nat} (h : (ordT cs r)[j]? = some row) : (textsT (sOf (blanks t)) cs (r.map nmOf))[j]? = some (textD t row.reverse) := by
  unfold textsT
  rw [ordT_map, List.map_map, List.getElem?_map, h]
  show some (textT (sOf (blanks t)) (row.map nmOf)) = _
  unfold textT textD
  have : (row.map nmOf).reverse.map (sOf (blanks t) ++ ·) = (row.reverse.map fun c => blanks t ++ [c]).map sOf := by
    rw [<- List.map_reverse, List.map_map, List.map_map]
    refine List.map_congr_left fun x _ => ?_
    show sOf (blanks t) ++ sOf [x] = _
    rw [sOf_append]; rfl
  rw [this, cat_sOf]
theorem Game.qs_get (G : Game n m c nc) {t : Nat} (j : Nat) (q : List Nat × Nat) (h : (qsG m c nc)[j]? = some q) :
    (textsT (sOf (blanks t)) (Mine.round (m + 1) c) (nc.reverse.map nmOf))[j]? = some (textD t q.1) ∧ (hsG c)[j % (hsG c).length]? = some q.2 := by
  have F := G.facts
  obtain ⟨row, h1, h2, h3⟩ := qsT_get _ _ _ _ _ _ h
  rw [G.round] at h1 h3
  refine ⟨by rw [h2]; exact texts_get h1, ?_⟩
  rw [hS_round F.P.fix] at h3
  have hlt := (List.getElem?_eq_some_iff.mp h3).1
  rw [round_length] at hlt
  rw [round_get _ _ _ hlt] at h3
  exact h3
end
noncomputable abbrev SE (script : PyData) (a b : Int) (x y : Option Loc) : L := [some (.val script), some (.own [.int a, .int b]), x, y, none]
theorem cells2 {script : PyData} {a b v : Int} {i : Nat} (hi : i < 100) : ∃ a' b', t_cells_2 (SE script a b (some (.val (.int i))) (some (.val (.int v)))) = some (.next, SE script a' b' (some (.val (.int i))) (some (.val (.int v)))) := by
  generalize hS : SE script a b (some (.val (.int i))) (some (.val (.int v))) = S
  have s1 : S[1]? = some (some (.own [.int a, .int b])) := by subst hS; rfl
  have s2 : S[2]? = some (some (.val (.int i))) := by subst hS; rfl
  have s3 : S[3]? = some (some (.val (.int v))) := by subst hS; rfl
  have hm : bin2 modD (nameF 2) (cI 2) ⟨S, []⟩ = some (.int ((i % 2 : Nat) : Int), ⟨S, []⟩) := bin2_v (nameF_v s2) rfl (modD_nat (b := 2) (by decide))
  have hlt := Nat.mod_lt i (by decide : 0 < 2)
  obtain ⟨w, hw⟩ : ∃ w : Int, ([.int a, .int b] : List PyData)[i % 2]? = some (.int w) := by
    have : i % 2 = 0 ∨ i % 2 = 1 := by lia
    rcases this with q | q <;> rw [q]
    · exact ⟨a, rfl⟩
    · exact ⟨b, rfl⟩
  have hv : bin2 addD (subOwn 1 (bin2 modD (nameF 2) (cI 2))) (nameF 3) ⟨S, []⟩ = some (.int (w + v), ⟨S, []⟩) := bin2_v (subOwn_v s1 hm s1 (by grind) hw) (nameF_v s3) rfl
  have e : t_cells_2 S = some (.next, setL S 1 (.own (([.int a, .int b] : List PyData).set (i % 2) (.int (w + v))))) := by
    unfold t_cells_2 setitF
    refine Option.bind_eq_some_iff.mpr ⟨(.int (w + v), ⟨S, []⟩), hv, Option.bind_eq_some_iff.mpr ⟨[.int a, .int b], by rw [s1]; rfl, Option.bind_eq_some_iff.mpr ⟨(.int ((i % 2 : Nat) : Int), ⟨S, []⟩), hm, Option.bind_eq_some_iff.mpr ⟨((i % 2 : Nat) : Int), rfl, Option.bind_eq_some_iff.mpr ⟨[.int a, .int b], by rw [s1]; rfl, ?_⟩⟩⟩⟩⟩
    rw [if_pos ⟨by grind, by simp; grind, by simp⟩, Int.toNat_natCast]
  rw [e]
  subst hS
  have : i % 2 = 0 ∨ i % 2 = 1 := by lia
  rcases this with q | q <;> rw [q]
  · exact ⟨w + v, b, rfl⟩
  · exact ⟨a, w + v, rfl⟩
theorem cells_loop {script : PyData} : ∀ (ns : List Int) (i : Nat) (a b : Int) (x y : Option Loc), i + ns.length ≤ 100 -> ∃ a' b' x' y', forL (tgtT [2, 3]) (seqF t_cells_2 nextF) (enumD i (ns.map .int)) (SE script a b x y) = some (.next, SE script a' b' x' y')
  | [], i, a, b, x, y, _ => ⟨a, b, x, y, rfl⟩
  | v :: ns, i, a, b, x, y, h => by
    obtain ⟨a1, b1, e⟩ := cells2 (script := script) (a := a) (b := b) (v := v) (i := i) (by simp at h; lia)
    obtain ⟨a', b', x', y', ih⟩ := cells_loop (script := script) ns (i + 1) a1 b1 (some (.val (.int i))) (some (.val (.int v))) (by simp at h ⊢; lia)
    refine ⟨a', b', x', y', ?_⟩
    rw [List.map_cons, enumD, forL_step (S1 := SE script a b (some (.val (.int i))) (some (.val (.int v)))) rfl (by rw [seqF_next e]; rfl)]
    exact ih
theorem cells_v (ns : List Int) (h : ns.length ≤ 63) : ∃ a b : Int, o_cells [.list (ns.map .int)] = some (.list [.int a, .int b]) := by
  obtain ⟨a, b, x, y, e⟩ := cells_loop (script := .list (ns.map .int)) ns 0 301 114 none none (by lia)
  refine ⟨a, b, fnA_v rfl ?_⟩
  unfold m_cells
  have e1 : t_cells_1 (initL 5 [.list (ns.map .int)]) = some (.next, SE (.list (ns.map .int)) 301 114 none none) := asgO_v (i := 1) (lstF_v (consL_v (S1 := ⟨initL 5 [.list (ns.map .int)], []⟩) (show cI 301 _ = some (.int 301, _) from rfl) (one_v (S1 := ⟨initL 5 [.list (ns.map .int)], []⟩) (show cI 114 _ = some (.int 114, _) from rfl))) (by simp))
  rw [seqF_next e1]
  have e3 : t_cells_3 (SE (.list (ns.map .int)) 301 114 none none) = some (.next, SE (.list (ns.map .int)) a b x y) := by
    refine forF_v (S1 := ⟨SE (.list (ns.map .int)) 301 114 none none, []⟩) (ds := enumD 0 (ns.map .int)) ?_ e
    unfold enmF; rw [one_v (nameF_v rfl)]; rfl
  rw [seqF_next e3]
  exact ⟨_, seqF_ret (f := t_cells_4) (retF_v (nameF_own (i := 1) rfl))⟩
theorem lay_all {l : List PyData} (h : ∀ d ∈ l, d.canLay0 = true) : PyData.canLayAll0 l = true := by
  induction l with
  | nil => rfl
  | cons a r ih => show (PyData.canLay0 a && PyData.canLayAll0 r) = true; rw [h a (.head _), ih fun d hd => h d (.tail _ hd)]; rfl
theorem depth_all {l : List PyData} {k : Nat} (h : ∀ d ∈ l, d.depth ≤ k) : PyData.depthAll l ≤ k := by
  induction l with
  | nil => exact Nat.zero_le _
  | cons a r ih => show max a.depth (PyData.depthAll r) ≤ k; have h1 := h a (.head _); have h2 := ih fun d hd => h d (.tail _ hd); lia
structure Flat (k : Nat) (d : PyData) : Prop where
  lay : d.canLay0 = true
  dep : d.depth ≤ k
theorem Flat.list {k : Nat} {l : List PyData} (h : ∀ d ∈ l, Flat k d) : Flat (k + 1) (.list l) :=
  ⟨lay_all fun d hd => (h d hd).lay, by show PyData.depthAll l + 1 ≤ k + 1; have := depth_all fun d hd => (h d hd).dep; lia⟩
theorem Flat.tuple {k : Nat} {l : List PyData} (h : ∀ d ∈ l, Flat k d) : Flat (k + 1) (.tuple l) :=
  ⟨lay_all fun d hd => (h d hd).lay, by show PyData.depthAll l + 1 ≤ k + 1; have := depth_all fun d hd => (h d hd).dep; lia⟩
theorem Flat.str {k : Nat} {l : List Nat} (h : ∀ c ∈ l, c < 1114112) : Flat k (.str (sOf l)) := ⟨PySem.SeqAt.canLay_of_shaped (ok_sOf h), Nat.zero_le _⟩
theorem Flat.int {k : Nat} {i : Int} : Flat k (.int i) := ⟨rfl, Nat.zero_le _⟩
theorem Flat.mono {k k' : Nat} {d : PyData} (h : Flat k d) (hk : k ≤ k') : Flat k' d := ⟨h.lay, Nat.le_trans h.dep hk⟩
theorem Flat.shaped {k : Nat} {d : PyData} (h : Flat k d) (hk : k ≤ 64) : PySem.SeqAt.shaped d = true := by
  unfold PySem.SeqAt.shaped; rw [h.lay, decide_eq_true (Nat.le_trans h.dep hk)]; rfl
section
variable {t : Nat} {cs r : List Nat}
theorem ordT_mem : ∀ (cs r : List Nat) (row : List Nat), row ∈ ordT cs r -> ∀ x ∈ row, x ∈ r
  | [], r, row, h => nomatch h
  | c :: cs, r, row, h => fun x hx => by
    rcases List.mem_cons.mp h with rfl | h
    · exact hx
    · exact (stepT_perm c r).mem_iff.mp (ordT_mem cs _ row h x hx)
theorem texts_eq : textsT (sOf (blanks t)) cs (r.map nmOf) = (ordT cs r).map fun row => textD t row.reverse := by
  apply List.ext_getElem?
  intro j
  cases h : (ordT cs r)[j]? with
  | some row => rw [texts_get h, List.getElem?_map, h]; rfl
  | none =>
    rw [List.getElem?_map, h]
    unfold textsT
    rw [ordT_map, List.map_map, List.getElem?_map, h]; rfl
theorem textD_flat {o : List Nat} (h : ∀ x ∈ o, x < 1114112) : Flat 0 (textD t o) := by
  refine Flat.str fun x hx => ?_
  obtain ⟨l, hl, hx⟩ := List.mem_flatten.mp hx
  obtain ⟨c, hc, rfl⟩ := List.mem_map.mp hl
  rcases List.mem_append.mp hx with hx | hx
  · have := List.eq_of_mem_replicate hx; omega
  · simp at hx; rw [hx]; exact h c hc
theorem offT_mem {c : Nat} {r : List Str} {y : Str} (h : y ∈ offT c r) : y ∈ r := by
  unfold offT at h
  split at h
  · rcases List.mem_cons.mp h with rfl | h
    · exact .head _
    · exact .tail _ (List.mem_of_mem_take (List.mem_reverse.mp h))
  · cases h
theorem taken_flat {c : Nat} {r : List Str} (h : ∀ y ∈ r, ∃ x, x < 1114112 ∧ y = nmOf x) : Flat 2 (takenT (sOf (blanks t)) c r) := by
  refine Flat.list fun d hd => ?_
  obtain ⟨y, hy, rfl⟩ := List.mem_map.mp hd
  obtain ⟨x, hx, rfl⟩ := h y (offT_mem hy)
  refine Flat.tuple fun e he => ?_
  rcases List.mem_cons.mp he with rfl | he
  · exact Flat.str fun c hc => by have := List.eq_of_mem_replicate hc; lia
  · rw [List.mem_singleton.mp he]; exact Flat.str fun c hc => by simp at hc; lia
theorem takens_flat : ∀ (cs : List Nat) (r : List Str), (∀ y ∈ r, ∃ x, x < 1114112 ∧ y = nmOf x) -> ∀ d ∈ takensT (sOf (blanks t)) cs r, Flat 2 d
  | [], r, _, d, h => nomatch h
  | c :: cs, r, hr, d, h => by
    rcases List.mem_cons.mp h with rfl | h
    · exact taken_flat hr
    · exact takens_flat cs _ (fun y hy => hr y ((stepT_perm c r).mem_iff.mp hy)) d h
theorem takens_length (tail : Str) : ∀ (cs : List Nat) (r : List Str), (takensT tail cs r).length = cs.length
  | [], _ => rfl
  | c :: cs, r => by show (takensT tail cs _).length + 1 = _; rw [takens_length tail cs]; rfl
noncomputable def firstD : PyData -> PyData
  | .list (.tuple [_, x] :: _) => x
  | _ => .str (sOf [])
theorem stepT_map {α β : Type} (f : α -> β) (c : Nat) (r : List α) : stepT c (r.map f) = (stepT c r).map f := by
  cases c with
  | zero => rfl
  | succ k => cases r with
    | nil => rfl
    | cons x r' => simp [stepT, List.map_take, List.map_drop]
theorem landed_eq (tail : Str) : ∀ (cs r : List Nat), (takensT tail cs (r.map nmOf)).map firstD = landD (landT cs r)
  | [], r => rfl
  | c :: cs, r => by
    show firstD (takenT tail c (r.map nmOf)) :: (takensT tail cs (stepT c (r.map nmOf))).map firstD = _
    rw [stepT_map, landed_eq tail cs (stepT c r)]
    show _ = PyData.str (sOf (if c = 0 then none else r.head?).toList) :: landD (landT cs (stepT c r))
    congr 1
    cases c with
    | zero => rfl
    | succ k => cases r with
      | nil => rfl
      | cons x r' => rfl
end
theorem fmod_pos (a : Int) {k : Nat} (hk : 0 < k) : ∃ r : Nat, r < k ∧ a.fmod (k : Int) = (r : Int) := by
  have h0 := Int.emod_nonneg a (by lia : (k : Int) ≠ 0)
  have h1 := Int.emod_lt_of_pos a (by omega : 0 < (k : Int))
  refine ⟨(a % (k : Int)).toNat, by omega, ?_⟩
  rw [Int.fmod_eq_emod_of_nonneg _ (by lia)]; lia
theorem modD_pos (a : Int) {k : Nat} (hk : 0 < k) : ∃ r : Nat, r < k ∧ modD (.int a) (.int (k : Int)) = some (.int (r : Int)) := by
  obtain ⟨r, h, e⟩ := fmod_pos a hk
  refine ⟨r, h, ?_⟩
  show (if (k : Int) ≠ 0 then some (PyData.int (a.fmod (k : Int))) else none) = _
  rw [if_pos (by lia), e]
theorem fdivD_pos (a : Int) {k : Nat} (hk : 0 < k) (hb : k < 1000000) : fdivD (.int a) (.int (k : Int)) = some (.int (a.fdiv (k : Int))) := by
  show (if (k : Int) ≠ 0 ∧ (k : Int).natAbs < 1073741824 then some (PyData.int (a.fdiv (k : Int))) else none) = _
  rw [if_pos ⟨by lia, by omega⟩]
theorem powD_nat {a i : Nat} (ha : a ≤ 1000) (hi : i ≤ 1000) : powD (.int (a : Int)) (.int (i : Int)) = some (.int ((a ^ i : Nat) : Int)) := by
  show (if 0 ≤ (i : Int) ∧ (i : Int) ≤ 1000000 ∧ (a : Int).natAbs < 2 ^ 64 then some (PyData.int ((a : Int) ^ (i : Int).toNat)) else none) = _
  rw [if_pos ⟨by lia, by lia, by omega⟩, Int.toNat_natCast, Int.natCast_pow]
theorem tupD_v {is : List Nat} {f : St -> Option (PyData × St)} {S : L} {S1 : St} {l : List PyData} (h : f ⟨S, []⟩ = some (.tuple l, S1)) (hl : l.length = is.length) : tupD is f S = some (.next, setAll S1.loc is (l.map .val)) := by
  unfold tupD; rw [h]; simp only [Option.bind_some, tupOf]; rw [if_pos hl]
theorem cutS_drop {l : List Nat} {a : Nat} (h : a < l.length) (hl : l.length ≤ 1000000) : cutS (sOf l) (some (a : Int)) none = some (sOf (l.drop a)) := by
  unfold cutS
  simp only [Option.getD_some, Option.getD_none, sOf_len]
  rw [if_neg (fun z => by have := z.2; lia), if_pos ⟨by lia, by lia, by lia, hl⟩, sOf_list, Int.toNat_natCast, show ((l.length : Int) - (a : Int)).toNat = (l.drop a).length by simp, List.take_length]
  rfl
theorem cutS_take {l : List Nat} {a : Nat} (h : a ≤ l.length) (hl : l.length ≤ 1000000) : cutS (sOf l) none (some (a : Int)) = some (sOf (l.take a)) := by
  unfold cutS
  rw [if_neg (by simp)]
  simp only [Option.getD_some, Option.getD_none, sOf_len]
  rw [if_pos ⟨by decide, by lia, by lia, hl⟩, sOf_list, Int.sub_zero, Int.toNat_natCast]
  rfl
theorem letters_eq : Str.ofString "!Aa~!Aa~" = sOf (codes ++ codes) := by decide +kernel
theorem nameC_all : ((List.range 4).all fun off => (List.range 5).all fun m => decide ((nameC off m).Nodup) && decide ((nameC off m).length = m) && (nameC off m).all fun x => codes.contains x) = true := by decide +kernel
theorem nameC_ok {off m : Nat} (ho : off < 4) (hm : m ≤ 4) : (nameC off m).Nodup ∧ (nameC off m).length = m ∧ ∀ x ∈ nameC off m, x ∈ codes := by
  have := List.all_eq_true.mp (List.all_eq_true.mp nameC_all off (List.mem_range.mpr ho)) m (List.mem_range.mpr (by lia))
  simp only [Bool.and_eq_true, decide_eq_true_eq, List.all_eq_true, List.contains_iff_mem] at this
  exact ⟨this.1.1, this.1.2, this.2⟩
theorem items_sOf {l : List Nat} (h : ∀ x ∈ l, x ∈ codes) : itemsD (.str (sOf l)) = some (namesD l) := by
  have : asciiS (sOf l) = true := by
    unfold asciiS
    have : ∀ x ∈ l, x < 128 := fun x hx => by have := h x hx; simp [codes] at this; lia
    simpa [sOf] using this
  show (if asciiS (sOf l) = true then some (charsD (sOf l)) else none) = _
  rw [if_pos this]; rfl
theorem namesOk {l : List Nat} (h : ∀ x ∈ l, x ∈ codes) (hl : l.length ≤ 4) : NamesOk (sOf l) (l.map nmOf) :=
  ⟨by rw [items_sOf h, List.map_map]; rfl, by rw [sOf_len, List.length_map], by rw [List.length_map]; exact hl, fun x hx => by obtain ⟨c, _, rfl⟩ := List.mem_map.mp hx; rw [sOf_len]; rfl⟩
noncomputable def signsV : List Str := Txt.split (Str.ofString "( ) [ ] : , ; + - * / | & < > = . % { } ==") (Str.ofString " ")
theorem signs_all : ((List.range 21).all fun h => match signsV[h]? with | some x => (match tokTab x with | some i => decide (i = 7 + (h : Int)) | none => false) | none => false) = true := by decide +kernel
theorem signs_get {h : Nat} (hh : h ≤ 20) : ∃ x, (signsV.map PyData.str)[h]? = some (.str x) ∧ tokTab x = some (7 + (h : Int)) := by
  have := List.all_eq_true.mp signs_all h (List.mem_range.mpr (by omega))
  cases e : signsV[h]? with
  | none => rw [e] at this; cases this
  | some x =>
    rw [e] at this
    simp only at this
    cases e2 : tokTab x with
    | none => rw [e2] at this; cases this
    | some i =>
      rw [e2] at this
      simp only [decide_eq_true_eq] at this
      exact ⟨x, by rw [List.getElem?_map, e]; rfl, by rw [e2, this]⟩
theorem splitD_v {x y : Str} (h : y.length ≠ 0) (hx : x.length ≤ 1000000) : splitD [.str x, .str y] = some (.list ((Txt.split x y).map .str)) := if_pos ⟨h, hx⟩
theorem tabF_v {tab : Str -> Option Int} {f : St -> Option (PyData × St)} {S S1 : St} {x : Str} {i : Int} (h : f S = some (.str x, S1)) (ht : tab x = some i) : tabF tab f S = some (.int i, S1) := by unfold tabF; rw [h]; simp only [Option.bind_some, strOf]; rw [ht]; rfl
theorem intsOf_numsD : ∀ l : List Nat, intsOf (numsD l) = some (l.map fun (x : Nat) => (x : Int))
  | [] => rfl
  | a :: r => by show (intsOf (numsD r)).map ((a : Int) :: ·) = _; rw [intsOf_numsD r]; rfl
theorem sum_cast : ∀ l : List Nat, (l.map fun (x : Nat) => (x : Int)).sum = ((l.sum : Nat) : Int)
  | [] => rfl
  | a :: r => by rw [List.map_cons, List.sum_cons, sum_cast r, List.sum_cons]; push_cast; rfl
theorem sumD_v {l : List Nat} (h : ∀ x ∈ l, x ≤ 1000) (hl : l.length ≤ 1000) : sumD [.list (numsD l)] = some (.int ((l.sum : Nat) : Int)) := by
  show (intsOf (numsD l)).bind _ = _
  rw [intsOf_numsD, Option.bind_some, if_pos, sum_cast]
  simp only [Bool.and_eq_true, List.all_eq_true, decide_eq_true_eq, List.length_map]
  refine ⟨fun i hi => ?_, hl⟩
  obtain ⟨x, hx, rfl⟩ := List.mem_map.mp hi
  have := h x hx
  lia
theorem maxC_mem : ∀ {l : List Nat}, l ≠ [] -> maxC l ∈ l
  | [a], _ => by rw [maxC_cons, if_pos (show maxC [] ≤ a from Nat.zero_le _)]; exact .head _
  | a :: b :: r, _ => by
    rw [maxC_cons]
    have := maxC_mem (l := b :: r) (by simp)
    split
    · exact .head _
    · exact .tail _ this
theorem maxD_v {l : List Nat} (h : l ≠ []) : maxD [.list (numsD l)] = some (.int ((maxC l : Nat) : Int)) := by
  show (intsOf (numsD l)).bind _ = _
  rw [intsOf_numsD, Option.bind_some]
  have : (l.map fun (x : Nat) => (x : Int)).max? = some ((maxC l : Nat) : Int) := by
    rw [List.max?_eq_some_iff]
    refine ⟨List.mem_map.mpr ⟨_, maxC_mem h, rfl⟩, fun b hb => ?_⟩
    obtain ⟨x, hx, rfl⟩ := List.mem_map.mp hb
    have := le_maxC hx
    lia
  rw [this]; rfl
theorem numsD_flat (l : List Nat) : Flat 1 (.list (numsD l)) := Flat.list fun d hd => by obtain ⟨x, _, rfl⟩ := List.mem_map.mp hd; exact Flat.int
theorem taken_shape (tail : Str) : ∀ (cs : List Nat) (r : List Str), ∀ d ∈ takensT tail cs r, ∃ l : List Str, d = .list (l.map fun y => .tuple [.str tail, .str y])
  | [], _, d, h => nomatch h
  | c :: cs, r, d, h => by
    rcases List.mem_cons.mp h with rfl | h
    · exact ⟨offT c r, rfl⟩
    · exact taken_shape tail cs _ d h
theorem neD_nil {l : List PyData} (h : Flat 2 (.list l)) : neD (.list l) (.list []) = some (.bool (!l.isEmpty)) := by
  unfold neD
  rw [if_pos (by rw [h.shaped (by decide)]; rfl)]
  cases l <;> rfl
theorem isL_name {i : Nat} {S : St} {l : List PyData} {x : Option Loc} (h : S.loc[i]? = some x) (hx : x = some (.own l) ∨ x = some (.val (.list l))) : nameF i S = some (.list l, { S with loc := S.loc.set i (some (.val (.list l))) }) := by
  rcases hx with rfl | rfl
  · exact nameF_own h
  · rw [nameF_v h]
    have : S.loc.set i (some (.val (.list l))) = S.loc := by
      have hl := (List.getElem?_eq_some_iff.mp h)
      rw [<- hl.2]; exact List.set_getElem_self hl.1
    rw [this]
noncomputable abbrev SL (sc : PyData) (x1 x2 x3 x4 x5 x6 x7 x8 x9 x10 x11 x12 x13 x14 x15 x16 : Option Loc) : L :=
  [some (.val sc), x1, x2, x3, x4, x5, x6, x7, x8, x9, x10, x11, x12, x13, x14, x15, x16, none, none, none, none, none, none, none, none, none, none, none, none]
section
variable {sc CE TX TK SG : PyData} {n m off t F : Nat} {c nc : List Nat} {x1 x2 x3 x4 x5 x6 x7 x8 x9 x10 x11 x12 x13 x14 x15 x16 : Option Loc}
theorem law5 {a b : Int} (hn : n ≤ 5) (hm : m ≤ 4) {Sx : L} (h1 : Sx[1]? = some (some (.val (.list [.int a, .int b])))) (h2 : Sx[2]? = some (some (.val (.int (n : Int))))) (h3 : Sx[3]? = some (some (.val (.int (m : Int))))) :
    ∃ c : List Nat, c.length = n ∧ (∀ x ∈ c, x ≤ m) ∧ t_law_5 Sx = some (.next, setL Sx 7 (.own (numsD c))) := by
  refine ⟨(List.range n).map fun i => ((b.fdiv (((m + 1) ^ i : Nat) : Int)).fmod ((m + 1 : Nat) : Int)).toNat, by simp, fun x hx => ?_, ?_⟩
  · obtain ⟨i, _, rfl⟩ := List.mem_map.mp hx
    obtain ⟨r, hr, e⟩ := fmod_pos (b.fdiv (((m + 1) ^ i : Nat) : Int)) (k := m + 1) (by lia)
    rw [e, Int.toNat_natCast]; grind
  · have hc := compF_map (nn := 4) (i := 1) (f := bin2 modD (bin2 fdivD (bin2 itemD (nameF 1) (cI 1)) (bin2 powD (bin2 addD (nameF 3) (cI 1)) (cmpF 1))) (bin2 addD (nameF 3) (cI 1))) (S := ⟨Sx, []⟩)
      (fun d => match d with | .int i => .int ((((b.fdiv (((m + 1) ^ i.toNat : Nat) : Int)).fmod ((m + 1 : Nat) : Int)).toNat : Nat) : Int) | d => d)
      (rngF_v (g := consL (nameF 2) nilL) (S1 := ⟨Sx, []⟩) (x := 0) (y := (n : Int)) (one_v (nameF_v h2)) rfl ⟨by decide, by decide, by lia, by omega⟩) (by rw [upFrom_len]; lia)
      (fun d hd cm hcm => by
        rw [upFrom_map] at hd
        obtain ⟨i, hi, rfl⟩ := List.mem_map.mp hd
        have hi := List.mem_range.mp hi
        obtain ⟨r, hr, e⟩ := fmod_pos (b.fdiv (((m + 1) ^ i : Nat) : Int)) (k := m + 1) (by lia)
        have hp : (m + 1) ^ i < 1000000 := Nat.lt_of_le_of_lt (Nat.le_trans (Nat.pow_le_pow_left (show m + 1 ≤ 5 by lia) i) (Nat.pow_le_pow_right (by decide) (show i ≤ 5 by lia))) (by decide)
        have hq : (0 : Int) + (i : Int) = (i : Int) := by lia
        rw [hq]
        simp only [Int.toNat_natCast]
        rw [e, Int.toNat_natCast]
        have hadd : ∀ St : List (Option PyData), bin2 addD (nameF 3) (cI 1) ⟨Sx, St⟩ = some (.int ((m + 1 : Nat) : Int), ⟨Sx, St⟩) := fun St => bin2_v (nameF_v h3) rfl (addD_nat (b := 1))
        refine bin2_v (bin2_v (bin2_v (nameF_v h1) (show cI 1 _ = some (.int ((1 : Nat) : Int), _) from rfl) ((itemD_nat (by decide)).trans rfl)) (bin2_v (hadd _) (cmpF_v hcm (by decide)) (powD_nat (by lia) (by lia))) (fdivD_pos b (Nat.pow_pos (by lia)) hp)) (hadd _) ?_
        show (if ((m + 1 : Nat) : Int) ≠ 0 then some (PyData.int ((b.fdiv (((m + 1) ^ i : Nat) : Int)).fmod ((m + 1 : Nat) : Int))) else none) = _
        rw [if_pos (by omega), e])
    refine (asgO_v (i := 7) hc).trans ?_
    rw [upFrom_map, List.map_map]
    congr 4
    unfold numsD
    rw [List.map_map, Int.sub_zero, Int.toNat_natCast]
    refine List.map_congr_left fun i hi => ?_
    simp only [Function.comp_def]
    rw [show (0 : Int) + (i : Int) = (i : Int) by omega, Int.toNat_natCast]
theorem law68 (G : Game n m c nc) (ht : t ≤ 2) (hF : F ≤ 3) :
    ∃ x7', (seqF t_law_6 (seqF t_law_8 nextF)) (SL sc x1 (some (.val (.int (n : Int)))) (some (.val (.int (m : Int)))) (some (.val (.str (sOf nc)))) (some (.val (.str (sOf (blanks t))))) (some (.val (.int (F : Int)))) (some (.own (numsD c))) none none none none none none none none none) =
      some (.next, SL sc x1 (some (.val (.int (n : Int)))) (some (.val (.int (m : Int)))) (some (.val (.str (sOf nc)))) (some (.val (.str (sOf (blanks t))))) (some (.val (.int (F : Int)))) (some (.val (.list (numsD c))))
        (some (.val (.list (textsT (sOf (blanks t)) (round (m + 1) c) (nc.reverse.map nmOf))))) (some (.val (.list (takensT (sOf (blanks t)) (round (m + 1) c) (nc.reverse.map nmOf))))) x7' none none none none none none) := by
  have N := namesOk G.code (by rw [G.nl]; have := G.hm; lia)
  have hlen : (nc.map nmOf).length = m := by rw [List.length_map, G.nl]
  have h0 : 0 < c.length := by rw [G.cl]; have := G.hn; lia
  have h5 : c.length ≤ 5 := by rw [G.cl]; have := G.hn; lia
  have hc : ∀ x ∈ c, x ≤ (nc.map nmOf).length := by rw [hlen]; exact G.cm
  have htl : (sOf (blanks t)).length = t := by rw [sOf_len, blanks_len]
  have hne : nc.map nmOf ≠ [] := fun q => by rw [q] at hlen; have := G.hm; simp at hlen; lia
  have p := pile_v (nm := sOf nc) (tail := sOf (blanks t)) (F := (F : Int)) N hne (by rw [htl]; exact ht) h0 h5 hc ⟨by lia, by lia⟩
  have o := order_v (nm := sOf nc) (tail := sOf (blanks t)) N (by rw [htl]; exact ht) h0 h5 hc
  rw [hlen, htl, <- List.map_reverse] at p
  rw [hlen, <- List.map_reverse] at o
  have hsm : ∀ y ∈ nc.reverse.map nmOf, ∃ x, x < 1114112 ∧ y = nmOf x := fun y hy => by
    obtain ⟨x, hx, rfl⟩ := List.mem_map.mp hy
    exact ⟨x, (code_small (G.code x (List.mem_reverse.mp hx))).1, rfl⟩
  have f1 : Flat 1 (.list (textsT (sOf (blanks t)) (round (m + 1) c) (nc.reverse.map nmOf))) := by
    rw [texts_eq]
    refine Flat.list fun d hd => ?_
    obtain ⟨row, hr, rfl⟩ := List.mem_map.mp hd
    exact textD_flat fun x hx => (code_small (G.code x (List.mem_reverse.mp (ordT_mem _ _ row hr x (List.mem_reverse.mp hx))))).1
  have f2 : Flat 3 (.list (takensT (sOf (blanks t)) (round (m + 1) c) (nc.reverse.map nmOf))) := Flat.list fun d hd => takens_flat _ _ hsm d hd
  generalize textsT (sOf (blanks t)) (round (m + 1) c) (nc.reverse.map nmOf) = TX at p o f1 ⊢
  generalize takensT (sOf (blanks t)) (round (m + 1) c) (nc.reverse.map nmOf) = TK at p o f2 ⊢
  have f3 : Flat 4 (.tuple [.list TX, .list TK]) := Flat.tuple fun d hd => by
    rcases List.mem_cons.mp hd with rfl | hd
    · exact f1.mono (by decide)
    · rw [List.mem_singleton.mp hd]; exact f2
  have e6 := tupD_v (is := [8, 9, 10]) (f := callF o_pile (consL (nameF 7) (consL (nameF 4) (consL (nameF 5) (consL (nameF 6) nilL)))))
    (S := SL sc x1 (some (.val (.int (n : Int)))) (some (.val (.int (m : Int)))) (some (.val (.str (sOf nc)))) (some (.val (.str (sOf (blanks t))))) (some (.val (.int (F : Int)))) (some (.own (numsD c))) none none none none none none none none none)
    (callF_v (consL_v (nameF_own (i := 7) rfl) (consL_v (nameF_v (i := 4) rfl) (consL_v (nameF_v (i := 5) rfl) (one_v (nameF_v (i := 6) rfl))))) p) rfl
  refine ⟨some (.val (.int ((F : Int) + (m : Int) * ((t : Int) + 1)))), ?_⟩
  unfold seqF
  rw [show t_law_6 _ = _ from e6]
  show (seqF t_law_8 nextF) (SL sc x1 (some (.val (.int (n : Int)))) (some (.val (.int (m : Int)))) (some (.val (.str (sOf nc)))) (some (.val (.str (sOf (blanks t))))) (some (.val (.int (F : Int)))) (some (.val (.list (numsD c)))) (some (.val (.list TX))) (some (.val (.list TK))) (some (.val (.int ((F : Int) + (m : Int) * ((t : Int) + 1))))) none none none none none none) = _
  rw [seqF_next (S' := SL sc x1 (some (.val (.int (n : Int)))) (some (.val (.int (m : Int)))) (some (.val (.str (sOf nc)))) (some (.val (.str (sOf (blanks t))))) (some (.val (.int (F : Int)))) (some (.val (.list (numsD c)))) (some (.val (.list TX))) (some (.val (.list TK))) (some (.val (.int ((F : Int) + (m : Int) * ((t : Int) + 1))))) none none none none none none)]
  · rfl
  · refine condF_f (S1 := ⟨SL sc x1 (some (.val (.int (n : Int)))) (some (.val (.int (m : Int)))) (some (.val (.str (sOf nc)))) (some (.val (.str (sOf (blanks t))))) (some (.val (.int (F : Int)))) (some (.val (.list (numsD c)))) (some (.val (.list TX))) (some (.val (.list TK))) (some (.val (.int ((F : Int) + (m : Int) * ((t : Int) + 1))))) none none none none none none, []⟩) (orF_f (S1 := ⟨SL sc x1 (some (.val (.int (n : Int)))) (some (.val (.int (m : Int)))) (some (.val (.str (sOf nc)))) (some (.val (.str (sOf (blanks t))))) (some (.val (.int (F : Int)))) (some (.val (.list (numsD c)))) (some (.val (.list TX))) (some (.val (.list TK))) (some (.val (.int ((F : Int) + (m : Int) * ((t : Int) + 1))))) none none none none none none, []⟩) (tstF_v (bin2_v (tupF_v (consL_v (nameF_v (i := 8) rfl) (one_v (nameF_v (i := 9) rfl))) (by simp)) (callF_v (consL_v (nameF_v (i := 7) rfl) (consL_v (nameF_v (i := 4) rfl) (one_v (nameF_v (i := 5) rfl)))) o) (neD_self (f3.shaped (by decide)))) rfl) ?_) rfl
    have hl : callF lenD (consL (nameF 5) nilL) ⟨SL sc x1 (some (.val (.int (n : Int)))) (some (.val (.int (m : Int)))) (some (.val (.str (sOf nc)))) (some (.val (.str (sOf (blanks t))))) (some (.val (.int (F : Int)))) (some (.val (.list (numsD c)))) (some (.val (.list TX))) (some (.val (.list TK))) (some (.val (.int ((F : Int) + (m : Int) * ((t : Int) + 1))))) none none none none none none, []⟩ = some (.int (t : Int), _) :=
      callF_v (one_v (nameF_v (i := 5) rfl)) ((lenD_str (by rw [htl]; lia)).trans (by rw [htl]))
    refine tstF_v (bin2_v (nameF_v (i := 10) rfl) (bin2_v (nameF_v (i := 6) rfl) (bin2_v (nameF_v (i := 3) rfl) (bin2_v (show cI 1 _ = some (.int ((1 : Nat) : Int), _) from rfl) hl addD_nat) (mulD_nat (by lia))) addD_nat) neD_int) ?_
    have : (F : Int) + (m : Int) * ((t : Int) + 1) = ((F + m * (1 + t) : Nat) : Int) := by push_cast; rw [Int.add_comm (1 : Int) (t : Int)]
    rw [this]
    simp [truthD]
end
section
variable {n m off t F : Nat} {c nc : List Nat}
theorem law9 {Sx : L} (hcd : ∀ x ∈ nc, x ∈ codes) (hl : (round (m + 1) c).length ≤ 100) (h9 : Sx[9]? = some (some (.val (.list (takensT (sOf (blanks t)) (round (m + 1) c) (nc.reverse.map nmOf)))))) :
    t_law_9 Sx = some (.next, setL Sx 11 (.own (landD (landG m c nc)))) := by
  have hsm : ∀ y ∈ nc.reverse.map nmOf, ∃ x, x < 1114112 ∧ y = nmOf x := fun y hy => by
    obtain ⟨x, hx, rfl⟩ := List.mem_map.mp hy
    exact ⟨x, (code_small (hcd x (List.mem_reverse.mp hx))).1, rfl⟩
  have hfl := takens_flat (t := t) (round (m + 1) c) (nc.reverse.map nmOf) hsm
  have hsh := taken_shape (sOf (blanks t)) (round (m + 1) c) (nc.reverse.map nmOf)
  have hle := landed_eq (sOf (blanks t)) (round (m + 1) c) nc.reverse
  have hln := takens_length (sOf (blanks t)) (round (m + 1) c) (nc.reverse.map nmOf)
  generalize takensT (sOf (blanks t)) (round (m + 1) c) (nc.reverse.map nmOf) = TK at *
  have hc := compF_map (nn := 2) (i := 1) (f := ifF (tstF (bin2 neD (cmpF 1) (ofO (lstF nilL)))) (bin2 itemD (bin2 itemD (cmpF 1) (cI 0)) (cI 1)) (cS "")) (S := ⟨Sx, []⟩) firstD
    (itF_v (l := TK) (nameF_v h9) rfl) (by rw [hln]; lia) (fun d hd cm hcm => by
      obtain ⟨l, rfl⟩ := hsh d hd
      have hn := neD_nil (hfl _ hd)
      have hv : ∀ S : St, ofO (lstF nilL) S = some (.list [], S) := fun S => ofO_v (lstF_v nilL_v (by simp))
      cases l with
      | nil => exact ifF_f (tstF_v (bin2_v (cmpF_v hcm (by decide)) (hv _) hn) rfl) (show some (PyData.str (Str.ofString ""), _) = _ by rw [em_eq]; rfl)
      | cons y l => exact ifF_t (tstF_v (bin2_v (cmpF_v hcm (by decide)) (hv _) hn) rfl) (bin2_v (bin2_v (cmpF_v hcm (by decide)) (show cI 0 _ = some (.int ((0 : Nat) : Int), _) from rfl) ((itemD_nat (by decide)).trans rfl)) (show cI 1 _ = some (.int ((1 : Nat) : Int), _) from rfl) ((itemD_tup (by decide)).trans rfl)))
  refine (asgO_v (i := 11) hc).trans ?_
  rw [hle]; rfl
theorem law10 {Sx : L} : t_law_10 Sx = some (.next, setL Sx 12 (.val (.list (signsV.map .str)))) :=
  asgF_v (i := 12) (S1 := ⟨Sx, []⟩) (methF_v (S1 := ⟨Sx, []⟩) (a := .str (Str.ofString "( ) [ ] : , ; + - * / | & < > = . % { } ==")) rfl rfl (one_v (a := .str (Str.ofString " ")) (S1 := ⟨Sx, []⟩) rfl) (splitD_v (by decide +kernel) (by decide +kernel)))
theorem law11 {Sx : L} (G : Game n m c nc) (h11 : Sx[11]? = some (some (.own (landD (landG m c nc))))) (h2 : Sx[2]? = some (some (.val (.int (n : Int))))) (h12 : Sx[12]? = some (some (.val (.list (signsV.map .str))))) :
    t_law_11 Sx = some (.next, setL (Sx.set 11 (some (.val (.list (landD (landG m c nc)))))) 13 (.own (numsD (hsG c)))) := by
  have F := G.facts
  have hg : (landG m c nc).length ≤ 25 := by
    unfold landG; rw [landT_length, round_length, G.cl]
    have : (m + 1) * n ≤ 5 * 5 := Nat.mul_le_mul (by have := G.hm; lia) (by have := G.hn; lia)
    exact this
  have hs : ∀ x, some x ∈ landG m c nc -> x < 1114112 := fun x hx => by
    have hx : ∃ j : Nat, nc.reverse[j]? = some x := by
      have key : ∀ (cs r : List Nat), some x ∈ landT cs r -> x ∈ r := by
        intro cs
        induction cs with
        | nil => intro r h; simp [landT] at h
        | cons c cs ih =>
          intro r h
          rcases List.mem_cons.mp h with h | h
          · split at h
            · cases h
            · exact List.mem_of_head? h.symm
          · exact (stepT_perm c r).mem_iff.mp (ih _ h)
      exact List.mem_iff_getElem?.mp (key (round (m + 1) c) nc.reverse hx)
    obtain ⟨j, hj⟩ := hx
    exact (code_small (G.code x (List.mem_reverse.mp (List.mem_of_getElem? hj)))).1
  have hv := heights_v (land := landG m c nc) (hs := hsG c) hs (by lia) (fun j h hj => G.ht j h hj) (by rw [F.hl]; have := G.hn; lia)
  rw [F.hl] at hv
  have hne : (11 : Nat) ≠ 2 := by decide
  have h2' : (Sx.set 11 (some (.val (.list (landD (landG m c nc))))))[2]? = some (some (.val (.int (n : Int)))) := by rw [List.getElem?_set_ne hne]; exact h2
  have h12' : (Sx.set 11 (some (.val (.list (landD (landG m c nc))))))[12]? = some (some (.val (.list (signsV.map .str)))) := by rw [List.getElem?_set_ne (by decide)]; exact h12
  have hc := compF_map (nn := 4) (i := 1) (f := bin2 subD (tabF tokTab (bin2 itemD (nameF 12) (cmpF 1))) (cI 7)) (S := ⟨Sx, []⟩) (fun d => d)
    (itF_v (callF_v (consL_v (nameF_own h11) (one_v (nameF_v h2'))) hv) (l := numsD (hsG c)) rfl) (by rw [numsD_len, F.hl]; have := G.hn; lia) (fun d hd cm hcm => by
      obtain ⟨h, hh, rfl⟩ := List.mem_map.mp hd
      have h20 := F.h20 h hh
      obtain ⟨x, e1, e2⟩ := signs_get h20
      refine bin2_v (tabF_v (bin2_v (nameF_v h12') (cmpF_v hcm (by decide)) ((itemD_nat (by lia)).trans e1)) e2) (show cI 7 _ = some (.int 7, _) from rfl) ?_
      show some (PyData.int (7 + (h : Int) - 7)) = _
      rw [show (7 : Int) + (h : Int) - 7 = (h : Int) by omega])
  rw [List.map_id'] at hc
  exact asgO_v (i := 13) hc
theorem law13 {Sx : L} (G : Game n m c nc) (h13 : Sx[13]? = some (some (.own (numsD (hsG c))))) (h2 : Sx[2]? = some (some (.val (.int (n : Int))))) (h3 : Sx[3]? = some (some (.val (.int (m : Int))))) (h7 : Sx[7]? = some (some (.val (.list (numsD c))))) :
    t_law_13 Sx = some (.next, Sx.set 13 (some (.val (.list (numsD (hsG c)))))) := by
  have F := G.facts
  have hn := G.hn
  have hm := G.hm
  have g13 : (Sx.set 13 (some (.val (.list (numsD (hsG c))))))[13]? = some (some (.val (.list (numsD (hsG c))))) := by rw [List.getElem?_set_self (List.getElem?_eq_some_iff.mp h13).1]
  have g2 : (Sx.set 13 (some (.val (.list (numsD (hsG c))))))[2]? = some (some (.val (.int (n : Int)))) := by rw [List.getElem?_set_ne (by decide)]; exact h2
  have g3 : (Sx.set 13 (some (.val (.list (numsD (hsG c))))))[3]? = some (some (.val (.int (m : Int)))) := by rw [List.getElem?_set_ne (by decide)]; exact h3
  have g7 : (Sx.set 13 (some (.val (.list (numsD (hsG c))))))[7]? = some (some (.val (.list (numsD c)))) := by rw [List.getElem?_set_ne (by decide)]; exact h7
  have hne : c ≠ [] := fun q => by have := G.cl; rw [q] at this; simp at this; lia
  have hcv := cards_v (hs := hsG c) (m := m) (by rw [F.hl]; lia) (by rw [F.hl]; lia) (by lia) (fun g hg => Nat.le_trans (F.h20 g hg) (by decide))
  rw [<- cards_eq (n := n) F.hl (by lia)] at hcv
  have hcs : cardsBk m (n * m) (hsG c) [] = c := all_cards hn hm G.cl G.cm
  rw [hcs] at hcv
  refine condF_f (S1 := ⟨Sx.set 13 (some (.val (.list (numsD (hsG c))))), []⟩) (orF_f (S1 := ⟨Sx.set 13 (some (.val (.list (numsD (hsG c))))), []⟩) (tstF_v (bin2_v (callF_v (one_v (nameF_own h13)) (sumD_v (fun x hx => Nat.le_trans (F.h20 x hx) (by decide)) (by rw [F.hl]; lia))) (bin2_v (nameF_v g2) (callF_v (one_v (nameF_v g7)) (maxD_v hne)) (mulD_nat (by have := F.M; lia))) neD_int) ?_) (tstF_v (bin2_v (callF_v (consL_v (nameF_v g13) (one_v (nameF_v g3))) hcv) (nameF_v g7) (neD_self ((numsD_flat c).shaped (by decide)))) rfl)) rfl
  rw [F.P.sum]
  simp [truthD]
theorem fallsN (hl : (hsG c).length = n) (hn : 0 < n) {i h : Nat} (hi : i < 2 * n) (hh : (hsG c)[i % n]? = some h) : (falls (hsG c ++ hsG c) 0)[i]? = some (i + h) := by
  rw [falls_get]
  have : (hsG c ++ hsG c)[i]? = some h := by
    rcases Nat.lt_or_ge i n with q | q
    · rw [List.getElem?_append_left (by lia)]; rwa [Nat.mod_eq_of_lt q] at hh
    · rw [List.getElem?_append_right (by lia), hl]
      rw [Nat.mod_eq_sub_mod q, Nat.mod_eq_of_lt (by omega)] at hh; exact hh
  rw [this]; simp
theorem law14 {Sx : L} (G : Game n m c nc) (h13 : Sx[13]? = some (some (.val (.list (numsD (hsG c)))))) (h2 : Sx[2]? = some (some (.val (.int (n : Int))))) :
    t_law_14 Sx = some (.next, setL Sx 14 (.own (numsD (falls (hsG c ++ hsG c) 0)))) := by
  have F := G.facts
  have hn := G.hn
  have hc := compF_map (nn := 4) (i := 1) (f := bin2 addD (cmpF 1) (bin2 itemD (nameF 13) (bin2 modD (cmpF 1) (nameF 2)))) (S := ⟨Sx, []⟩)
    (fun d => match d with | .int i => .int ((i.toNat + (hsG c).getD (i.toNat % n) 0 : Nat) : Int) | d => d)
    (rngF_v (g := consL (bin2 mulD (cI 2) (nameF 2)) nilL) (S1 := ⟨Sx, []⟩) (x := 0) (y := ((2 * n : Nat) : Int)) (one_v (bin2_v (show cI 2 _ = some (.int ((2 : Nat) : Int), _) from rfl) (nameF_v h2) (mulD_nat (by lia)))) rfl ⟨by decide, by decide, by omega, by lia⟩) (by rw [upFrom_len]; lia)
    (fun d hd cm hcm => by
      rw [upFrom_map] at hd
      obtain ⟨i, hi, rfl⟩ := List.mem_map.mp hd
      rw [show (0 : Int) + (i : Int) = (i : Int) by lia]
      simp only [Int.toNat_natCast]
      have hlt : i % n < n := Nat.mod_lt _ (by lia)
      obtain ⟨h, hh⟩ : ∃ h, (hsG c)[i % n]? = some h := ⟨_, List.getElem?_eq_getElem (by rw [F.hl]; exact hlt)⟩
      have hg : (hsG c).getD (i % n) 0 = h := by simp [List.getD_eq_getElem?_getD, hh]
      rw [hg]
      exact bin2_v (cmpF_v hcm (by decide)) (bin2_v (nameF_v h13) (bin2_v (cmpF_v hcm (by decide)) (nameF_v h2) (modD_nat (by omega))) ((itemD_nat (by lia)).trans (numsD_get hh))) addD_nat)
  refine (asgO_v (i := 14) hc).trans ?_
  congr 4
  rw [upFrom_map, List.map_map, Int.sub_zero, Int.toNat_natCast]
  apply List.ext_getElem?
  intro i
  rw [List.getElem?_map]
  rcases Nat.lt_or_ge i (2 * n) with q | q
  · rw [List.getElem?_range q]
    simp only [Option.map_some, Function.comp_def]
    rw [show (0 : Int) + (i : Int) = (i : Int) by lia, Int.toNat_natCast]
    have hlt : i % n < n := Nat.mod_lt _ (by lia)
    obtain ⟨h, hh⟩ : ∃ h, (hsG c)[i % n]? = some h := ⟨_, List.getElem?_eq_getElem (by rw [F.hl]; exact hlt)⟩
    have hg : (hsG c).getD (i % n) 0 = h := by simp [List.getD_eq_getElem?_getD, hh]
    rw [hg, numsD_get (fallsN F.hl (by lia) q hh)]
  · rw [List.getElem?_eq_none (by simp; omega), List.getElem?_eq_none (by rw [numsD_len, falls_length, List.length_append, F.hl]; lia)]; rfl
end
section
variable {n m off t F : Nat} {c nc : List Nat} {sc : PyData} {x1 x3 x4 x5 x6 x7 x8 x9 x10 x11 x12 x13 : Option Loc}
noncomputable def is14 (x : Option Loc) (l : List PyData) : Prop := x = some (.own l) ∨ x = some (.val (.list l))
theorem falls_inj (G : Game n m c nc) {i j : Nat} {a : Nat} (hi : (falls (hsG c ++ hsG c) 0)[i]? = some a) (hj : (falls (hsG c ++ hsG c) 0)[j]? = some a) : i = j :=
  (List.getElem?_inj (List.getElem?_eq_some_iff.mp hi).1 G.facts.P.nod).mp (hi.trans hj.symm)
theorem law16 (G : Game n m c nc) {i j : Nat} (hi : i < 2 * n) (hj : j < 2 * n) {x14 : Option Loc} (h14 : is14 x14 (numsD (falls (hsG c ++ hsG c) 0))) :
    t_law_16 (SL sc x1 (some (.val (.int (n : Int)))) x3 x4 x5 x6 x7 x8 x9 x10 x11 x12 x13 x14 (some (.val (.int (i : Int)))) (some (.val (.int (j : Int))))) =
      some (.next, SL sc x1 (some (.val (.int (n : Int)))) x3 x4 x5 x6 x7 x8 x9 x10 x11 x12 x13 (some (.val (.list (numsD (falls (hsG c ++ hsG c) 0))))) (some (.val (.int (i : Int)))) (some (.val (.int (j : Int))))) := by
  have F := G.facts
  have hn := G.hn
  have hlen : (falls (hsG c ++ hsG c) 0).length = 2 * n := by rw [falls_length, List.length_append, F.hl]; lia
  obtain ⟨a, ha⟩ : ∃ a, (falls (hsG c ++ hsG c) 0)[i]? = some a := ⟨_, List.getElem?_eq_getElem (by lia)⟩
  obtain ⟨b, hb⟩ : ∃ b, (falls (hsG c ++ hsG c) 0)[j]? = some b := ⟨_, List.getElem?_eq_getElem (by lia)⟩
  have hab : a = b ↔ i = j := ⟨fun q => falls_inj G ha (by rw [hb, q]), fun q => by rw [q] at ha; exact Option.some.inj (ha.symm.trans hb)⟩
  generalize falls (hsG c ++ hsG c) 0 = LD at *
  have hnm := isL_name (i := 14) (S := ⟨SL sc x1 (some (.val (.int (n : Int)))) x3 x4 x5 x6 x7 x8 x9 x10 x11 x12 x13 x14 (some (.val (.int (i : Int)))) (some (.val (.int (j : Int)))), []⟩) rfl h14
  refine condF_f (S1 := ⟨SL sc x1 (some (.val (.int (n : Int)))) x3 x4 x5 x6 x7 x8 x9 x10 x11 x12 x13 (some (.val (.list (numsD LD)))) (some (.val (.int (i : Int)))) (some (.val (.int (j : Int)))), []⟩)
    (tstF_v (bin2_v (callF_v (one_v (bin2_v (bin2_v hnm (nameF_v (i := 15) rfl) ((itemD_nat (by lia)).trans (numsD_get ha))) (bin2_v (nameF_v (i := 14) rfl) (nameF_v (i := 16) rfl) ((itemD_nat (by lia)).trans (numsD_get hb))) subD_int)) (iseof_v _)) (bin2_v (nameF_v (i := 15) rfl) (nameF_v (i := 16) rfl) eqD_int) (show isNotD (.bool _) (.bool _) = some (.bool _) from rfl)) ?_) rfl
  show some _ = some false
  congr 1
  by_cases q : i = j
  · have := hab.mpr q; subst q; subst this; simp
  · have h1 : ¬ a = b := fun z => q (hab.mp z)
    have h2 : ((a : Int) - (b : Int) == 0) = false := by simp; lia
    have h3 : ((i : Int) == (j : Int)) = false := by simp; lia
    rw [h2, h3]; rfl
theorem law17 (G : Game n m c nc) {i : Nat} (hi : i < 2 * n) : ∀ (k j : Nat) (x14 x16 : Option Loc), j + k = 2 * n -> is14 x14 (numsD (falls (hsG c ++ hsG c) 0)) ->
    ∃ x14' x16', is14 x14' (numsD (falls (hsG c ++ hsG c) 0)) ∧ forL (tgtN 16) (seqF t_law_16 nextF) (upFrom (j : Int) k) (SL sc x1 (some (.val (.int (n : Int)))) x3 x4 x5 x6 x7 x8 x9 x10 x11 x12 x13 x14 (some (.val (.int (i : Int)))) x16) =
      some (.next, SL sc x1 (some (.val (.int (n : Int)))) x3 x4 x5 x6 x7 x8 x9 x10 x11 x12 x13 x14' (some (.val (.int (i : Int)))) x16')
  | 0, j, x14, x16, _, h => ⟨x14, x16, h, rfl⟩
  | k + 1, j, x14, x16, hk, h => by
    obtain ⟨x14', x16', h', e⟩ := law17 G hi k (j + 1) (some (.val (.list (numsD (falls (hsG c ++ hsG c) 0))))) (some (.val (.int (j : Int)))) (by lia) (.inr rfl)
    refine ⟨x14', x16', h', ?_⟩
    rw [upFrom, forL_step (S1 := SL sc x1 (some (.val (.int (n : Int)))) x3 x4 x5 x6 x7 x8 x9 x10 x11 x12 x13 x14 (some (.val (.int (i : Int)))) (some (.val (.int (j : Int))))) rfl (by rw [seqF_next (law16 G hi (by lia) h)]; rfl)]
    exact e
theorem rng2n (hn : n ≤ 5) {S : L} (h2 : S[2]? = some (some (.val (.int (n : Int))))) : rngF (consL (bin2 mulD (cI 2) (nameF 2)) nilL) ⟨S, []⟩ = some (upFrom ((0 : Nat) : Int) (2 * n), ⟨S, []⟩) := by
  have := rngF_v (g := consL (bin2 mulD (cI 2) (nameF 2)) nilL) (S := ⟨S, []⟩) (S1 := ⟨S, []⟩) (x := 0) (y := ((2 * n : Nat) : Int)) (one_v (bin2_v (show cI 2 _ = some (.int ((2 : Nat) : Int), _) from rfl) (nameF_v h2) (mulD_nat (by lia)))) rfl ⟨by decide, by decide, by lia, by omega⟩
  rw [this, Int.sub_zero, Int.toNat_natCast]; rfl
theorem law18 (G : Game n m c nc) : ∀ (k i : Nat) (x14 x15 x16 : Option Loc), i + k = 2 * n -> is14 x14 (numsD (falls (hsG c ++ hsG c) 0)) ->
    ∃ x14' x15' x16', forL (tgtN 15) (seqF t_law_17 nextF) (upFrom (i : Int) k) (SL sc x1 (some (.val (.int (n : Int)))) x3 x4 x5 x6 x7 x8 x9 x10 x11 x12 x13 x14 x15 x16) =
      some (.next, SL sc x1 (some (.val (.int (n : Int)))) x3 x4 x5 x6 x7 x8 x9 x10 x11 x12 x13 x14' x15' x16')
  | 0, i, x14, x15, x16, _, h => ⟨x14, x15, x16, rfl⟩
  | k + 1, i, x14, x15, x16, hk, h => by
    obtain ⟨y14, y16, h1, e1⟩ := law17 (sc := sc) (x1 := x1) (x3 := x3) (x4 := x4) (x5 := x5) (x6 := x6) (x7 := x7) (x8 := x8) (x9 := x9) (x10 := x10) (x11 := x11) (x12 := x12) (x13 := x13) G (i := i) (by lia) (2 * n) 0 x14 x16 (by lia) h
    obtain ⟨x14', x15', x16', e⟩ := law18 G k (i + 1) y14 (some (.val (.int (i : Int)))) y16 (by lia) h1
    refine ⟨x14', x15', x16', ?_⟩
    have e17 : t_law_17 (SL sc x1 (some (.val (.int (n : Int)))) x3 x4 x5 x6 x7 x8 x9 x10 x11 x12 x13 x14 (some (.val (.int (i : Int)))) x16) = some (.next, SL sc x1 (some (.val (.int (n : Int)))) x3 x4 x5 x6 x7 x8 x9 x10 x11 x12 x13 y14 (some (.val (.int (i : Int)))) y16) :=
      forF_v (rng2n (by have := G.hn; lia) rfl) e1
    rw [upFrom, forL_step (S1 := SL sc x1 (some (.val (.int (n : Int)))) x3 x4 x5 x6 x7 x8 x9 x10 x11 x12 x13 x14 (some (.val (.int (i : Int)))) x16) rfl (by rw [seqF_next e17]; rfl)]
    exact e
theorem law_end (G : Game n m c nc) (ht : t ≤ 2) (hF : F ≤ 3) (hnm : o_lnames [.str (sOf nc)] = some (.bool true)) :
    ∃ S', (seqF t_law_6 (seqF t_law_8 (seqF t_law_9 (seqF t_law_10 (seqF t_law_11 (seqF t_law_13 (seqF t_law_14 (seqF t_law_18 (seqF t_law_19 nextF))))))))) (SL sc x1 (some (.val (.int (n : Int)))) (some (.val (.int (m : Int)))) (some (.val (.str (sOf nc)))) (some (.val (.str (sOf (blanks t))))) (some (.val (.int (F : Int)))) (some (.own (numsD c))) none none none none none none none none none) =
      some (.ret (.bool true), S') := by
  have FF := G.facts
  have hn := G.hn
  have hm := G.hm
  obtain ⟨x10, e68⟩ := law68 (sc := sc) (x1 := x1) (t := t) (F := F) G ht hF
  have assoc : ∀ (f g h : L -> Option (Fl × L)) (S S' : L), (seqF f (seqF g nextF)) S = some (.next, S') -> (seqF f (seqF g h)) S = h S' := fun f g h S S' e => by
    unfold seqF at e ⊢
    cases e1 : f S with
    | none => rw [e1] at e; cases e
    | some p =>
      obtain ⟨fl, S1⟩ := p
      rw [e1] at e
      cases fl with
      | ret d => cases e
      | next =>
        simp only [Option.bind_some] at e ⊢
        cases e2 : g S1 with
        | none => rw [e2] at e; cases e
        | some p =>
          obtain ⟨fl, S2⟩ := p
          rw [e2] at e
          cases fl with
          | ret d => cases e
          | next => cases e; rfl
  rw [assoc _ _ _ _ _ e68]
  have hround : (round (m + 1) c).length ≤ 100 := by
    rw [round_length, G.cl]
    have : (m + 1) * n ≤ 5 * 5 := Nat.mul_le_mul (by lia) (by lia)
    grind
  rw [seqF_next (law9 (c := c) (m := m) (nc := nc) (t := t) G.code hround rfl)]
  rw [seqF_next law10, seqF_next (law11 G rfl rfl rfl), seqF_next (law13 G rfl rfl rfl rfl), seqF_next (law14 G rfl rfl)]
  obtain ⟨x14', x15', x16', e18⟩ := law18 (sc := sc) (x1 := x1) (x3 := some (.val (.int (m : Int)))) (x4 := some (.val (.str (sOf nc)))) (x5 := some (.val (.str (sOf (blanks t))))) (x6 := some (.val (.int (F : Int)))) (x7 := some (.val (.list (numsD c))))
    (x8 := some (.val (.list (textsT (sOf (blanks t)) (round (m + 1) c) (nc.reverse.map nmOf))))) (x9 := some (.val (.list (takensT (sOf (blanks t)) (round (m + 1) c) (nc.reverse.map nmOf))))) (x10 := x10) (x11 := some (.val (.list (landD (landG m c nc))))) (x12 := some (.val (.list (signsV.map .str)))) (x13 := some (.val (.list (numsD (hsG c)))))
    G (2 * n) 0 (some (.own (numsD (falls (hsG c ++ hsG c) 0)))) none none (by lia) (.inl rfl)
  have e18' := forF_v (S := SL sc x1 (some (.val (.int (n : Int)))) (some (.val (.int (m : Int)))) (some (.val (.str (sOf nc)))) (some (.val (.str (sOf (blanks t))))) (some (.val (.int (F : Int)))) (some (.val (.list (numsD c))))
    (some (.val (.list (textsT (sOf (blanks t)) (round (m + 1) c) (nc.reverse.map nmOf))))) (some (.val (.list (takensT (sOf (blanks t)) (round (m + 1) c) (nc.reverse.map nmOf))))) x10 (some (.val (.list (landD (landG m c nc))))) (some (.val (.list (signsV.map .str)))) (some (.val (.list (numsD (hsG c))))) (some (.own (numsD (falls (hsG c ++ hsG c) 0)))) none none) (rng2n (by lia) rfl) e18
  have e18x := seqF_next (g := seqF t_law_19 nextF) (f := t_law_18) e18'
  have hql : (qsG m c nc).length = 2 * (hsG c).length := G.qs_len
  have hlines := lines_v (t := t) (nm := sOf nc) (nc := nc) (texts := textsT (sOf (blanks t)) (round (m + 1) c) (nc.reverse.map nmOf)) (land := landG m c nc) (hs := hsG c) (qs := qsG m c nc) ht (by rw [FF.hl]; lia) (items_sOf G.code) (by rw [G.nl]; lia) G.code (by unfold landG; rw [landT_length]; exact hround) G.lines hql (fun j q hq => G.qs_get j q hq)
  refine ⟨_, e18x.trans (seqF_ret (f := t_law_19) (retF_v (andV_t (callF_v (one_v (nameF_v (i := 4) rfl)) hnm) (callF_v (consL_v (nameF_v (i := 8) rfl) (consL_v (nameF_v (i := 11) rfl) (consL_v (nameF_v (i := 13) rfl) (consL_v (nameF_v (i := 4) rfl) (one_v (nameF_v (i := 5) rfl)))))) hlines))))⟩
theorem law_true (ns : List Int) (h : ns.length ≤ 63) : o_law [.list (ns.map .int)] = some (.bool true) := by
  obtain ⟨a, b, ec⟩ := cells_v ns h
  refine fnA_v rfl ?_
  unfold m_law
  generalize PyData.list (ns.map .int) = sc at ec ⊢
  have e1 : t_law_1 (initL 29 [sc]) = some (.next, SL sc (some (.val (.list [.int a, .int b]))) none none none none none none none none none none none none none none none) :=
    asgF_v (i := 1) (callF_v (one_v (nameF_v (i := 0) (d := sc) rfl)) ec)
  rw [seqF_next e1]
  have hit0 : ∀ (S : St), S.loc[1]? = some (some (.val (.list [.int a, .int b]))) -> bin2 itemD (nameF 1) (cI 0) S = some (.int a, S) := fun S q => bin2_v (nameF_v q) (show cI 0 S = some (.int ((0 : Nat) : Int), S) from rfl) ((itemD_nat (by decide)).trans rfl)
  obtain ⟨r1, hr1, f1⟩ := modD_pos a (k := 3) (by decide)
  obtain ⟨r2, hr2, f2⟩ := modD_pos (a.fdiv 3) (k := 3) (by decide)
  have e2 : t_law_2 (SL sc (some (.val (.list [.int a, .int b]))) none none none none none none none none none none none none none none none) =
      some (.next, SL sc (some (.val (.list [.int a, .int b]))) (some (.val (.int ((3 + r1 : Nat) : Int)))) (some (.val (.int ((2 + r2 : Nat) : Int)))) none none none none none none none none none none none none none) :=
    tupL_v (is := [2, 3]) (consX_v (valX_v (bin2_v (show cI 3 _ = some (.int ((3 : Nat) : Int), _) from rfl) (bin2_v (hit0 _ rfl) (show cI 3 _ = some (.int ((3 : Nat) : Int), _) from rfl) f1) addD_nat)) (consX_v (valX_v (bin2_v (show cI 2 _ = some (.int ((2 : Nat) : Int), _) from rfl) (bin2_v (bin2_v (hit0 _ rfl) (show cI 3 _ = some (.int ((3 : Nat) : Int), _) from rfl) (fdivD_pos a (k := 3) (by decide) (by decide))) (show cI 3 _ = some (.int ((3 : Nat) : Int), _) from rfl) f2) addD_nat)) (show nilX _ = _ from rfl))) ⟨rfl, by decide⟩
  rw [seqF_next e2]
  obtain ⟨off, hoff, f3⟩ := modD_pos (a.fdiv 9) (k := 4) (by decide)
  obtain ⟨t, ht, f4⟩ := modD_pos (a.fdiv 36) (k := 3) (by decide)
  obtain ⟨F, hF, f5⟩ := modD_pos (a.fdiv 108) (k := 4) (by decide)
  have hdm : ∀ (S : St) (p k r : Nat), S.loc[1]? = some (some (.val (.list [.int a, .int b]))) -> 0 < p -> p < 1000000 -> modD (.int (a.fdiv (p : Int))) (.int (k : Int)) = some (.int (r : Int)) -> bin2 modD (bin2 fdivD (bin2 itemD (nameF 1) (cI 0)) (cI (p : Int))) (cI (k : Int)) S = some (.int (r : Int), S) := fun S p k r q h0 h1 hh =>
    bin2_v (bin2_v (hit0 S q) (show cI (p : Int) S = some (.int (p : Int), S) from rfl) (fdivD_pos a h0 h1)) (show cI (k : Int) S = some (.int (k : Int), S) from rfl) hh
  obtain ⟨nd, nl, ncd⟩ := nameC_ok (off := off) (m := 2 + r2) hoff (by lia)
  have e3 : t_law_3 (SL sc (some (.val (.list [.int a, .int b]))) (some (.val (.int ((3 + r1 : Nat) : Int)))) (some (.val (.int ((2 + r2 : Nat) : Int)))) none none none none none none none none none none none none none) =
      some (.next, SL sc (some (.val (.list [.int a, .int b]))) (some (.val (.int ((3 + r1 : Nat) : Int)))) (some (.val (.int ((2 + r2 : Nat) : Int)))) (some (.val (.str (sOf (nameC off (2 + r2)))))) none none none none none none none none none none none none) := by
    refine asgF_v (i := 4) (S1 := ⟨SL sc (some (.val (.list [.int a, .int b]))) (some (.val (.int ((3 + r1 : Nat) : Int)))) (some (.val (.int ((2 + r2 : Nat) : Int)))) none none none none none none none none none none none none none, []⟩)
      (cutF_v (S2 := ⟨SL sc (some (.val (.list [.int a, .int b]))) (some (.val (.int ((3 + r1 : Nat) : Int)))) (some (.val (.int ((2 + r2 : Nat) : Int)))) none none none none none none none none none none none none none, []⟩)
        (cutF_v (x := sOf (codes ++ codes)) (S1 := ⟨SL sc (some (.val (.list [.int a, .int b]))) (some (.val (.int ((3 + r1 : Nat) : Int)))) (some (.val (.int ((2 + r2 : Nat) : Int)))) none none none none none none none none none none none none none, []⟩) (show some (PyData.str (Str.ofString "!Aa~!Aa~"), _) = _ by rw [letters_eq]) (intP_v (hdm _ 9 4 off rfl (by decide) (by decide) f3)) (show noP _ = some (none, _) from rfl) (by rw [sOf_len]; decide) (cutS_drop (by simp [codes]; lia) (by decide)))
        (show noP _ = some (none, _) from rfl) (intP_v (nameF_v (i := 3) rfl)) (by rw [sOf_len]; simp [codes]; lia) (cutS_take (by simp [codes]; lia) (by simp [codes]; lia)))
  rw [seqF_next e3]
  have e4 : t_law_4 (SL sc (some (.val (.list [.int a, .int b]))) (some (.val (.int ((3 + r1 : Nat) : Int)))) (some (.val (.int ((2 + r2 : Nat) : Int)))) (some (.val (.str (sOf (nameC off (2 + r2)))))) none none none none none none none none none none none none) =
      some (.next, SL sc (some (.val (.list [.int a, .int b]))) (some (.val (.int ((3 + r1 : Nat) : Int)))) (some (.val (.int ((2 + r2 : Nat) : Int)))) (some (.val (.str (sOf (nameC off (2 + r2)))))) (some (.val (.str (sOf (blanks t))))) (some (.val (.int (F : Int)))) none none none none none none none none none none) :=
    tupR_v (is := [5, 6]) (consX_v (valX_v (bin2_v (show cS " " _ = some (.str (Str.ofString " "), _) from rfl) (hdm _ 36 3 t rfl (by omega) (by omega) f4) (mulD_blanks (by omega)))) (consX_v (valX_v (hdm _ 108 4 F rfl (by omega) (by omega) f5)) (show nilX _ = _ from rfl))) ⟨rfl, by decide⟩
  rw [seqF_next e4]
  obtain ⟨c, cl, cm, e5⟩ := law5 (n := 3 + r1) (m := 2 + r2) (a := a) (b := b) (Sx := SL sc (some (.val (.list [.int a, .int b]))) (some (.val (.int ((3 + r1 : Nat) : Int)))) (some (.val (.int ((2 + r2 : Nat) : Int)))) (some (.val (.str (sOf (nameC off (2 + r2)))))) (some (.val (.str (sOf (blanks t))))) (some (.val (.int (F : Int)))) none none none none none none none none none none) (by omega) (by omega) rfl rfl rfl
  rw [seqF_next e5]
  have G : Game (3 + r1) (2 + r2) c (nameC off (2 + r2)) := ⟨by omega, by omega, cl, cm, nl, nd, ncd⟩
  exact law_end G (by omega) (by omega) (names_v hoff ⟨by omega, by omega⟩)
end
noncomputable def fragOf (h : Heap) (a : Addr) : Option Obj := if a = 84 ∨ a = 91 then none else h.get? a
noncomputable def fragL (h : Heap) : Frag := (List.range 208).filterMap fun a => (fragOf h a).map fun o => (a, o)
theorem lookup_fm (f : Nat -> Option Obj) : ∀ (l : List Nat) (a : Nat), (l.filterMap fun b => (f b).map fun o => (b, o)).lookup a = if a ∈ l then f a else none
  | [], a => rfl
  | b :: l, a => by
    have ih := lookup_fm f l a
    cases e : f b with
    | none =>
      rw [List.filterMap_cons_none (by rw [e]; rfl), ih]
      by_cases h : a = b
      · subst h; simp [e]
      · simp [h]
    | some o =>
      rw [List.filterMap_cons_some (by rw [e]; rfl)]
      by_cases h : a = b
      · subst h; simp [List.lookup, e]
      · have : (a == b) = false := by simp [h]
        simp only [List.lookup, this]
        rw [ih]; simp [h]
theorem frag_get {h : Heap} {a : Addr} {o : Obj} : (fragL h).lookup a = some o ↔ a < 208 ∧ ¬ (a = 84 ∨ a = 91) ∧ h.get? a = some o := by
  unfold fragL
  rw [lookup_fm]
  unfold fragOf
  by_cases h1 : a ∈ List.range 208
  · have h1' := List.mem_range.mp h1
    rw [if_pos h1]
    by_cases h2 : a = 84 ∨ a = 91
    · simp [h2]
    · simp [h2, h1']
  · have h1' : ¬ a < 208 := fun q => h1 (List.mem_range.mpr q)
    rw [if_neg h1]; simp [h1']
noncomputable def WL (w : World) (s₀ : Shared) : Wd := { prog := PySem.Challenge.pw_yj0019_01, w := w, K := fragL s₀.heap, globs := gl, C := 122, mt := fun a => a = 84 ∨ a = 91 }
section
variable {w : World} {s₀ : Shared} {g : Heap}
theorem wl_get (ok : WOK (WL w s₀) g) {a : Addr} {o : Obj} (h1 : a < 208) (h2 : ¬ (a = 84 ∨ a = 91)) (h : s₀.heap.get? a = some o) : g.get? a = some o := ok.K a o (frag_get.mpr ⟨h1, h2, h⟩)
theorem get_map {α β : Type} {l : List α} {f f' : α -> β} (h : l.map f = l.map f') {a : α} (ha : a ∈ l) : f a = f' a := by
  induction l with
  | nil => cases ha
  | cons b l ih =>
    rw [List.map_cons, List.map_cons] at h
    rcases List.mem_cons.mp ha with rfl | ha
    · exact (List.cons.inj h).1
    · exact ih (List.cons.inj h).2 ha
theorem fldOf_spec {d : Data} {ws : Array Value} (h : fldOf d = some ws) : d = .fields ws := by cases d <;> first | (cases h; rfl) | cases h
theorem strIs_spec {q : Str} {v : Value} (h : strIs q v = true) : ∃ t, v = .str q t := by cases v <;> first | exact ⟨_, by rw [eq_of_beq h]⟩ | cases h
theorem strIn_spec {v : Value} (h : strIn v = true) : ∃ q t, v = .str q t := by cases v <;> first | exact ⟨_, _, rfl⟩ | cases h
theorem intIn_spec {v : Value} (h : intIn v = true) : ∃ q t, v = .int q t := by cases v <;> first | exact ⟨_, _, rfl⟩ | cases h
theorem boolIn_spec {v : Value} (h : boolIn v = true) : ∃ q, v = .bool q := by cases v <;> first | exact ⟨_, rfl⟩ | cases h
theorem refIs_spec {P : Addr} {v : Value} (h : refIs P v = true) : v = .ref P := by cases v <;> first | exact congrArg Value.ref (Nat.eq_of_beq_eq_true h) | cases h
theorem typeIsB_spec {n : String} {v : Value} (h : typeIsB n v = true) : v = .type n := by cases v <;> first | exact congrArg Value.type (eq_of_beq h) | cases h
theorem codeB_spec {h : Heap} {c : Addr} {q : Str} (e : codeB h c q = true) : ∃ oc ws file tf, h.get? c = some oc ∧ oc.data = .fields ws ∧ (∃ t, ws[1]? = some (.str q t)) ∧ ws[2]? = some (.str file tf) ∧ (("/claim/cut.py" : Str) == file) = true := by
  obtain ⟨ws, e1, e⟩ := (Option.any_eq_true ..).mp e
  obtain ⟨oc, e2, e3⟩ := Option.bind_eq_some_iff.mp e1
  obtain ⟨e, e'⟩ := Bool.and_eq_true_iff.mp e
  obtain ⟨v, v1, v2⟩ := (Option.any_eq_true ..).mp e
  obtain ⟨u, u1, u2⟩ := (Option.any_eq_true ..).mp e'
  obtain ⟨t, rfl⟩ := strIs_spec v2
  obtain ⟨tf, rfl⟩ := strIs_spec u2
  exact ⟨oc, ws, _, tf, e2, fldOf_spec e3, ⟨t, v1⟩, u1, beq_self_eq_true _⟩
theorem tabB_spec {h : Heap} {c P : Addr} (e : tabB h c P = true) : ∃ oc ws, h.get? c = some oc ∧ oc.data = .fields ws ∧ TabOf oc ws P := by
  obtain ⟨oc, e1, e⟩ := (Option.any_eq_true ..).mp e
  obtain ⟨k, e⟩ := Bool.and_eq_true_iff.mp e
  obtain ⟨ws, e2, e⟩ := (Option.any_eq_true ..).mp e
  obtain ⟨e, a5⟩ := Bool.and_eq_true_iff.mp e
  obtain ⟨e, a4⟩ := Bool.and_eq_true_iff.mp e
  obtain ⟨e, a3⟩ := Bool.and_eq_true_iff.mp e
  obtain ⟨a1, a2⟩ := Bool.and_eq_true_iff.mp e
  exact ⟨oc, ws, e1, fldOf_spec e2, typeIsB_spec k, refIs_spec a1, strIn_spec a2, intIn_spec a3, boolIn_spec a4, intIn_spec a5⟩
end
section
variable {w : World} {s₀ : Shared} (H : obsL s₀ = valL w)
include H
theorem H1 : (fnL.map fun p => (s₀.heap.get? p.1).map fun o => (o.cls, o.data)) = fnL.map fun p => some (.type "function", .func (docDef p.2.1.name p.2.1.params p.2.1.body p.2.1.scope p.2.2 (.ref (p.1 - 1)) .none)) := congrArg (·.1) H
theorem H2 : (meL.map fun p => (s₀.heap.get? p.1).map fun o => (o.cls, o.data)) = meL.map fun p => some (.type "function", .func p.2) := congrArg (·.2.1) H
theorem H3 : (cdL.all (fun p => codeB s₀.heap p.1 p.2) && tabB s₀.heap 88 84 && tabB s₀.heap 95 91 && s₀.heap.isNs 121 && s₀.heap.isNs mainGlobals && s₀.heap.isNs builtinsNs) = true := congrArg (·.2.2.1) H
theorem H4 : (gl.map fun p => (s₀.heap.nsMap mainGlobals p.1, s₀.heap.nsMap builtinsNs p.1)) = (gl.take 21).map (fun p => (some p.2, none)) ++ (gl.drop 21).map (fun p => (none, some p.2)) := congrArg (·.2.2.2.1) H
theorem H5 : (mnL.map fun p => s₀.heap.nsMap 121 p.1) ++ [s₀.heap.nsMap mainGlobals "__builtins__", s₀.heap.nsMap mainGlobals "law"] = mnL.map (·.2) ++ [some (.ref 4), some (.ref 207)] := congrArg (·.2.2.2.2.1) H
theorem H6 : [122, 46, 51, 84, 91, cStatics, 127, 4, 67].map s₀.heap.get? = (obL w).map fun p => some p.2 := congrArg (·.2.2.2.2.2) H
theorem code_at {p : Addr × Str} (hp : p ∈ cdL) : codeB s₀.heap p.1 p.2 = true := by
  have h := H3 H
  simp only [Bool.and_eq_true, List.all_eq_true] at h
  exact h.1.1.1.1.1 p hp
theorem tab88 : tabB s₀.heap 88 84 = true := by have h := H3 H; simp only [Bool.and_eq_true] at h; exact h.1.1.1.1.2
theorem tab95 : tabB s₀.heap 95 91 = true := by have h := H3 H; simp only [Bool.and_eq_true] at h; exact h.1.1.1.2
theorem ns121 : s₀.heap.isNs 121 = true := by have h := H3 H; simp only [Bool.and_eq_true] at h; exact h.1.1.2
theorem nsM : s₀.heap.isNs mainGlobals = true := by have h := H3 H; simp only [Bool.and_eq_true] at h; exact h.1.2
theorem nsB : s₀.heap.isNs builtinsNs = true := by have h := H3 H; simp only [Bool.and_eq_true] at h; exact h.2
omit H in
theorem addr_ok : (fnL.all fun p => Nat.blt p.1 208 && !(Nat.beq p.1 84 || Nat.beq p.1 91) && !(Nat.beq (p.1 - 1) 84 || Nat.beq (p.1 - 1) 91)) = true := by decide +kernel
omit H in
theorem addr_of {a : Nat} (h : (!(Nat.beq a 84 || Nat.beq a 91)) = true) : ¬ (a = 84 ∨ a = 91) := by
  rintro (rfl | rfl) <;> cases h
theorem fn_at {p : Addr × FnDef × Value} (hp : p ∈ fnL) (g : Heap) (ok : WOK (WL w s₀) g) : FnAt g p.1 p.2.1 := by
  have ha := List.all_eq_true.mp addr_ok p hp
  simp only [Bool.and_eq_true] at ha
  have h208 : p.1 < 208 := by have := ha.1.1; simpa [Nat.blt_eq] using this
  obtain ⟨o, ho, e⟩ := Option.map_eq_some_iff.mp (get_map (H1 H) hp)
  obtain ⟨oc, ws, file, tf, c1, c2, ⟨t, c3⟩, _⟩ := codeB_spec (code_at H (p := (p.1 - 1, p.2.1.name)) (List.mem_append_left _ (List.mem_map.mpr ⟨p, hp, rfl⟩)))
  exact ⟨o, p.2.2, .ref (p.1 - 1), .none, wl_get ok h208 (addr_of ha.1.2) ho, (Prod.mk.inj e).2, p.1 - 1, oc, ws, t, rfl, wl_get ok (Nat.lt_of_le_of_lt (Nat.sub_le _ _) h208) (addr_of ha.2) c1, c2, c3⟩
theorem env0 : Env0 (WL w s₀) where
  globs := rfl
  C := rfl
  at_strcoll := fn_at H (p := (28, F_strcoll, pmA)) (List.mem_of_getElem? (i := 0) rfl)
  at_strxfrm := fn_at H (p := (35, F_strxfrm, pmA)) (List.mem_of_getElem? (i := 1) rfl)
  at_strip := fn_at H (p := (42, F_strip, pmA)) (List.mem_of_getElem? (i := 2) rfl)
  at_isterm := fn_at H (p := (136, F_isterm, pmB)) (List.mem_of_getElem? (i := 3) rfl)
  at_isnont := fn_at H (p := (143, F_isnont, pmB)) (List.mem_of_getElem? (i := 4) rfl)
  at_iseof := fn_at H (p := (150, F_iseof, pmB)) (List.mem_of_getElem? (i := 5) rfl)
  at_cells := fn_at H (p := (157, F_cells, pmC)) (List.mem_of_getElem? (i := 6) rfl)
  at_pile := fn_at H (p := (162, F_pile, pmC)) (List.mem_of_getElem? (i := 7) rfl)
  at_order := fn_at H (p := (167, F_order, pmC)) (List.mem_of_getElem? (i := 8) rfl)
  at_heights := fn_at H (p := (172, F_heights, pmC)) (List.mem_of_getElem? (i := 9) rfl)
  at_cards := fn_at H (p := (177, F_cards, pmC)) (List.mem_of_getElem? (i := 10) rfl)
  at_rising := fn_at H (p := (182, F_rising, pmC)) (List.mem_of_getElem? (i := 11) rfl)
  at_lnames := fn_at H (p := (187, F_lnames, pmC)) (List.mem_of_getElem? (i := 12) rfl)
  at_where := fn_at H (p := (192, F_where, pmC)) (List.mem_of_getElem? (i := 13) rfl)
  at_bared := fn_at H (p := (197, F_bared, pmC)) (List.mem_of_getElem? (i := 14) rfl)
  at_lines := fn_at H (p := (202, F_lines, pmC)) (List.mem_of_getElem? (i := 15) rfl)
  at_law := fn_at H (p := (207, F_law, pmC)) (List.mem_of_getElem? (i := 16) rfl)
end
section
variable {w : World} {s₀ : Shared} (H : obsL s₀ = valL w)
include H
theorem ob_at {p : Addr × Obj} (i : Nat) (hi : (obL w)[i]? = some p) (ha : [122, 46, 51, 84, 91, cStatics, 127, 4, 67][i]? = some p.1) : s₀.heap.get? p.1 = some p.2 := by
  have h := congrArg (fun l => l[i]?) (H6 H)
  simp only [List.getElem?_map, hi, ha, Option.map_some] at h
  exact Option.some.inj h
theorem me_at {a : Addr} {F : FnDef} {q : Str} {clo : List (Str × Addr)} {df ct : Value} (hp : (a, mfd F q clo df (a - 1) ct) ∈ meL) (h1 : a < 208 ∧ ¬ (a = 84 ∨ a = 91) ∧ ¬ (a - 1 = 84 ∨ a - 1 = 91))
    (hb : ∀ g, WOK (WL w s₀) g -> ∀ (vs : List Value) (s : Shared), Le g s.heap -> vs.length = F.params.args.length -> BindsTo s (mfd F q clo df (a - 1) ct) ⟨vs, []⟩ ((F.params.args.map (·.arg)).zip vs)) : MethAt (WL w s₀) a F clo where
  at_ := fun g ok => by
    obtain ⟨o, ho, e⟩ := Option.map_eq_some_iff.mp (get_map (H2 H) hp)
    obtain ⟨oc, ws, file, tf, c1, c2, ⟨t, c3⟩, c4, c5⟩ := codeB_spec (code_at H (p := (a - 1, q)) (List.mem_append_right _ (List.mem_map.mpr ⟨_, hp, rfl⟩)))
    have c1' := wl_get ok (Nat.lt_of_le_of_lt (Nat.sub_le a 1) h1.1) h1.2.2 c1
    exact ⟨o, _, a - 1, oc, ws, file, tf, wl_get ok h1.1 h1.2.1 ho, (Prod.mk.inj e).1, (Prod.mk.inj e).2, rfl, rfl, rfl, rfl, rfl, rfl, rfl, ⟨a - 1, oc, ws, t, rfl, c1', c2, c3⟩, c1', c2, c4, c5, hb g ok⟩
theorem meg_at {a P : Addr} {F : FnDef} {q : Str} {df ct : Value} (hp : (a, mfd F q [] df (a - 1) ct) ∈ meL) (h1 : a < 208 ∧ ¬ (a = 84 ∨ a = 91) ∧ ¬ (a - 1 = 84 ∨ a - 1 = 91)) (hP : P = 84 ∨ P = 91) (ht : tabB s₀.heap (a - 1) P = true)
    (hb : ∀ (vs : List Value) (s : Shared), vs.length = F.params.args.length -> BindsTo s (mfd F q [] df (a - 1) ct) ⟨vs, []⟩ ((F.params.args.map (·.arg)).zip vs)) : MethG (WL w s₀) a F P where
  at_ := fun g ok => by
    obtain ⟨o, ho, e⟩ := Option.map_eq_some_iff.mp (get_map (H2 H) hp)
    obtain ⟨oc, ws, file, tf, c1, c2, ⟨t, c3⟩, _⟩ := codeB_spec (code_at H (p := (a - 1, q)) (List.mem_append_right _ (List.mem_map.mpr ⟨_, hp, rfl⟩)))
    obtain ⟨oc', ws', d1, d2, T⟩ := tabB_spec ht
    obtain rfl := Option.some.inj (c1.symm.trans d1)
    have d3 : ws = ws' := by rw [c2] at d2; exact Data.fields.inj d2
    subst d3
    have c1' := wl_get ok (Nat.lt_of_le_of_lt (Nat.sub_le a 1) h1.1) h1.2.2 c1
    exact ⟨o, _, a - 1, oc, ws, wl_get ok h1.1 h1.2.1 ho, (Prod.mk.inj e).1, (Prod.mk.inj e).2, rfl, rfl, rfl, rfl, rfl, rfl, rfl, ⟨a - 1, oc, ws, t, rfl, c1', c2, c3⟩, c1', c2, T, fun z => h1.2.2 (z ▸ hP), hb⟩
  mt := fun _ => hP
omit H in
theorem b_push (s : Shared) : ∀ vs : List Value, vs.length = 3 -> BindsTo s (mfd F_m_push "_Accumulator.push" [] .none 65 .none) ⟨vs, []⟩ ((F_m_push.params.args.map (·.arg)).zip vs) := len3 fun a b c => BindsTo.of_eq rfl
omit H in
theorem b_pop (s : Shared) : ∀ vs : List Value, vs.length = 1 -> BindsTo s (mfd F_m_pop "_Accumulator.pop" clo46 .none 81 (.ref 75)) ⟨vs, []⟩ ((F_m_pop.params.args.map (·.arg)).zip vs) := len1 fun a => BindsTo.of_eq rfl
omit H in
theorem b_pc (s : Shared) : ∀ vs : List Value, vs.length = 1 -> BindsTo s (mfd F_m_part_count "_Accumulator.part_count" clo46 .none 118 (.ref 112)) ⟨vs, []⟩ ((F_m_part_count.params.args.map (·.arg)).zip vs) := len1 fun a => BindsTo.of_eq rfl
omit H in
theorem b_len (s : Shared) : ∀ vs : List Value, vs.length = 1 -> BindsTo s (mfd F_m_len "_Accumulator.__len__" [] .none 88 .none) ⟨vs, []⟩ ((F_m_len.params.args.map (·.arg)).zip vs) := len1 fun a => BindsTo.of_eq rfl
omit H in
theorem b_str (s : Shared) : ∀ vs : List Value, vs.length = 1 -> BindsTo s (mfd F_m_str "_Accumulator.__str__" [] .none 95 .none) ⟨vs, []⟩ ((F_m_str.params.args.map (·.arg)).zip vs) := len1 fun a => BindsTo.of_eq rfl
omit H in
theorem b_init (s : Shared) (h : s.heap.get? 51 = some { cls := .type "tuple", data := .seq #[.int 0 237] }) : ∀ vs : List Value, vs.length = 2 -> BindsTo s (mfd F_m_init "_Accumulator.__init__" clo46 (.ref 51) 58 (.ref 52)) ⟨vs, []⟩ ((F_m_init.params.args.map (·.arg)).zip vs) :=
  len2 fun a b => BindsTo.of_defaults rfl h rfl rfl rfl
omit H in
theorem b_popf (s : Shared) (h : s.heap.get? 67 = some { cls := .type "tuple", data := .seq #[.int 0 256] }) : ∀ vs : List Value, vs.length = 2 -> BindsTo s (mfd F_m_pop_from "_Accumulator.pop_from" [] (.ref 67) 73 .none) ⟨vs, []⟩ ((F_m_pop_from.params.args.map (·.arg)).zip vs) :=
  len2 fun a b => BindsTo.of_defaults rfl h rfl rfl rfl
end
section
variable {w : World} {s₀ : Shared} (H : obsL s₀ = valL w)
include H
theorem mn_at {p : Str × Option Value} (i : Nat) (hi : mnL[i]? = some p) : s₀.heap.nsMap 121 p.1 = p.2 := by
  have h := congrArg (fun l => l[i]?) (H5 H)
  have hl := (List.getElem?_eq_some_iff.mp hi).1
  rw [List.getElem?_append_left (by simpa using hl), List.getElem?_append_left (by simpa using hl), List.getElem?_map, List.getElem?_map, hi] at h
  exact Option.some.inj h
theorem main_bi : s₀.heap.nsMap mainGlobals "__builtins__" = some (.ref 4) := by
  have h := congrArg (fun l => l[15]?) (H5 H)
  exact Option.some.inj h
theorem main_law : s₀.heap.nsMap mainGlobals "law" = some (.ref 207) := by
  have h := congrArg (fun l => l[16]?) (H5 H)
  exact Option.some.inj h
theorem ns_g {g : Heap} (ok : WOK (WL w s₀) g) {a : Addr} (h1 : a < 208) (h2 : ¬ (a = 84 ∨ a = 91)) (h : s₀.heap.isNs a = true) : g.Ns a (s₀.heap.nsMap a) := by
  obtain ⟨o, es, ep, ho, r⟩ := Heap.Ns.of_isNs h
  exact ⟨o, es, ep, wl_get ok h1 h2 ho, r⟩
theorem accW : AccW (WL w s₀) (s₀.heap.nsMap 121) where
  cls := fun g ok => ⟨_, 121, _, _, _, _, _, (wl_get ok (by decide) (by decide) (ob_at H 0 rfl rfl)).trans rfl, ns_g H ok (by decide) (by decide) (ns121 H)⟩
  ga := mn_at H 9 rfl
  gattr := mn_at H 10 rfl
  app := mn_at H 11 rfl
  get := mn_at H 12 rfl
  set := mn_at H 13 rfl
  iter := mn_at H 14 rfl
  opq := fun g ok => looks_opaque (K := [(cStatics, { cls := .none, data := .dict #[] })]) (fun a o e => by
    have : a = cStatics ∧ o = { cls := .none, data := .dict #[] } := by
      simp only [List.lookup] at e
      split at e
      · rename_i q; cases e; exact ⟨eq_of_beq q, rfl⟩
      · cases e
    obtain ⟨rfl, rfl⟩ := this
    exact wl_get ok (by decide) (by decide) (ob_at H 5 rfl rfl)) rfl
  top := by kernel_rfl
  sup := List.mem_of_getElem? (i := 30) rfl
theorem pileW : PileW (WL w s₀) (s₀.heap.nsMap 121) where
  acc := accW H
  cell := fun g ok => ⟨_, wl_get ok (by decide) (by decide) (ob_at H 1 rfl rfl), rfl⟩
  m_init := mn_at H 0 rfl
  m_push := mn_at H 1 rfl
  m_popf := mn_at H 2 rfl
  m_pop := mn_at H 3 rfl
  m_len := mn_at H 4 rfl
  m_str := mn_at H 5 rfl
  m_pc := mn_at H 6 rfl
  m_sa := mn_at H 7 rfl
  m_sz := mn_at H 8 rfl
  init_at := me_at H (List.mem_of_getElem? (i := 0) rfl) (by decide) fun g ok vs s le h => b_init s (le _ _ (wl_get ok (by decide) (by decide) (ob_at H 2 rfl rfl))) vs h
  push_at := me_at H (List.mem_of_getElem? (i := 1) rfl) (by decide) fun g ok vs s le h => b_push s vs h
  popf_at := me_at H (List.mem_of_getElem? (i := 2) rfl) (by decide) fun g ok vs s le h => b_popf s (le _ _ (wl_get ok (by decide) (by decide) (ob_at H 8 rfl rfl))) vs h
  pop_at := me_at H (List.mem_of_getElem? (i := 3) rfl) (by decide) fun g ok vs s le h => b_pop s vs h
  pc_at := me_at H (List.mem_of_getElem? (i := 4) rfl) (by decide) fun g ok vs s le h => b_pc s vs h
  len_at := meg_at H (List.mem_of_getElem? (i := 5) rfl) (by decide) (.inl rfl) (tab88 H) fun vs s h => b_len s vs h
  str_at := meg_at H (List.mem_of_getElem? (i := 6) rfl) (by decide) (.inr rfl) (tab95 H) fun vs s h => b_str s vs h
  bi := fun A s Q E g ok le h => by
    obtain ⟨o, es, ep, ho, r⟩ := ns_g H ok (a := mainGlobals) (by decide) (by decide) (nsM H)
    exact wpAny_builtinsFor (m := s₀.heap.nsMap mainGlobals) ⟨o, es, ep, le _ _ ho, r⟩ (main_bi H) (by decide) (le _ _ (wl_get ok (by decide) (by decide) (ob_at H 7 rfl rfl))) rfl rfl rfl h
end
noncomputable def f127 (w : World) (k : Str) : Option Value := findBy Value.isStrOf (es127 w) k
noncomputable def tokL : List (Str × Int) := [("(", 7), (")", 8), ("[", 9), ("]", 10), (":", 11), (",", 12), (";", 13), ("+", 14), ("-", 15), ("*", 16), ("/", 17), ("|", 18), ("&", 19), ("<", 20), (">", 21), ("=", 22), (".", 23), ("%", 24), ("{", 25), ("}", 26), ("==", 27)]
noncomputable def tokOk (w : World) (p : Str × Int) : Bool := match f127 w p.1 with | some (.int i _) => decide (i = p.2) | _ => false
theorem tok_all (w : World) : tokL.all (tokOk w) = true := by kernel_rfl
theorem tok_mem {x : Str} {i : Int} (h : tokTab x = some i) : (x, i) ∈ tokL := by
  have key : ∀ l : List (Str × Int), l.lookup x = some i -> (x, i) ∈ l := by
    intro l
    induction l with
    | nil => intro h; cases h
    | cons p l ih =>
      intro h
      simp only [List.lookup] at h
      split at h
      · rename_i q; cases h; rw [eq_of_beq q]; exact .head _
      · exact .tail _ (ih h)
  exact key tokL h
theorem is_str {prog : Program} (w : World) (k : Str) (t : Tok) : (strKind prog w).is k (.str k t) = true := by
  show (k == k) = true
  exact beq_self_eq_true k
theorem keys127 {prog : Program} (w : World) : KeysOf (strKind prog w) (es127 w) := fun e he => by
  unfold es127 at he
  rw [List.mem_toArray] at he
  obtain ⟨p, _, rfl⟩ := List.mem_map.mp he
  exact ⟨Str.ofString p.1, is_str w _ _, rfl⟩
section
variable {w : World} {s₀ : Shared} (H : obsL s₀ = valL w)
include H
theorem tab127 : TabAt (WL w s₀) 127 tokTab := fun x i hx A g s t Q E ok le h => by
  have hm : s.heap.MapOf (strKind PySem.Challenge.pw_yj0019_01 w) 127 (f127 w) :=
    ⟨_, es127 w, 48, le _ _ (wl_get ok (by decide) (by decide) (ob_at H 6 rfl rfl)), ⟨rfl, rfl, rfl⟩, rfl, keys127 w, fun k => rfl⟩
  refine ⟨hm.typeIs, ?_⟩
  have ht := List.all_eq_true.mp (tok_all w) _ (tok_mem hx)
  unfold tokOk at ht
  split at ht
  · rename_i j tk e
    have := of_decide_eq_true ht
    simp only at this
    subst this
    exact wpAny_getItem_of (k := x) (is_str w x t) hm e (h _ _)
  · cases ht
end
noncomputable def g0 (h : Heap) : Heap := subH h fun a => ¬ (a = 84 ∨ a = 91)
theorem g0_le (h : Heap) : Le (g0 h) h := fun b o e => (subH_get.mp e).2
theorem g0_get {h : Heap} {a : Addr} {o : Obj} (h2 : ¬ (a = 84 ∨ a = 91)) (e : h.get? a = some o) : (g0 h).get? a = some o := subH_get.mpr ⟨h2, e⟩
theorem g0_none {h : Heap} {a : Addr} (h2 : a = 84 ∨ a = 91) : (g0 h).get? a = none := by
  cases e : (g0 h).get? a with
  | none => rfl
  | some o => exact absurd h2 (subH_get.mp e).1
section
variable {w : World} {s₀ s₁ : Shared} (H : obsL s₀ = valL w)
include H
theorem gl_at {p : Str × Value} (hp : p ∈ gl) : s₀.heap.nsMap mainGlobals p.1 = some p.2 ∨ (s₀.heap.nsMap mainGlobals p.1 = none ∧ s₀.heap.nsMap builtinsNs p.1 = some p.2) := by
  have h := H4 H
  have e : gl = gl.take 21 ++ gl.drop 21 := (List.take_append_drop 21 gl).symm
  have h' : (gl.take 21).map (fun p => (s₀.heap.nsMap mainGlobals p.1, s₀.heap.nsMap builtinsNs p.1)) ++ (gl.drop 21).map (fun p => (s₀.heap.nsMap mainGlobals p.1, s₀.heap.nsMap builtinsNs p.1)) = (gl.take 21).map (fun p => (some p.2, none)) ++ (gl.drop 21).map (fun p => (none, some p.2)) := by
    rw [<- List.map_append, List.take_append_drop]; exact h
  obtain ⟨h1, h2⟩ := List.append_inj h' (by simp)
  rw [e] at hp
  rcases List.mem_append.mp hp with q | q
  · exact .inl (Prod.mk.inj (get_map h1 q)).1
  · exact .inr (Prod.mk.inj (get_map h2 q))
theorem wok0 (le : Le s₀.heap s₁.heap) (nl : s₁.heap.NoLimit) : WOK (WL w s₀) (g0 s₁.heap) where
  K := fun a o e => let ⟨_, h2, e⟩ := frag_get.mp e; g0_get h2 (le _ _ e)
  gl := by
    obtain ⟨o, es, ep, ho, r⟩ := Heap.Ns.of_isNs (nsM H)
    obtain ⟨o', es', ep', ho', r'⟩ := Heap.Ns.of_isNs (nsB H)
    exact ⟨_, _, ⟨o, es, ep, g0_get (by decide) (le _ _ ho), r⟩, ⟨o', es', ep', g0_get (by decide) (le _ _ ho'), r'⟩, fun p hp => gl_at H hp⟩
  nolimit := by
    obtain ⟨mc, ⟨o, es, ep, ho, r⟩, h⟩ := nl
    exact ⟨mc, ⟨o, es, ep, g0_get (by decide) ho, r⟩, h⟩
theorem tabs0 (le : Le s₀.heap s₁.heap) : ∀ a, (WL w s₀).mt a -> (g0 s₁.heap).get? a = none ∧ Tab s₁.heap a := fun a ha => by
  refine ⟨g0_none ha, ?_⟩
  rcases ha with rfl | rfl
  · exact ⟨_, ⟨#[], trivial, rfl⟩, le _ _ (ob_at H 3 rfl rfl), rfl⟩
  · exact ⟨_, ⟨#[], trivial, rfl⟩, le _ _ (ob_at H 4 rfl rfl), rfl⟩
end
theorem rd_ints {g : Heap} : ∀ {vs : List Value} {ns : List Int}, IntsAre vs ns -> RDs g vs (ns.map .int)
  | _, _, .nil => .nil
  | _, _, .cons n t r => .cons (.int n t) (rd_ints r)
theorem room0 : Room callerA 6 where
  h := rfl
  d := by decide +kernel
  u := by decide +kernel
  f := ⟨_, rfl⟩
section
variable {w : World} {s₀ s₁ : Shared} (H : obsL s₀ = valL w)
include H
theorem is_tab (le : Le s₀.heap s₁.heap) {a : Addr} (ha : a = 84 ∨ a = 91) : isCodeTable s₁.heap a ∧ s₁.heap.get? a = some { cls := .none, data := .fields #[] } := by
  have key : ∀ c P, tabB s₀.heap c P = true -> isCodeTable s₁.heap P := fun c P h => by
    obtain ⟨oc, ws, e1, e2, T⟩ := tabB_spec h
    refine ⟨c, oc, ws, le _ _ e1, T.k, e2, ?_⟩
    have := T.p
    rw [Array.getD_eq_getD_getElem?] at this
    cases q : ws[11]? with
    | none => rw [q] at this; cases this
    | some v => rw [q] at this; exact congrArg some this
  rcases ha with rfl | rfl
  · exact ⟨key _ _ (tab88 H), le _ _ (ob_at H 3 rfl rfl)⟩
  · exact ⟨key _ _ (tab95 H), le _ _ (ob_at H 4 rfl rfl)⟩
theorem oldK_of (le : Le s₀.heap s₁.heap) {g g' : Heap} {s' : Shared} (st : IStep (WL w s₀).mt g s₁ g' s') (mu : ∀ a, (WL w s₀).mt a -> g'.get? a = none ∧ Tab s'.heap a) : OldK s₁.heap s'.heap := by
  refine ⟨fun b o e => ?_, fun b o e => ?_⟩
  · by_cases hb : b = 84 ∨ b = 91
    · obtain ⟨i, e2⟩ := is_tab H le hb
      obtain rfl := Option.some.inj (e2.symm.trans e)
      obtain ⟨o', ws, e3, e4⟩ := (mu b hb).2
      refine .inr (.inl ⟨i, rfl, #[], ws.1, rfl, ?_⟩)
      rw [e3, Array.empty_append]
      exact congrArg some ws.2.2
    · exact .inl (st.hh b o hb e)
  · by_cases hb : b = 84 ∨ b = 91
    · obtain ⟨o', ws, e3, e4⟩ := (mu b hb).2
      exact ⟨o', e3⟩
    · exact ⟨o, st.hh b o hb e⟩
theorem run_law (le : Le s₀.heap s₁.heap) (nl : s₁.heap.NoLimit) (hg : s₁.gens = #[]) {v : Value} {ns : List Int} {Q : Value -> Shared -> Prop} {E : Value -> Shared -> Prop} (hlen : ns.length ≤ 63) (hv : RD (g0 s₁.heap) v (.list (ns.map .int)))
    (h : ∀ s', OldK s₁.heap s'.heap -> s'.os = s₁.os -> AllBare s'.gens -> Q (.bool true) s') : wpAny (model PySem.Challenge.pw_yj0019_01 w) callerA (call (.ref 207) [v]) Q E s₁ := by
  refine ok_law (env0 H) (pileW H) (tab127 H) 0 [.list (ns.map .int)] _ (law_true ns hlen) callerA (g0 s₁.heap) s₁ [v] Q E room0 (wok0 H le nl) (g0_le _) (tabs0 H le) (.cons hv .nil) fun u g' s' st mu r => ?_
  obtain rfl := r.of_bool
  exact h s' (oldK_of H le st mu) st.os (st.gens (by rw [hg]; exact AllBare.empty))
end
theorem t1L : (defOf qL "law").isSome = true := by kernel_rfl
noncomputable def dkL : DefRec × List (Str × Expr) := (defOf qL "law").get t1L
theorem hdefL : defOf qL "law" = some (dkL.1, dkL.2) := (Option.some_get t1L).symm
theorem postL (ns : List Int) : rowL.toRowW.claim.post [ofPy (PyData.list (ns.map PyData.int))] (.bool true) [ofPy (PyData.list (ns.map PyData.int))] = true := by wrow_post
theorem walkL : WalkX qL looseL (XL qL []) obsL valL rowL.toRowW dkL.1 dkL.2 fun f vs => PySem.call f vs := by
  intro w s₀ s₁ mg mb G Y a o pm cd doc dV kV h1 h2 h3 h4 h5 hg args vals as L hpre hlay hrd hwl hlo
  have le : Le s₀.heap s₁.heap := L.keeps
  have ea : a = 207 := by
    obtain ⟨o, es, ep, ho, r⟩ := Heap.Ns.of_isNs (nsM Y)
    have e1 : mg = s₀.heap.nsMap mainGlobals := (Heap.Ns.eq_nsMap G.T.g).trans (Heap.Ns.eq_nsMap ⟨o, es, ep, le _ _ ho, r⟩).symm
    rw [e1, defOf_name hdefL, main_law Y] at h5
    cases h5; rfl
  subst ea
  have nl := G.T.nolimit
  clear G h1 h2 h3 h4 h5
  wrow_args hpre hlay hrd hwl hlo
  rename_i ns _ _ _ _ _ _ _ a vs _ hL _ _ _ hI _ hc _
  have hlen : ns.length ≤ 63 := by lia
  have hobj := PySem.W.X.script_obj L hL
  have hat := (PySem.W.X.script_at L).1
  have hne : ¬ (a = 84 ∨ a = 91) := by
    rintro (e | e) <;> rw [hat] at e
    · exact absurd (Heap.lt_size (ob_at Y 3 rfl rfl)) (by rw [e]; exact Nat.lt_irrefl _)
    · exact absurd (Heap.lt_size (ob_at Y 4 rfl rfl)) (by rw [e]; exact Nat.lt_irrefl _)
  have hv : RD (g0 s₁.heap) (.ref a) (.list (ns.map .int)) := .list (n := _) (g0_get hne hobj) (rd_ints hI)
  exact run_law Y le nl hg hlen hv fun s' K os gens => ⟨.inl ⟨_, .bool true, [], rfl, fun _ => rfl, ReadsW.bool true, postL ns, fun _ => ⟨List.nodup_nil, fun _ hm => nomatch hm⟩⟩, K, os, gens⟩
theorem fin : PySem.Challenge.rw_yj0019_01.Holds := by
  refine holds_law wsL fun said => ?_
  refine holds_openX (r := rowL) (q := qL) (loose := looseL) (Xt := XtL) (XP := XL qL []) (Yf := obsL) (Ya := valL) (N := 5000) left1 (fun s e => xl_of s (Bool.and_eq_true_iff.mp e).1) XL.keeps hdefL ?h1 ?h2 (fun s e => recFacts_of (Bool.and_eq_true_iff.mp e).2) ?h3 said ?h5 ⟨rfl, rfl, rfl, rfl, rfl, by decide +kernel⟩ ?hw walkL
  case hw => exact ⟨[.list [.int 3, .int 1]], by decide +kernel, by decide +kernel⟩
  case h1 => kernel_rfl
  case h2 => kernel_rfl
  case h3 => rfl
  case h5 => decide +kernel
end Mine
theorem PySem.Challenge.cw_yj0019_01_holds : PySem.Challenge.rw_yj0019_01.Holds := by
  exact Mine.fin
