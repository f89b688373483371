import PyProof.Rows.All
import Wide.All
import OpenK.AllK
import Wide.FinOn
import Lean
import PySem.Challenge.RW_wf0057_01
open PySem PySem.W PyProof.Rows
set_option Elab.async false
set_option maxRecDepth 100000
namespace Mine
abbrev PR : Program := PySem.Challenge.pw_wf0057_01
/-- a type that bears a value: the unifier brings the value out -/
inductive Ob {α : Type} (o : Option α) : Type | mk
structure Un (α : Type) (T : Type) where
  s : α
noncomputable def un {α : Type} (a : α) : Un α (Ob (some a)) := ⟨a⟩
def fd (o : Option Stmt) : Option (Arguments × List Stmt × Scope) := match o with
  | some (.FunctionDef _ a b _ _ _ s _ _ _) => some (a, b, s)
  | _ => none
def md (o : Option Stmt) (j : Nat) : Option (Arguments × List Stmt × Scope) := match o with
  | some (.ClassDef _ _ _ b _ _ _ _ _ _ _) => fd b[j]?
  | _ => none
noncomputable def kk {α : Type} (_ : α) : Params → Frag := fun _ => []
/-- the part of the heap that the top leaves behind, as its run shows it -/
noncomputable def K0 : Params → Frag :=
  let_mvar% ?a28 := (_ : Arguments); let_mvar% ?b28 := (_ : List Stmt); let_mvar% ?s28 := (_ : Scope);
  ensure_type_of% (kk (un (?a28, ?b28, ?s28) : Un _ (Ob (md (PR.main.body[1]?) 0)))) "" (
  let_mvar% ?a35 := (_ : Arguments); let_mvar% ?b35 := (_ : List Stmt); let_mvar% ?s35 := (_ : Scope);
  ensure_type_of% (kk (un (?a35, ?b35, ?s35) : Un _ (Ob (md (PR.main.body[1]?) 1)))) "" (
  let_mvar% ?a49 := (_ : Arguments); let_mvar% ?b49 := (_ : List Stmt); let_mvar% ?s49 := (_ : Scope);
  ensure_type_of% (kk (un (?a49, ?b49, ?s49) : Un _ (Ob (fd (PR.main.body[2]?))))) "" (
  let_mvar% ?a56 := (_ : Arguments); let_mvar% ?b56 := (_ : List Stmt); let_mvar% ?s56 := (_ : Scope);
  ensure_type_of% (kk (un (?a56, ?b56, ?s56) : Un _ (Ob (fd (PR.main.body[3]?))))) "" (
  let_mvar% ?a63 := (_ : Arguments); let_mvar% ?b63 := (_ : List Stmt); let_mvar% ?s63 := (_ : Scope);
  ensure_type_of% (kk (un (?a63, ?b63, ?s63) : Un _ (Ob (fd (PR.main.body[4]?))))) "" (
  let_mvar% ?a70 := (_ : Arguments); let_mvar% ?b70 := (_ : List Stmt); let_mvar% ?s70 := (_ : Scope);
  ensure_type_of% (kk (un (?a70, ?b70, ?s70) : Un _ (Ob (fd (PR.main.body[6]?))))) "" (
  let_mvar% ?a77 := (_ : Arguments); let_mvar% ?b77 := (_ : List Stmt); let_mvar% ?s77 := (_ : Scope);
  ensure_type_of% (kk (un (?a77, ?b77, ?s77) : Un _ (Ob (fd (PR.main.body[7]?))))) "" (
  let_mvar% ?a84 := (_ : Arguments); let_mvar% ?b84 := (_ : List Stmt); let_mvar% ?s84 := (_ : Scope);
  ensure_type_of% (kk (un (?a84, ?b84, ?s84) : Un _ (Ob (fd (PR.main.body[8]?))))) "" (
  let_mvar% ?a92 := (_ : Arguments); let_mvar% ?b92 := (_ : List Stmt); let_mvar% ?s92 := (_ : Scope);
  ensure_type_of% (kk (un (?a92, ?b92, ?s92) : Un _ (Ob (fd (PR.main.body[59]?))))) "" (
  let_mvar% ?a97 := (_ : Arguments); let_mvar% ?b97 := (_ : List Stmt); let_mvar% ?s97 := (_ : Scope);
  ensure_type_of% (kk (un (?a97, ?b97, ?s97) : Un _ (Ob (fd (PR.main.body[60]?))))) "" (
  let_mvar% ?a102 := (_ : Arguments); let_mvar% ?b102 := (_ : List Stmt); let_mvar% ?s102 := (_ : Scope);
  ensure_type_of% (kk (un (?a102, ?b102, ?s102) : Un _ (Ob (fd (PR.main.body[61]?))))) "" (
  let_mvar% ?a107 := (_ : Arguments); let_mvar% ?b107 := (_ : List Stmt); let_mvar% ?s107 := (_ : Scope);
  ensure_type_of% (kk (un (?a107, ?b107, ?s107) : Un _ (Ob (fd (PR.main.body[62]?))))) "" (
  let_mvar% ?a112 := (_ : Arguments); let_mvar% ?b112 := (_ : List Stmt); let_mvar% ?s112 := (_ : Scope);
  ensure_type_of% (kk (un (?a112, ?b112, ?s112) : Un _ (Ob (fd (PR.main.body[63]?))))) "" (
  fun P =>
    (nat_lit 2, { cls := Value.none, data := Data.dict #[] }) ::
    (nat_lit 3, { cls := Value.type "dict", data := Data.dict ({ hash := PyData.keyHash P (Str.ofString "__name__"), key := Value.str (Str.ofString "__name__") (165 : Nat), val := Value.str (Str.ofString "law_wf0057_01") (496 : Nat) } :: { hash := PyData.keyHash P (Str.ofString "__doc__"), key := Value.str (Str.ofString "__doc__") (166 : Nat), val := Value.none } :: { hash := PyData.keyHash P (Str.ofString "__package__"), key := Value.str (Str.ofString "__package__") (167 : Nat), val := Value.none } :: { hash := PyData.keyHash P (Str.ofString "__loader__"), key := Value.str (Str.ofString "__loader__") (168 : Nat), val := Value.builtin "__main__.__loader__#opaque" } :: { hash := PyData.keyHash P (Str.ofString "__spec__"), key := Value.str (Str.ofString "__spec__") (169 : Nat), val := Value.none } :: { hash := PyData.keyHash P (Str.ofString "__annotations__"), key := Value.str (Str.ofString "__annotations__") (170 : Nat), val := Value.ref (6 : Nat) } :: { hash := PyData.keyHash P (Str.ofString "__builtins__"), key := Value.str (Str.ofString "__builtins__") (171 : Nat), val := Value.ref (4 : Nat) } :: { hash := PyData.keyHash P (Str.ofString "__file__"), key := Value.str (Str.ofString "__file__") (173 : Nat), val := Value.str (Str.ofString "/claim/cut.py") (172 : Nat) } :: { hash := PyData.keyHash P (Str.ofString "__cached__"), key := Value.str (Str.ofString "__cached__") (174 : Nat), val := Value.none } :: { hash := PyData.keyHash P (Str.ofString "TupleComp"), key := Value.str (Str.ofString "TupleComp") (230 : Nat), val := Value.ref (38 : Nat) } :: { hash := PyData.keyHash P (Str.ofString "add_func_stats"), key := Value.str (Str.ofString "add_func_stats") (248 : Nat), val := Value.ref (49 : Nat) } :: { hash := PyData.keyHash P (Str.ofString "add_callers"), key := Value.str (Str.ofString "add_callers") (259 : Nat), val := Value.ref (56 : Nat) } :: { hash := PyData.keyHash P (Str.ofString "count_calls"), key := Value.str (Str.ofString "count_calls") (268 : Nat), val := Value.ref (63 : Nat) } :: { hash := PyData.keyHash P (Str.ofString "_iter_escaped_chars"), key := Value.str (Str.ofString "_iter_escaped_chars") (280 : Nat), val := Value.ref (70 : Nat) } :: { hash := PyData.keyHash P (Str.ofString "_strip_quoted_realnames"), key := Value.str (Str.ofString "_strip_quoted_realnames") (292 : Nat), val := Value.ref (77 : Nat) } :: { hash := PyData.keyHash P (Str.ofString "_check_parenthesis"), key := Value.str (Str.ofString "_check_parenthesis") (302 : Nat), val := Value.ref (84 : Nat) } :: { hash := PyData.keyHash P (Str.ofString "LPAR"), key := Value.str (Str.ofString "LPAR") (304 : Nat), val := Value.int 7 (303 : Nat) } :: { hash := PyData.keyHash P (Str.ofString "RPAR"), key := Value.str (Str.ofString "RPAR") (306 : Nat), val := Value.int 8 (305 : Nat) } :: { hash := PyData.keyHash P (Str.ofString "LSQB"), key := Value.str (Str.ofString "LSQB") (308 : Nat), val := Value.int 9 (307 : Nat) } :: { hash := PyData.keyHash P (Str.ofString "RSQB"), key := Value.str (Str.ofString "RSQB") (310 : Nat), val := Value.int 10 (309 : Nat) } :: { hash := PyData.keyHash P (Str.ofString "COLON"), key := Value.str (Str.ofString "COLON") (312 : Nat), val := Value.int 11 (311 : Nat) } :: { hash := PyData.keyHash P (Str.ofString "COMMA"), key := Value.str (Str.ofString "COMMA") (314 : Nat), val := Value.int 12 (313 : Nat) } :: { hash := PyData.keyHash P (Str.ofString "SEMI"), key := Value.str (Str.ofString "SEMI") (316 : Nat), val := Value.int 13 (315 : Nat) } :: { hash := PyData.keyHash P (Str.ofString "PLUS"), key := Value.str (Str.ofString "PLUS") (318 : Nat), val := Value.int 14 (317 : Nat) } :: { hash := PyData.keyHash P (Str.ofString "MINUS"), key := Value.str (Str.ofString "MINUS") (320 : Nat), val := Value.int 15 (319 : Nat) } :: { hash := PyData.keyHash P (Str.ofString "STAR"), key := Value.str (Str.ofString "STAR") (322 : Nat), val := Value.int 16 (321 : Nat) } :: { hash := PyData.keyHash P (Str.ofString "SLASH"), key := Value.str (Str.ofString "SLASH") (324 : Nat), val := Value.int 17 (323 : Nat) } :: { hash := PyData.keyHash P (Str.ofString "VBAR"), key := Value.str (Str.ofString "VBAR") (326 : Nat), val := Value.int 18 (325 : Nat) } :: { hash := PyData.keyHash P (Str.ofString "AMPER"), key := Value.str (Str.ofString "AMPER") (328 : Nat), val := Value.int 19 (327 : Nat) } :: { hash := PyData.keyHash P (Str.ofString "LESS"), key := Value.str (Str.ofString "LESS") (330 : Nat), val := Value.int 20 (329 : Nat) } :: { hash := PyData.keyHash P (Str.ofString "GREATER"), key := Value.str (Str.ofString "GREATER") (332 : Nat), val := Value.int 21 (331 : Nat) } :: { hash := PyData.keyHash P (Str.ofString "EQUAL"), key := Value.str (Str.ofString "EQUAL") (334 : Nat), val := Value.int 22 (333 : Nat) } :: { hash := PyData.keyHash P (Str.ofString "DOT"), key := Value.str (Str.ofString "DOT") (336 : Nat), val := Value.int 23 (335 : Nat) } :: { hash := PyData.keyHash P (Str.ofString "PERCENT"), key := Value.str (Str.ofString "PERCENT") (338 : Nat), val := Value.int 24 (337 : Nat) } :: { hash := PyData.keyHash P (Str.ofString "LBRACE"), key := Value.str (Str.ofString "LBRACE") (340 : Nat), val := Value.int 25 (339 : Nat) } :: { hash := PyData.keyHash P (Str.ofString "RBRACE"), key := Value.str (Str.ofString "RBRACE") (342 : Nat), val := Value.int 26 (341 : Nat) } :: { hash := PyData.keyHash P (Str.ofString "EQEQUAL"), key := Value.str (Str.ofString "EQEQUAL") (344 : Nat), val := Value.int 27 (343 : Nat) } :: { hash := PyData.keyHash P (Str.ofString "NOTEQUAL"), key := Value.str (Str.ofString "NOTEQUAL") (346 : Nat), val := Value.int 28 (345 : Nat) } :: { hash := PyData.keyHash P (Str.ofString "LESSEQUAL"), key := Value.str (Str.ofString "LESSEQUAL") (348 : Nat), val := Value.int 29 (347 : Nat) } :: { hash := PyData.keyHash P (Str.ofString "GREATEREQUAL"), key := Value.str (Str.ofString "GREATEREQUAL") (350 : Nat), val := Value.int 30 (349 : Nat) } :: { hash := PyData.keyHash P (Str.ofString "TILDE"), key := Value.str (Str.ofString "TILDE") (352 : Nat), val := Value.int 31 (351 : Nat) } :: { hash := PyData.keyHash P (Str.ofString "CIRCUMFLEX"), key := Value.str (Str.ofString "CIRCUMFLEX") (354 : Nat), val := Value.int 32 (353 : Nat) } :: { hash := PyData.keyHash P (Str.ofString "LEFTSHIFT"), key := Value.str (Str.ofString "LEFTSHIFT") (356 : Nat), val := Value.int 33 (355 : Nat) } :: { hash := PyData.keyHash P (Str.ofString "RIGHTSHIFT"), key := Value.str (Str.ofString "RIGHTSHIFT") (358 : Nat), val := Value.int 34 (357 : Nat) } :: { hash := PyData.keyHash P (Str.ofString "DOUBLESTAR"), key := Value.str (Str.ofString "DOUBLESTAR") (360 : Nat), val := Value.int 35 (359 : Nat) } :: { hash := PyData.keyHash P (Str.ofString "PLUSEQUAL"), key := Value.str (Str.ofString "PLUSEQUAL") (362 : Nat), val := Value.int 36 (361 : Nat) } :: { hash := PyData.keyHash P (Str.ofString "MINEQUAL"), key := Value.str (Str.ofString "MINEQUAL") (364 : Nat), val := Value.int 37 (363 : Nat) } :: { hash := PyData.keyHash P (Str.ofString "STAREQUAL"), key := Value.str (Str.ofString "STAREQUAL") (366 : Nat), val := Value.int 38 (365 : Nat) } :: { hash := PyData.keyHash P (Str.ofString "SLASHEQUAL"), key := Value.str (Str.ofString "SLASHEQUAL") (368 : Nat), val := Value.int 39 (367 : Nat) } :: { hash := PyData.keyHash P (Str.ofString "PERCENTEQUAL"), key := Value.str (Str.ofString "PERCENTEQUAL") (370 : Nat), val := Value.int 40 (369 : Nat) } :: { hash := PyData.keyHash P (Str.ofString "AMPEREQUAL"), key := Value.str (Str.ofString "AMPEREQUAL") (372 : Nat), val := Value.int 41 (371 : Nat) } :: { hash := PyData.keyHash P (Str.ofString "VBAREQUAL"), key := Value.str (Str.ofString "VBAREQUAL") (374 : Nat), val := Value.int 42 (373 : Nat) } :: { hash := PyData.keyHash P (Str.ofString "CIRCUMFLEXEQUAL"), key := Value.str (Str.ofString "CIRCUMFLEXEQUAL") (376 : Nat), val := Value.int 43 (375 : Nat) } :: { hash := PyData.keyHash P (Str.ofString "LEFTSHIFTEQUAL"), key := Value.str (Str.ofString "LEFTSHIFTEQUAL") (378 : Nat), val := Value.int 44 (377 : Nat) } :: { hash := PyData.keyHash P (Str.ofString "RIGHTSHIFTEQUAL"), key := Value.str (Str.ofString "RIGHTSHIFTEQUAL") (380 : Nat), val := Value.int 45 (379 : Nat) } :: { hash := PyData.keyHash P (Str.ofString "DOUBLESTAREQUAL"), key := Value.str (Str.ofString "DOUBLESTAREQUAL") (382 : Nat), val := Value.int 46 (381 : Nat) } :: { hash := PyData.keyHash P (Str.ofString "DOUBLESLASH"), key := Value.str (Str.ofString "DOUBLESLASH") (384 : Nat), val := Value.int 47 (383 : Nat) } :: { hash := PyData.keyHash P (Str.ofString "DOUBLESLASHEQUAL"), key := Value.str (Str.ofString "DOUBLESLASHEQUAL") (386 : Nat), val := Value.int 48 (385 : Nat) } :: { hash := PyData.keyHash P (Str.ofString "AT"), key := Value.str (Str.ofString "AT") (388 : Nat), val := Value.int 49 (387 : Nat) } :: { hash := PyData.keyHash P (Str.ofString "ATEQUAL"), key := Value.str (Str.ofString "ATEQUAL") (390 : Nat), val := Value.int 50 (389 : Nat) } :: { hash := PyData.keyHash P (Str.ofString "RARROW"), key := Value.str (Str.ofString "RARROW") (392 : Nat), val := Value.int 51 (391 : Nat) } :: { hash := PyData.keyHash P (Str.ofString "ELLIPSIS"), key := Value.str (Str.ofString "ELLIPSIS") (394 : Nat), val := Value.int 52 (393 : Nat) } :: { hash := PyData.keyHash P (Str.ofString "COLONEQUAL"), key := Value.str (Str.ofString "COLONEQUAL") (396 : Nat), val := Value.int 53 (395 : Nat) } :: { hash := PyData.keyHash P (Str.ofString "EXCLAMATION"), key := Value.str (Str.ofString "EXCLAMATION") (398 : Nat), val := Value.int 54 (397 : Nat) } :: { hash := PyData.keyHash P (Str.ofString "EXACT_TOKEN_TYPES"), key := Value.str (Str.ofString "EXACT_TOKEN_TYPES") (495 : Nat), val := Value.ref (85 : Nat) } :: { hash := PyData.keyHash P (Str.ofString "_law_drawn"), key := Value.str (Str.ofString "_law_drawn") (503 : Nat), val := Value.ref (92 : Nat) } :: { hash := PyData.keyHash P (Str.ofString "_law_lay"), key := Value.str (Str.ofString "_law_lay") (509 : Nat), val := Value.ref (97 : Nat) } :: { hash := PyData.keyHash P (Str.ofString "_law_line"), key := Value.str (Str.ofString "_law_line") (515 : Nat), val := Value.ref (102 : Nat) } :: { hash := PyData.keyHash P (Str.ofString "_law_struck"), key := Value.str (Str.ofString "_law_struck") (521 : Nat), val := Value.ref (107 : Nat) } :: { hash := PyData.keyHash P (Str.ofString "law"), key := Value.str (Str.ofString "law") (527 : Nat), val := Value.ref (112 : Nat) } :: []).toArray 70 }) ::
    (nat_lit 6, { cls := Value.type "dict", data := Data.dict #[] }) ::
    (nat_lit 22, { cls := Value.type "tuple", data := Data.seq #[] }) ::
    (nat_lit 24, { cls := Value.type "tuple", data := Data.seq #[Value.str (Str.ofString "self") (204 : Nat), Value.str (Str.ofString "comp_select_list") (205 : Nat)] }) ::
    (nat_lit 25, { cls := Value.type "tuple", data := Data.seq #[] }) ::
    (nat_lit 27, { cls := Value.type "code", data := Data.fields #[Value.str (Str.ofString "__init__") (201 : Nat), Value.str (Str.ofString "TupleComp.__init__") (202 : Nat), Value.str (Str.ofString "/claim/cut.py") (203 : Nat), Value.int 4 (0 : Nat), Value.int 2 (0 : Nat), Value.int 0 (0 : Nat), Value.int 0 (0 : Nat), Value.int 3 (0 : Nat), Value.ref (22 : Nat), Value.bool true, Value.int 181 (0 : Nat), Value.ref (23 : Nat), Value.none, Value.ref (24 : Nat), Value.ref (25 : Nat), Value.ref (26 : Nat), Value.int 206 (0 : Nat), Value.int 4 (0 : Nat), Value.str (Str.ofString "/claim/cut.py") (207 : Nat)] }) ::
    (nat_lit 28, { cls := Value.type "function", data := Data.func { name := Str.ofString "__init__", qualname := Str.ofString "TupleComp.__init__", params := ?a28, body := FuncBody.stmts ?b28, scope := ?s28, globals := (3 : Nat), closure := [], defaults := Value.none, kwdefaults := Value.none, pyModule := Value.str (Str.ofString "cpy313.pstats") (187 : Nat), code := Value.ref (27 : Nat) } }) ::
    (nat_lit 29, { cls := Value.type "tuple", data := Data.seq #[] }) ::
    (nat_lit 31, { cls := Value.type "tuple", data := Data.seq #[Value.str (Str.ofString "self") (212 : Nat), Value.str (Str.ofString "left") (213 : Nat), Value.str (Str.ofString "right") (214 : Nat), Value.str (Str.ofString "index") (215 : Nat), Value.str (Str.ofString "direction") (216 : Nat), Value.str (Str.ofString "l") (217 : Nat), Value.str (Str.ofString "r") (218 : Nat)] }) ::
    (nat_lit 32, { cls := Value.type "tuple", data := Data.seq #[] }) ::
    (nat_lit 34, { cls := Value.type "code", data := Data.fields #[Value.str (Str.ofString "compare") (209 : Nat), Value.str (Str.ofString "TupleComp.compare") (210 : Nat), Value.str (Str.ofString "/claim/cut.py") (211 : Nat), Value.int 7 (0 : Nat), Value.int 3 (0 : Nat), Value.int 0 (0 : Nat), Value.int 0 (0 : Nat), Value.int 3 (0 : Nat), Value.ref (29 : Nat), Value.bool true, Value.int 181 (0 : Nat), Value.ref (30 : Nat), Value.none, Value.ref (31 : Nat), Value.ref (32 : Nat), Value.ref (33 : Nat), Value.int 219 (0 : Nat), Value.int 7 (0 : Nat), Value.str (Str.ofString "/claim/cut.py") (220 : Nat)] }) ::
    (nat_lit 35, { cls := Value.type "function", data := Data.func { name := Str.ofString "compare", qualname := Str.ofString "TupleComp.compare", params := ?a35, body := FuncBody.stmts ?b35, scope := ?s35, globals := (3 : Nat), closure := [], defaults := Value.none, kwdefaults := Value.none, pyModule := Value.str (Str.ofString "cpy313.pstats") (187 : Nat), code := Value.ref (34 : Nat) } }) ::
    (nat_lit 36, { cls := Value.type "tuple", data := Data.seq #[Value.str (Str.ofString "comp_select_list") (222 : Nat)] }) ::
    (nat_lit 37, { cls := Value.type "dict", data := Data.dict #[{ hash := PyData.keyHash P (Str.ofString "__module__"), key := Value.str (Str.ofString "__module__") (196 : Nat), val := Value.str (Str.ofString "cpy313.pstats") (187 : Nat) }, { hash := PyData.keyHash P (Str.ofString "__firstlineno__"), key := Value.str (Str.ofString "__firstlineno__") (200 : Nat), val := Value.int 2 (199 : Nat) }, { hash := PyData.keyHash P (Str.ofString "__init__"), key := Value.str (Str.ofString "__init__") (208 : Nat), val := Value.ref (28 : Nat) }, { hash := PyData.keyHash P (Str.ofString "compare"), key := Value.str (Str.ofString "compare") (221 : Nat), val := Value.ref (35 : Nat) }, { hash := PyData.keyHash P (Str.ofString "__static_attributes__"), key := Value.str (Str.ofString "__static_attributes__") (223 : Nat), val := Value.ref (36 : Nat) }, { hash := PyData.keyHash P (Str.ofString "__dict__"), key := Value.str (Str.ofString "__dict__") (225 : Nat), val := Value.ref (39 : Nat) }, { hash := PyData.keyHash P (Str.ofString "__weakref__"), key := Value.str (Str.ofString "__weakref__") (227 : Nat), val := Value.ref (40 : Nat) }, { hash := PyData.keyHash P (Str.ofString "__doc__"), key := Value.str (Str.ofString "__doc__") (228 : Nat), val := Value.none }] 4 }) ::
    (nat_lit 38, { cls := Value.type "type", data := Data.cls { name := Str.ofString "TupleComp", bases := [Value.type "object"], mro := [Value.ref (38 : Nat), Value.type "object"], ns := (37 : Nat), qualname := Str.ofString "TupleComp" }, slots := #[none, none, some (Value.str (Str.ofString "TupleComp") (189 : Nat)), some (Value.str (Str.ofString "TupleComp") (197 : Nat)), some (Value.builtin "object.__new__"), some (Value.bool true)] }) ::
    (nat_lit 39, { cls := Value.type "getset_descriptor", data := Data.fields #[Value.str (Str.ofString "__dict__") (224 : Nat), Value.ref (38 : Nat), Value.builtin "function.__dict__", Value.builtin "function.__dict__#set"] }) ::
    (nat_lit 40, { cls := Value.type "getset_descriptor", data := Data.fields #[Value.str (Str.ofString "__weakref__") (226 : Nat), Value.ref (38 : Nat), Value.builtin "ExceptionGroup.__weakref__", Value.none] }) ::
    (nat_lit 43, { cls := Value.type "tuple", data := Data.seq #[] }) ::
    (nat_lit 45, { cls := Value.type "tuple", data := Data.seq #[Value.str (Str.ofString "target") (234 : Nat), Value.str (Str.ofString "source") (235 : Nat), Value.str (Str.ofString "cc") (236 : Nat), Value.str (Str.ofString "nc") (237 : Nat), Value.str (Str.ofString "tt") (238 : Nat), Value.str (Str.ofString "ct") (239 : Nat), Value.str (Str.ofString "callers") (240 : Nat), Value.str (Str.ofString "t_cc") (241 : Nat), Value.str (Str.ofString "t_nc") (242 : Nat), Value.str (Str.ofString "t_tt") (243 : Nat), Value.str (Str.ofString "t_ct") (244 : Nat), Value.str (Str.ofString "t_callers") (245 : Nat)] }) ::
    (nat_lit 46, { cls := Value.type "tuple", data := Data.seq #[] }) ::
    (nat_lit 48, { cls := Value.type "code", data := Data.fields #[Value.str (Str.ofString "add_func_stats") (231 : Nat), Value.str (Str.ofString "add_func_stats") (232 : Nat), Value.str (Str.ofString "/claim/cut.py") (233 : Nat), Value.int 16 (0 : Nat), Value.int 2 (0 : Nat), Value.int 0 (0 : Nat), Value.int 0 (0 : Nat), Value.int 3 (0 : Nat), Value.ref (43 : Nat), Value.bool true, Value.int 181 (0 : Nat), Value.ref (44 : Nat), Value.none, Value.ref (45 : Nat), Value.ref (46 : Nat), Value.ref (47 : Nat), Value.int 246 (0 : Nat), Value.int 16 (0 : Nat), Value.str (Str.ofString "/claim/cut.py") (247 : Nat)] }) ::
    (nat_lit 49, { cls := Value.type "function", data := Data.func { name := Str.ofString "add_func_stats", qualname := Str.ofString "add_func_stats", params := ?a49, body := FuncBody.stmts ?b49, scope := ?s49, globals := (3 : Nat), closure := [], defaults := Value.none, kwdefaults := Value.none, pyModule := Value.str (Str.ofString "cpy313.pstats") (187 : Nat), code := Value.ref (48 : Nat) } }) ::
    (nat_lit 50, { cls := Value.type "tuple", data := Data.seq #[] }) ::
    (nat_lit 52, { cls := Value.type "tuple", data := Data.seq #[Value.str (Str.ofString "target") (252 : Nat), Value.str (Str.ofString "source") (253 : Nat), Value.str (Str.ofString "new_callers") (254 : Nat), Value.str (Str.ofString "func") (255 : Nat), Value.str (Str.ofString "caller") (256 : Nat)] }) ::
    (nat_lit 53, { cls := Value.type "tuple", data := Data.seq #[] }) ::
    (nat_lit 55, { cls := Value.type "code", data := Data.fields #[Value.str (Str.ofString "add_callers") (249 : Nat), Value.str (Str.ofString "add_callers") (250 : Nat), Value.str (Str.ofString "/claim/cut.py") (251 : Nat), Value.int 20 (0 : Nat), Value.int 2 (0 : Nat), Value.int 0 (0 : Nat), Value.int 0 (0 : Nat), Value.int 3 (0 : Nat), Value.ref (50 : Nat), Value.bool true, Value.int 181 (0 : Nat), Value.ref (51 : Nat), Value.none, Value.ref (52 : Nat), Value.ref (53 : Nat), Value.ref (54 : Nat), Value.int 257 (0 : Nat), Value.int 20 (0 : Nat), Value.str (Str.ofString "/claim/cut.py") (258 : Nat)] }) ::
    (nat_lit 56, { cls := Value.type "function", data := Data.func { name := Str.ofString "add_callers", qualname := Str.ofString "add_callers", params := ?a56, body := FuncBody.stmts ?b56, scope := ?s56, globals := (3 : Nat), closure := [], defaults := Value.none, kwdefaults := Value.none, pyModule := Value.str (Str.ofString "cpy313.pstats") (187 : Nat), code := Value.ref (55 : Nat) } }) ::
    (nat_lit 57, { cls := Value.type "tuple", data := Data.seq #[] }) ::
    (nat_lit 59, { cls := Value.type "tuple", data := Data.seq #[Value.str (Str.ofString "callers") (263 : Nat), Value.str (Str.ofString "nc") (264 : Nat), Value.str (Str.ofString "calls") (265 : Nat)] }) ::
    (nat_lit 60, { cls := Value.type "tuple", data := Data.seq #[] }) ::
    (nat_lit 62, { cls := Value.type "code", data := Data.fields #[Value.str (Str.ofString "count_calls") (260 : Nat), Value.str (Str.ofString "count_calls") (261 : Nat), Value.str (Str.ofString "/claim/cut.py") (262 : Nat), Value.int 33 (0 : Nat), Value.int 1 (0 : Nat), Value.int 0 (0 : Nat), Value.int 0 (0 : Nat), Value.int 3 (0 : Nat), Value.ref (57 : Nat), Value.bool true, Value.int 181 (0 : Nat), Value.ref (58 : Nat), Value.none, Value.ref (59 : Nat), Value.ref (60 : Nat), Value.ref (61 : Nat), Value.int 266 (0 : Nat), Value.int 33 (0 : Nat), Value.str (Str.ofString "/claim/cut.py") (267 : Nat)] }) ::
    (nat_lit 63, { cls := Value.type "function", data := Data.func { name := Str.ofString "count_calls", qualname := Str.ofString "count_calls", params := ?a63, body := FuncBody.stmts ?b63, scope := ?s63, globals := (3 : Nat), closure := [], defaults := Value.none, kwdefaults := Value.none, pyModule := Value.str (Str.ofString "cpy313.pstats") (187 : Nat), code := Value.ref (62 : Nat) } }) ::
    (nat_lit 64, { cls := Value.type "tuple", data := Data.seq #[] }) ::
    (nat_lit 66, { cls := Value.type "tuple", data := Data.seq #[Value.str (Str.ofString "addr") (274 : Nat), Value.str (Str.ofString "pos") (275 : Nat), Value.str (Str.ofString "escape") (276 : Nat), Value.str (Str.ofString "ch") (277 : Nat)] }) ::
    (nat_lit 67, { cls := Value.type "tuple", data := Data.seq #[] }) ::
    (nat_lit 69, { cls := Value.type "code", data := Data.fields #[Value.str (Str.ofString "_iter_escaped_chars") (271 : Nat), Value.str (Str.ofString "_iter_escaped_chars") (272 : Nat), Value.str (Str.ofString "/claim/cut.py") (273 : Nat), Value.int 39 (0 : Nat), Value.int 1 (0 : Nat), Value.int 0 (0 : Nat), Value.int 0 (0 : Nat), Value.int 35 (0 : Nat), Value.ref (64 : Nat), Value.bool true, Value.int 181 (0 : Nat), Value.ref (65 : Nat), Value.none, Value.ref (66 : Nat), Value.ref (67 : Nat), Value.ref (68 : Nat), Value.int 278 (0 : Nat), Value.int 39 (0 : Nat), Value.str (Str.ofString "/claim/cut.py") (279 : Nat)] }) ::
    (nat_lit 70, { cls := Value.type "function", data := Data.func { name := Str.ofString "_iter_escaped_chars", qualname := Str.ofString "_iter_escaped_chars", params := ?a70, body := FuncBody.stmts ?b70, scope := ?s70, globals := (3 : Nat), closure := [], defaults := Value.none, kwdefaults := Value.none, pyModule := Value.str (Str.ofString "cpy313.email.utils") (269 : Nat), code := Value.ref (69 : Nat) } }) ::
    (nat_lit 71, { cls := Value.type "tuple", data := Data.seq #[] }) ::
    (nat_lit 73, { cls := Value.type "tuple", data := Data.seq #[Value.str (Str.ofString "addr") (284 : Nat), Value.str (Str.ofString "start") (285 : Nat), Value.str (Str.ofString "open_pos") (286 : Nat), Value.str (Str.ofString "result") (287 : Nat), Value.str (Str.ofString "pos") (288 : Nat), Value.str (Str.ofString "ch") (289 : Nat)] }) ::
    (nat_lit 74, { cls := Value.type "tuple", data := Data.seq #[] }) ::
    (nat_lit 76, { cls := Value.type "code", data := Data.fields #[Value.str (Str.ofString "_strip_quoted_realnames") (281 : Nat), Value.str (Str.ofString "_strip_quoted_realnames") (282 : Nat), Value.str (Str.ofString "/claim/cut.py") (283 : Nat), Value.int 52 (0 : Nat), Value.int 1 (0 : Nat), Value.int 0 (0 : Nat), Value.int 0 (0 : Nat), Value.int 3 (0 : Nat), Value.ref (71 : Nat), Value.bool true, Value.int 181 (0 : Nat), Value.ref (72 : Nat), Value.none, Value.ref (73 : Nat), Value.ref (74 : Nat), Value.ref (75 : Nat), Value.int 290 (0 : Nat), Value.int 52 (0 : Nat), Value.str (Str.ofString "/claim/cut.py") (291 : Nat)] }) ::
    (nat_lit 77, { cls := Value.type "function", data := Data.func { name := Str.ofString "_strip_quoted_realnames", qualname := Str.ofString "_strip_quoted_realnames", params := ?a77, body := FuncBody.stmts ?b77, scope := ?s77, globals := (3 : Nat), closure := [], defaults := Value.none, kwdefaults := Value.none, pyModule := Value.str (Str.ofString "cpy313.email.utils") (269 : Nat), code := Value.ref (76 : Nat) } }) ::
    (nat_lit 78, { cls := Value.type "tuple", data := Data.seq #[] }) ::
    (nat_lit 80, { cls := Value.type "tuple", data := Data.seq #[Value.str (Str.ofString "addr") (296 : Nat), Value.str (Str.ofString "opens") (297 : Nat), Value.str (Str.ofString "pos") (298 : Nat), Value.str (Str.ofString "ch") (299 : Nat)] }) ::
    (nat_lit 81, { cls := Value.type "tuple", data := Data.seq #[] }) ::
    (nat_lit 83, { cls := Value.type "code", data := Data.fields #[Value.str (Str.ofString "_check_parenthesis") (293 : Nat), Value.str (Str.ofString "_check_parenthesis") (294 : Nat), Value.str (Str.ofString "/claim/cut.py") (295 : Nat), Value.int 70 (0 : Nat), Value.int 1 (0 : Nat), Value.int 0 (0 : Nat), Value.int 0 (0 : Nat), Value.int 3 (0 : Nat), Value.ref (78 : Nat), Value.bool true, Value.int 181 (0 : Nat), Value.ref (79 : Nat), Value.none, Value.ref (80 : Nat), Value.ref (81 : Nat), Value.ref (82 : Nat), Value.int 300 (0 : Nat), Value.int 70 (0 : Nat), Value.str (Str.ofString "/claim/cut.py") (301 : Nat)] }) ::
    (nat_lit 84, { cls := Value.type "function", data := Data.func { name := Str.ofString "_check_parenthesis", qualname := Str.ofString "_check_parenthesis", params := ?a84, body := FuncBody.stmts ?b84, scope := ?s84, globals := (3 : Nat), closure := [], defaults := Value.none, kwdefaults := Value.none, pyModule := Value.str (Str.ofString "cpy313.email.utils") (269 : Nat), code := Value.ref (83 : Nat) } }) ::
    (nat_lit 85, { cls := Value.type "dict", data := Data.dict ({ hash := PyData.keyHash P (Str.ofString "!"), key := Value.str (Str.ofString "!") (399 : Nat), val := Value.int 54 (397 : Nat) } :: { hash := PyData.keyHash P (Str.ofString "!="), key := Value.str (Str.ofString "!=") (401 : Nat), val := Value.int 28 (345 : Nat) } :: { hash := PyData.keyHash P (Str.ofString "%"), key := Value.str (Str.ofString "%") (403 : Nat), val := Value.int 24 (337 : Nat) } :: { hash := PyData.keyHash P (Str.ofString "%="), key := Value.str (Str.ofString "%=") (405 : Nat), val := Value.int 40 (369 : Nat) } :: { hash := PyData.keyHash P (Str.ofString "&"), key := Value.str (Str.ofString "&") (407 : Nat), val := Value.int 19 (327 : Nat) } :: { hash := PyData.keyHash P (Str.ofString "&="), key := Value.str (Str.ofString "&=") (409 : Nat), val := Value.int 41 (371 : Nat) } :: { hash := PyData.keyHash P (Str.ofString "("), key := Value.str (Str.ofString "(") (411 : Nat), val := Value.int 7 (303 : Nat) } :: { hash := PyData.keyHash P (Str.ofString ")"), key := Value.str (Str.ofString ")") (413 : Nat), val := Value.int 8 (305 : Nat) } :: { hash := PyData.keyHash P (Str.ofString "*"), key := Value.str (Str.ofString "*") (415 : Nat), val := Value.int 16 (321 : Nat) } :: { hash := PyData.keyHash P (Str.ofString "**"), key := Value.str (Str.ofString "**") (417 : Nat), val := Value.int 35 (359 : Nat) } :: { hash := PyData.keyHash P (Str.ofString "**="), key := Value.str (Str.ofString "**=") (419 : Nat), val := Value.int 46 (381 : Nat) } :: { hash := PyData.keyHash P (Str.ofString "*="), key := Value.str (Str.ofString "*=") (421 : Nat), val := Value.int 38 (365 : Nat) } :: { hash := PyData.keyHash P (Str.ofString "+"), key := Value.str (Str.ofString "+") (423 : Nat), val := Value.int 14 (317 : Nat) } :: { hash := PyData.keyHash P (Str.ofString "+="), key := Value.str (Str.ofString "+=") (425 : Nat), val := Value.int 36 (361 : Nat) } :: { hash := PyData.keyHash P (Str.ofString ","), key := Value.str (Str.ofString ",") (427 : Nat), val := Value.int 12 (313 : Nat) } :: { hash := PyData.keyHash P (Str.ofString "-"), key := Value.str (Str.ofString "-") (429 : Nat), val := Value.int 15 (319 : Nat) } :: { hash := PyData.keyHash P (Str.ofString "-="), key := Value.str (Str.ofString "-=") (431 : Nat), val := Value.int 37 (363 : Nat) } :: { hash := PyData.keyHash P (Str.ofString "->"), key := Value.str (Str.ofString "->") (433 : Nat), val := Value.int 51 (391 : Nat) } :: { hash := PyData.keyHash P (Str.ofString "."), key := Value.str (Str.ofString ".") (435 : Nat), val := Value.int 23 (335 : Nat) } :: { hash := PyData.keyHash P (Str.ofString "..."), key := Value.str (Str.ofString "...") (437 : Nat), val := Value.int 52 (393 : Nat) } :: { hash := PyData.keyHash P (Str.ofString "/"), key := Value.str (Str.ofString "/") (439 : Nat), val := Value.int 17 (323 : Nat) } :: { hash := PyData.keyHash P (Str.ofString "//"), key := Value.str (Str.ofString "//") (441 : Nat), val := Value.int 47 (383 : Nat) } :: { hash := PyData.keyHash P (Str.ofString "//="), key := Value.str (Str.ofString "//=") (443 : Nat), val := Value.int 48 (385 : Nat) } :: { hash := PyData.keyHash P (Str.ofString "/="), key := Value.str (Str.ofString "/=") (445 : Nat), val := Value.int 39 (367 : Nat) } :: { hash := PyData.keyHash P (Str.ofString ":"), key := Value.str (Str.ofString ":") (447 : Nat), val := Value.int 11 (311 : Nat) } :: { hash := PyData.keyHash P (Str.ofString ":="), key := Value.str (Str.ofString ":=") (449 : Nat), val := Value.int 53 (395 : Nat) } :: { hash := PyData.keyHash P (Str.ofString ";"), key := Value.str (Str.ofString ";") (451 : Nat), val := Value.int 13 (315 : Nat) } :: { hash := PyData.keyHash P (Str.ofString "<"), key := Value.str (Str.ofString "<") (453 : Nat), val := Value.int 20 (329 : Nat) } :: { hash := PyData.keyHash P (Str.ofString "<<"), key := Value.str (Str.ofString "<<") (455 : Nat), val := Value.int 33 (355 : Nat) } :: { hash := PyData.keyHash P (Str.ofString "<<="), key := Value.str (Str.ofString "<<=") (457 : Nat), val := Value.int 44 (377 : Nat) } :: { hash := PyData.keyHash P (Str.ofString "<="), key := Value.str (Str.ofString "<=") (459 : Nat), val := Value.int 29 (347 : Nat) } :: { hash := PyData.keyHash P (Str.ofString "="), key := Value.str (Str.ofString "=") (461 : Nat), val := Value.int 22 (333 : Nat) } :: { hash := PyData.keyHash P (Str.ofString "=="), key := Value.str (Str.ofString "==") (463 : Nat), val := Value.int 27 (343 : Nat) } :: { hash := PyData.keyHash P (Str.ofString ">"), key := Value.str (Str.ofString ">") (465 : Nat), val := Value.int 21 (331 : Nat) } :: { hash := PyData.keyHash P (Str.ofString ">="), key := Value.str (Str.ofString ">=") (467 : Nat), val := Value.int 30 (349 : Nat) } :: { hash := PyData.keyHash P (Str.ofString ">>"), key := Value.str (Str.ofString ">>") (468 : Nat), val := Value.int 34 (357 : Nat) } :: { hash := PyData.keyHash P (Str.ofString ">>="), key := Value.str (Str.ofString ">>=") (469 : Nat), val := Value.int 45 (379 : Nat) } :: { hash := PyData.keyHash P (Str.ofString "@"), key := Value.str (Str.ofString "@") (470 : Nat), val := Value.int 49 (387 : Nat) } :: { hash := PyData.keyHash P (Str.ofString "@="), key := Value.str (Str.ofString "@=") (471 : Nat), val := Value.int 50 (389 : Nat) } :: { hash := PyData.keyHash P (Str.ofString "["), key := Value.str (Str.ofString "[") (472 : Nat), val := Value.int 9 (307 : Nat) } :: { hash := PyData.keyHash P (Str.ofString "]"), key := Value.str (Str.ofString "]") (473 : Nat), val := Value.int 10 (309 : Nat) } :: { hash := PyData.keyHash P (Str.ofString "^"), key := Value.str (Str.ofString "^") (474 : Nat), val := Value.int 32 (353 : Nat) } :: { hash := PyData.keyHash P (Str.ofString "^="), key := Value.str (Str.ofString "^=") (475 : Nat), val := Value.int 43 (375 : Nat) } :: { hash := PyData.keyHash P (Str.ofString "{"), key := Value.str (Str.ofString "{") (476 : Nat), val := Value.int 25 (339 : Nat) } :: { hash := PyData.keyHash P (Str.ofString "|"), key := Value.str (Str.ofString "|") (477 : Nat), val := Value.int 18 (325 : Nat) } :: { hash := PyData.keyHash P (Str.ofString "|="), key := Value.str (Str.ofString "|=") (478 : Nat), val := Value.int 42 (373 : Nat) } :: { hash := PyData.keyHash P (Str.ofString "}"), key := Value.str (Str.ofString "}") (479 : Nat), val := Value.int 26 (341 : Nat) } :: { hash := PyData.keyHash P (Str.ofString "~"), key := Value.str (Str.ofString "~") (480 : Nat), val := Value.int 31 (351 : Nat) } :: []).toArray 48 }) ::
    (nat_lit 88, { cls := Value.type "tuple", data := Data.seq #[] }) ::
    (nat_lit 91, { cls := Value.type "code", data := Data.fields #[Value.str (Str.ofString "_law_drawn") (498 : Nat), Value.str (Str.ofString "_law_drawn") (499 : Nat), Value.str (Str.ofString "/claim/cut.py") (500 : Nat), Value.int 131 (0 : Nat), Value.int 1 (0 : Nat), Value.int 0 (0 : Nat), Value.int 0 (0 : Nat), Value.int 3 (0 : Nat), Value.ref (88 : Nat), Value.bool true, Value.int 181 (0 : Nat), Value.ref (89 : Nat), Value.none, Value.none, Value.none, Value.ref (90 : Nat), Value.int 501 (0 : Nat), Value.int 131 (0 : Nat), Value.str (Str.ofString "/claim/cut.py") (502 : Nat)] }) ::
    (nat_lit 92, { cls := Value.type "function", data := Data.func { name := Str.ofString "_law_drawn", qualname := Str.ofString "_law_drawn", params := ?a92, body := FuncBody.stmts ?b92, scope := ?s92, globals := (3 : Nat), closure := [], defaults := Value.none, kwdefaults := Value.none, pyModule := Value.str (Str.ofString "law_wf0057_01") (496 : Nat), code := Value.ref (91 : Nat) } }) ::
    (nat_lit 93, { cls := Value.type "tuple", data := Data.seq #[] }) ::
    (nat_lit 96, { cls := Value.type "code", data := Data.fields #[Value.str (Str.ofString "_law_lay") (504 : Nat), Value.str (Str.ofString "_law_lay") (505 : Nat), Value.str (Str.ofString "/claim/cut.py") (506 : Nat), Value.int 150 (0 : Nat), Value.int 4 (0 : Nat), Value.int 0 (0 : Nat), Value.int 0 (0 : Nat), Value.int 3 (0 : Nat), Value.ref (93 : Nat), Value.bool true, Value.int 181 (0 : Nat), Value.ref (94 : Nat), Value.none, Value.none, Value.none, Value.ref (95 : Nat), Value.int 507 (0 : Nat), Value.int 150 (0 : Nat), Value.str (Str.ofString "/claim/cut.py") (508 : Nat)] }) ::
    (nat_lit 97, { cls := Value.type "function", data := Data.func { name := Str.ofString "_law_lay", qualname := Str.ofString "_law_lay", params := ?a97, body := FuncBody.stmts ?b97, scope := ?s97, globals := (3 : Nat), closure := [], defaults := Value.none, kwdefaults := Value.none, pyModule := Value.str (Str.ofString "law_wf0057_01") (496 : Nat), code := Value.ref (96 : Nat) } }) ::
    (nat_lit 98, { cls := Value.type "tuple", data := Data.seq #[] }) ::
    (nat_lit 101, { cls := Value.type "code", data := Data.fields #[Value.str (Str.ofString "_law_line") (510 : Nat), Value.str (Str.ofString "_law_line") (511 : Nat), Value.str (Str.ofString "/claim/cut.py") (512 : Nat), Value.int 165 (0 : Nat), Value.int 2 (0 : Nat), Value.int 0 (0 : Nat), Value.int 0 (0 : Nat), Value.int 3 (0 : Nat), Value.ref (98 : Nat), Value.bool true, Value.int 181 (0 : Nat), Value.ref (99 : Nat), Value.none, Value.none, Value.none, Value.ref (100 : Nat), Value.int 513 (0 : Nat), Value.int 165 (0 : Nat), Value.str (Str.ofString "/claim/cut.py") (514 : Nat)] }) ::
    (nat_lit 102, { cls := Value.type "function", data := Data.func { name := Str.ofString "_law_line", qualname := Str.ofString "_law_line", params := ?a102, body := FuncBody.stmts ?b102, scope := ?s102, globals := (3 : Nat), closure := [], defaults := Value.none, kwdefaults := Value.none, pyModule := Value.str (Str.ofString "law_wf0057_01") (496 : Nat), code := Value.ref (101 : Nat) } }) ::
    (nat_lit 103, { cls := Value.type "tuple", data := Data.seq #[] }) ::
    (nat_lit 106, { cls := Value.type "code", data := Data.fields #[Value.str (Str.ofString "_law_struck") (516 : Nat), Value.str (Str.ofString "_law_struck") (517 : Nat), Value.str (Str.ofString "/claim/cut.py") (518 : Nat), Value.int 174 (0 : Nat), Value.int 2 (0 : Nat), Value.int 0 (0 : Nat), Value.int 0 (0 : Nat), Value.int 3 (0 : Nat), Value.ref (103 : Nat), Value.bool true, Value.int 181 (0 : Nat), Value.ref (104 : Nat), Value.none, Value.none, Value.none, Value.ref (105 : Nat), Value.int 519 (0 : Nat), Value.int 174 (0 : Nat), Value.str (Str.ofString "/claim/cut.py") (520 : Nat)] }) ::
    (nat_lit 107, { cls := Value.type "function", data := Data.func { name := Str.ofString "_law_struck", qualname := Str.ofString "_law_struck", params := ?a107, body := FuncBody.stmts ?b107, scope := ?s107, globals := (3 : Nat), closure := [], defaults := Value.none, kwdefaults := Value.none, pyModule := Value.str (Str.ofString "law_wf0057_01") (496 : Nat), code := Value.ref (106 : Nat) } }) ::
    (nat_lit 108, { cls := Value.type "tuple", data := Data.seq #[] }) ::
    (nat_lit 111, { cls := Value.type "code", data := Data.fields #[Value.str (Str.ofString "law") (522 : Nat), Value.str (Str.ofString "law") (523 : Nat), Value.str (Str.ofString "/claim/cut.py") (524 : Nat), Value.int 184 (0 : Nat), Value.int 1 (0 : Nat), Value.int 0 (0 : Nat), Value.int 0 (0 : Nat), Value.int 3 (0 : Nat), Value.ref (108 : Nat), Value.bool true, Value.int 181 (0 : Nat), Value.ref (109 : Nat), Value.none, Value.none, Value.none, Value.ref (110 : Nat), Value.int 525 (0 : Nat), Value.int 184 (0 : Nat), Value.str (Str.ofString "/claim/cut.py") (526 : Nat)] }) ::
    (nat_lit 112, { cls := Value.type "function", data := Data.func { name := Str.ofString "law", qualname := Str.ofString "law", params := ?a112, body := FuncBody.stmts ?b112, scope := ?s112, globals := (3 : Nat), closure := [], defaults := Value.none, kwdefaults := Value.none, pyModule := Value.str (Str.ofString "law_wf0057_01") (496 : Nat), code := Value.ref (111 : Nat) } }) :: []
  )))))))))))))
end Mine

namespace Mine
/-- 'k_fill' keeps the note of what K0 holds, for 'k_is' -/
theorem filled : (fun (_ : OpenLaw) (_ : Params → Frag) => True) PySem.Challenge.rw_wf0057_01 K0 := by
  k_fill
  trivial
end Mine

section
open PySem PySem.W PySem.Calls PyProof.Rows
set_option maxRecDepth 100000
namespace Mine

structure Wd (w : World) (h : Heap) : Prop where
  X : (K0 w.params).In h
  T : ∃ p loose mg mb, TopRead p loose mg mb h
theorem Wd.keeps {w : World} {h h' : Heap} (W : Wd w h) (hk : ∀ b o, h.get? b = some o → h'.get? b = some o) : Wd w h' :=
  ⟨W.X.keeps hk, let ⟨p, l, mg, mb, T⟩ := W.T; ⟨p, l, mg, mb, T.keeps hk⟩⟩
theorem Wd.nolimit {w : World} {h : Heap} (W : Wd w h) : h.NoLimit := let ⟨_, _, _, _, T⟩ := W.T; T.nolimit

structure Kept (s s' : Shared) : Prop where
  heap : ∀ b o, s.heap.get? b = some o → s'.heap.get? b = some o
  gens : AllBare s.gens → AllBare s'.gens
  os : s'.os = s.os
theorem Kept.refl (s : Shared) : Kept s s := ⟨fun _ _ e => e, id, rfl⟩
theorem Kept.trans {s s' s'' : Shared} (a : Kept s s') (b : Kept s' s'') : Kept s s'' := ⟨fun x o e => b.heap x o (a.heap x o e), fun g => b.gens (a.gens g), b.os.trans a.os⟩

theorem enter {w : World} {A : Around} {s : Shared} {Q E : Value → Shared → Prop} {name qual : Str} {params : Arguments} {body : List Stmt} {scope : Scope} {dV kV doc pm cdv ct oc : Value} {an od : Option Addr} {osl : Array (Option Value)} {f : Addr} {args : List Value} {binds : List (Str × Value)}
    (W : Wd w s.heap) (ho : (K0 w.params).lookup f = some ⟨oc, od, .func (fnOf name qual params body scope dV kV doc pm an cdv ct), osl⟩) (hcd : codeIn (K0 w.params) cdv qual = true) (hroom : A.depth < recursionLimit)
    (hbind : BindsTo s (fnOf name qual params body scope dV kV doc pm an cdv ct) ⟨args, []⟩ binds) (hloc : ∀ y ∈ binds, scope.names.lookup y.1 = some .local)
    (h : ∀ h₁, Fr s.heap s.heap.objs.size h₁ (fun x => binds.reverse.lookup x) →
      wpAny (model PR w) (A.deeper (envOf qual scope s.heap.objs.size f cdv)) (execs body (envOf qual scope s.heap.objs.size f cdv))
        (fun fl s' => Q (match fl with | .ret v => v | _ => .none) s') (fun _ _ => False) { s with heap := h₁, toks := s.toks + binds.length })
    (hco : scope.isCoroutine = false) (hgen : scope.isGenerator = false) (hk : scope.kind = .function)
    (hcell : ∀ x ∈ scope.names, x.2 ≠ .cell) : wpAny (model PR w) A (call (.ref f) args) Q E s := by
  refine wpAny_call (codeAny_call_def (fd := fnOf name qual params body scope dV kV doc pm an cdv ct) (body := body) hroom (W.X _ _ ho) rfl W.nolimit (codeRec_of W.X hcd) rfl hbind hcell hloc (fun h₁ hns hk₁ => ?_) hco hgen hk)
  exact wpAny_mono (h h₁ ⟨hns, hk₁, Nat.le_refl _⟩) (fun _ _ x => x) (fun _ _ x => x.elim)
end Mine
end

section
open PySem PySem.W PySem.Calls PyProof.Rows
set_option maxRecDepth 100000
namespace Mine
abbrev Led := List (Addr × Obj)
/-- what a walk knows: the locals at L, the part g that stays, the ledger of what may turn -/
structure Fx (g : Heap) (L : Addr) (led : Led) (h : Heap) (m : Str → Option Value) : Prop where
  ns : h.Ns L m
  keep : ∀ b o, g.get? b = some o → h.get? b = some o
  off : g.get? L = none
  at_ : ∀ p ∈ led, h.get? p.1 = some p.2 ∧ p.1 ≠ L ∧ g.get? p.1 = none
  nd : (led.map (·.1)).Nodup
abbrev Sub (g h : Heap) : Prop := ∀ b o, g.get? b = some o → h.get? b = some o

section
variable {g g' h h' : Heap} {L a d : Addr} {led led' pre post : Led} {m m' : Str → Option Value} {o o' : Obj}
theorem Fx.store (F : Fx g L led h m) (hn : h'.Ns L m') (hs : Heap.SameBut L h h') : Fx g L led h' m' :=
  ⟨hn, fun b o e => hs.extBut b o (fun q => by rw [q, F.off] at e; cases e) (F.keep b o e), F.off, fun p hp => ⟨hs.extBut _ _ (F.at_ p hp).2.1 (F.at_ p hp).1, (F.at_ p hp).2⟩, F.nd⟩
theorem Fx.ext (F : Fx g L led h m) (hk : Sub h h') : Fx g L led h' m :=
  ⟨F.ns.keeps hk, fun b o e => hk b o (F.keep b o e), F.off, fun p hp => ⟨hk _ _ (F.at_ p hp).1, (F.at_ p hp).2⟩, F.nd⟩
theorem Sub.push (h : Heap) (o : Obj) : Sub h (h.push o) := fun _ _ e => Heap.get?_push_of_some _ e
theorem get_size (h : Heap) : h.get? h.objs.size = none := by
  cases e : h.get? h.objs.size with
  | none => rfl
  | some o => exact absurd (Heap.lt_size e) (Nat.lt_irrefl _)
theorem Fx.new (F : Fx g L led h m) (hk : Sub h h') (ha : h.get? a = none) (ha' : h'.get? a = some o) : Fx g L ((a, o) :: led) h' m := by
  have F' := F.ext hk
  refine ⟨F'.ns, F'.keep, F'.off, fun p hp => ?_, ?_⟩
  · rcases List.mem_cons.mp hp with rfl | hp
    · refine ⟨ha', fun q => ?_, ?_⟩
      · obtain ⟨oL, _, _, e, _⟩ := F.ns
        have q' : a = L := q
        rw [q', e] at ha; cases ha
      · cases e : g.get? a with
        | none => rfl
        | some x => rw [F.keep _ _ e] at ha; cases ha
    · exact F'.at_ p hp
  · rw [List.map_cons, List.nodup_cons]
    refine ⟨fun hm => ?_, F.nd⟩
    obtain ⟨p, hp, e⟩ := List.mem_map.mp hm
    have e' : p.1 = a := e
    have := (F.at_ p hp).1
    rw [e', ha] at this; cases this
theorem Fx.push (F : Fx g L led h m) (hf : o.isFreed = false := by rfl) : Fx g L ((h.objs.size, o) :: led) (h.push o) m :=
  F.new (Sub.push h o) (get_size h) (Heap.get?_push_size _ hf)
theorem Fx.perm (F : Fx g L led h m) (p : led'.Perm led) : Fx g L led' h m :=
  ⟨F.ns, F.keep, F.off, fun q hq => F.at_ q (p.mem_iff.mp hq), (p.map _).nodup_iff.mpr F.nd⟩
theorem Fx.drop (F : Fx g L led h m) (p : led'.Sublist led) : Fx g L led' h m :=
  ⟨F.ns, F.keep, F.off, fun q hq => F.at_ q (p.subset hq), (p.map _).nodup F.nd⟩
theorem Fx.tail {p : Addr × Obj} (F : Fx g L (p :: led) h m) : Fx g L led h m := F.drop (List.sublist_cons_self _ _)
theorem Fx.get (F : Fx g L led h m) (hp : (a, o) ∈ led) : h.get? a = some o := (F.at_ _ hp).1
theorem Fx.here (F : Fx g L ((a, o) :: led) h m) : h.get? a = some o := (F.at_ _ (.head _)).1
/-- the head of the ledger turns -/
theorem Fx.upd (F : Fx g L ((d, o) :: led) h m) (hs : Heap.SameBut d h h') (hd : h'.get? d = some o') : Fx g L ((d, o') :: led) h' m := by
  have D := F.at_ _ (.head _)
  have hnd := List.nodup_cons.mp F.nd
  refine ⟨F.ns.sameBut hs (Ne.symm D.2.1), fun b x e => hs.extBut b x (fun q => ?_) (F.keep b x e), F.off, fun p hp => ?_, F.nd⟩
  · have := D.2.2
    rw [← (show b = d from q), e] at this; cases this
  · rcases List.mem_cons.mp hp with rfl | hp
    · exact ⟨hd, D.2⟩
    · exact ⟨hs.extBut _ _ (fun q => hnd.1 (List.mem_map.mpr ⟨p, hp, q⟩)) (F.at_ p (.tail _ hp)).1, (F.at_ p (.tail _ hp)).2⟩
theorem Fx.updE (F : Fx g L ((d, o) :: led) h m) (hs : ∀ b x, b ≠ d → h.get? b = some x → h'.get? b = some x) (hd : h'.get? d = some o') : Fx g L ((d, o') :: led) h' m := by
  have D := F.at_ _ (.head _)
  have hnd := List.nodup_cons.mp F.nd
  refine ⟨F.ns.at fun x e => hs _ x (Ne.symm D.2.1) e, fun b x e => hs b x (fun q => ?_) (F.keep b x e), F.off, fun p hp => ?_, F.nd⟩
  · have := D.2.2
    rw [← (show b = d from q), e] at this; cases this
  · rcases List.mem_cons.mp hp with rfl | hp
    · exact ⟨hd, D.2⟩
    · exact ⟨hs _ _ (fun q => hnd.1 (List.mem_map.mpr ⟨p, hp, q⟩)) (F.at_ p (.tail _ hp)).1, (F.at_ p (.tail _ hp)).2⟩
theorem sub_of_size {h h' : Heap} (x : Heap.ExtBut h.objs.size h h') : Sub h h' := fun b o e => x b o (Nat.ne_of_lt (Heap.lt_size e)) e
theorem Fx.off_get (F : Fx g L led h m) (e : g.get? a = some o) : a ≠ L := fun q => by rw [q, F.off] at e; cases e
/-- a fresh view of all that stands now, but the locals and the ledger -/
theorem Fx.anew (F : Fx g L led h m) (_hs : led'.Sublist led) : ∃ g', Fx g' L led' h m ∧ Sub g g' ∧ ∀ b o, h.get? b = some o → b ≠ L → (∀ p ∈ led', p.1 ≠ b) → g'.get? b = some o := by
  refine ⟨hideAll h (L :: led'.map (·.1)), ⟨F.ns, fun b o e => of_hideAll _ e, hideAll_none _ (.head _), fun p hp => ?_, (_hs.map _).nodup F.nd⟩, fun b o e => ?_, fun b o e h1 h2 => ?_⟩
  · have := F.at_ p (_hs.subset hp)
    exact ⟨this.1, this.2.1, hideAll_none _ (List.mem_cons_of_mem _ (List.mem_map_of_mem hp))⟩
  · refine hideAll_get _ (F.keep b o e) fun q => ?_
    rcases List.mem_cons.mp q with rfl | q
    · rw [F.off] at e; cases e
    · obtain ⟨p, hp, e'⟩ := List.mem_map.mp q
      have := (F.at_ p (_hs.subset hp)).2.2
      rw [show p.1 = b from e', e] at this; cases this
  · refine hideAll_get _ e fun q => ?_
    rcases List.mem_cons.mp q with q | q
    · exact h1 q
    · obtain ⟨p, hp, e'⟩ := List.mem_map.mp q
      exact h2 p hp e'
/-- the ledger's head goes to what stays -/
theorem Fx.still (F : Fx g L ((a, o) :: led) h m) : ∃ g', Fx g' L led h m ∧ Sub g g' ∧ g'.get? a = some o := by
  obtain ⟨g', F', hs, hg⟩ := F.anew (List.sublist_cons_self _ _)
  refine ⟨g', F', hs, hg a o F.here (F.at_ _ (.head _)).2.1 fun p hp q => ?_⟩
  exact (List.nodup_cons.mp F.nd).1 (List.mem_map.mpr ⟨p, hp, q⟩)
/-- what a callee made (on gf: all of it fresh) goes to what stays -/
theorem Fx.take {gf : Heap} (F : Fx g L led h m) (hk : Sub h h') (hf : ∀ b o, gf.get? b = some o → h'.get? b = some o ∧ h.get? b = none) : ∃ g', Fx g' L led h' m ∧ Sub g g' ∧ Sub gf g' := by
  obtain ⟨g', F', hs, hg⟩ := (F.ext hk).anew (List.Sublist.refl _)
  refine ⟨g', F', hs, fun b o e => hg b o (hf b o e).1 (fun q => ?_) fun p hp q => ?_⟩
  · obtain ⟨oL, _, _, eL, _⟩ := F.ns
    have := (hf b o e).2
    rw [q, eL] at this; cases this
  · have h1 := (F.at_ p hp).1
    have h2 := (hf b o e).2
    rw [← q, h1] at h2; cases h2
end

section
variable {M : Model} {A : Around} {E : Value → Shared → Prop} {s : Shared} {env : Env} {g : Heap} {led : Led} {m : Str → Option Value} {x : Str} {v : Value} {pos : Pos} {w : World}
theorem nm {Q : Value → Shared → Prop} (F : Fx g env.locals led s.heap m) (hv : m x = some v) (h : Q v s)
    (hk : env.scope.kind = .function := by rfl) (hl : env.kindOf x = some .local := by rfl) (hd : (x == ("__debug__" : Str)) = false := by decide) :
    wpAny M A (eval (.Name x pos) env) Q E s := wpAny_Name (wpAny_loadName_local hk hl F.ns hv h) hd
theorem ldm {Q : Value → Shared → Prop} (F : Fx g env.locals led s.heap m) (hv : m x = some v) (h : Q v s)
    (hk : env.scope.kind = .function := by rfl) (hl : env.kindOf x = some .local := by rfl) :
    wpAny M A (loadName env x) Q E s := wpAny_loadName_local hk hl F.ns hv h
theorem sto {Q : Unit → Shared → Prop} (F : Fx g env.locals led s.heap m)
    (h : ∀ h', Fx g env.locals led h' (fun y => if y = x then some v else m y) → Q () { s with heap := h', toks := s.toks + 1 })
    (hk : env.scope.kind = .function := by rfl) (hl : env.kindOf x = some .local := by rfl) :
    wpAny M A (storeName env x v) Q E s :=
  wpAny_storeName_local hl F.ns (fun h' hn hs => h h' (F.store hn hs)) (by rw [hk]; rfl)
theorem glb {Q : Value → Shared → Prop} (F : Fx g env.locals led s.heap m) (W : Wd w g) (e : nsIn (K0 w.params) mainGlobals x = some (some v)) (h : Q v s)
    (hg : env.globals = mainGlobals := by rfl) (hk : env.scope.kind = .function := by rfl) (hx : env.kindOf x = some .globalImplicit := by rfl) (hd : (x == ("__debug__" : Str)) = false := by decide) :
    wpAny M A (eval (.Name x pos) env) Q E s := by
  obtain ⟨_, _, mg, mb, T⟩ := W.T
  exact Name_function_global hk hx (loadGlobal_global (hg ▸ T.g.keeps F.keep) (mg_of W.X T.g e) h) hd
theorem blt {Q : Value → Shared → Prop} (F : Fx g env.locals led s.heap m) (W : Wd w g) (e : nsIn (K0 w.params) mainGlobals x = some none) (hv : bootBuiltins x = some v) (hn : x ≠ "__name__") (h : Q v s)
    (hg : env.globals = mainGlobals := by rfl) (hb : env.builtins = builtinsNs := by rfl) (hk : env.scope.kind = .function := by rfl) (hx : env.kindOf x = some .globalImplicit := by rfl) (hd : (x == ("__debug__" : Str)) = false := by decide) :
    wpAny M A (eval (.Name x pos) env) Q E s := by
  obtain ⟨_, _, mg, mb, T⟩ := W.T
  exact Name_function_global hk hx (loadGlobal_builtin (hg ▸ T.g.keeps F.keep) (mg_none_of W.X T.g e) (hb ▸ T.b.keeps F.keep) ((T.builtins x hn).trans hv) h) hd
end

theorem enterX {w : World} {A : Around} {s : Shared} {g : Heap} {Q E : Value → Shared → Prop} {name qual : Str} {params : Arguments} {body : List Stmt} {scope : Scope} {dV kV doc pm cdv ct oc : Value} {an od : Option Addr} {osl : Array (Option Value)} {f : Addr} {args : List Value} {binds : List (Str × Value)}
    (W : Wd w g) (hg : Sub g s.heap) (ho : (K0 w.params).lookup f = some ⟨oc, od, .func (fnOf name qual params body scope dV kV doc pm an cdv ct), osl⟩) (hcd : codeIn (K0 w.params) cdv qual = true) (hroom : A.depth < recursionLimit)
    (hbind : BindsTo s (fnOf name qual params body scope dV kV doc pm an cdv ct) ⟨args, []⟩ binds) (hloc : ∀ y ∈ binds, scope.names.lookup y.1 = some .local)
    (h : ∀ h₁ L, L = s.heap.objs.size → Sub s.heap h₁ → Fx g L [] h₁ (fun x => binds.reverse.lookup x) →
      wpAny (model PR w) (A.deeper (envOf qual scope L f cdv)) (execs body (envOf qual scope L f cdv))
        (fun fl s' => Q (match fl with | .ret v => v | _ => .none) s') (fun _ _ => False) { s with heap := h₁, toks := s.toks + binds.length })
    (hco : scope.isCoroutine = false) (hgen : scope.isGenerator = false) (hk : scope.kind = .function)
    (hcell : ∀ x ∈ scope.names, x.2 ≠ .cell) : wpAny (model PR w) A (call (.ref f) args) Q E s := by
  have W' := W.keeps hg
  refine wpAny_call (codeAny_call_def (fd := fnOf name qual params body scope dV kV doc pm an cdv ct) (body := body) hroom (W'.X _ _ ho) rfl W'.nolimit (codeRec_of W'.X hcd) rfl hbind hcell hloc (fun h₁ hns hk₁ => ?_) hco hgen hk)
  refine wpAny_mono (h h₁ _ rfl hk₁ ⟨hns, fun b o e => hk₁ b o (hg b o e), ?_, fun _ hp => (nomatch hp), .nil⟩) (fun _ _ x => x) (fun _ _ x => x.elim)
  cases e : g.get? s.heap.objs.size with
  | none => rfl
  | some o => have := hg _ _ e; rw [get_size] at this; cases this
end Mine
end

section
open PySem PySem.W PySem.Calls PyProof.Rows
set_option maxRecDepth 100000
namespace Mine
structure Rel (s s' : Shared) : Prop where
  gens : AllBare s.gens → AllBare s'.gens
  os : s'.os = s.os
theorem Rel.refl (s : Shared) : Rel s s := ⟨id, rfl⟩
theorem Rel.trans {s s' s'' : Shared} (a : Rel s s') (b : Rel s' s'') : Rel s s'' := ⟨fun h => b.gens (a.gens h), b.os.trans a.os⟩
theorem Rel.same {s : Shared} {h' : Heap} {tk : Nat} : Rel s { s with heap := h', toks := tk } := ⟨id, rfl⟩

/-- a source of turns: pyNext, the owned tuple, the target's stores -/
structure Source (w : World) (A : Around) (env : Env) (target : Expr) (it : Addr) (g₀ : Heap) (n : Nat) (St : Nat → Led → Prop) (B : Nat → Heap → (Str → Option Value) → (Str → Option Value) → Prop) : Prop where
  item : ∀ i il g led (s : Shared) m (Q : Unit → Shared → Prop) (E : Value → Shared → Prop) (K : Option Value → Shared → Prop), i < n → St i il → Sub g₀ g → Fx g env.locals (il ++ led) s.heap m →
    (∀ v s₁, wpAny (model PR w) A (letOwnedTupleGo target (.ref it) v) (fun _ s₂ => wpAny (model PR w) A (assign target env v) Q E s₂) E s₁ → K (some v) s₁) →
    (∀ h' tk il' m' g', Sub g g' → St (i + 1) il' → Fx g' env.locals (il' ++ led) h' m' → B i g' m m' → Q () { s with heap := h', toks := tk }) →
    wpAny (model PR w) A (pyNext (.ref it)) K E s
  done : ∀ il g led (s : Shared) m (E : Value → Shared → Prop) (K : Option Value → Shared → Prop), St n il → Sub g₀ g → Fx g env.locals (il ++ led) s.heap m →
    (∀ h' tk, Fx g env.locals led h' m → K none { s with heap := h', toks := tk }) →
    wpAny (model PR w) A (pyNext (.ref it)) K E s

section
variable {w : World} {A : Around} {env : Env} {target : Expr} {it : Addr} {g₀ g : Heap} {n : Nat} {St : Nat → Led → Prop} {B : Nat → Heap → (Str → Option Value) → (Str → Option Value) → Prop} {E : Value → Shared → Prop} {s : Shared} {il led : Led} {m : Str → Option Value}

theorem forS (S : Source w A env target it g₀ n St B) (U : Nat → (Str → Option Value) → Heap → Led → Prop) {Q : Flow → Shared → Prop} {body : List Stmt}
    (F : Fx g env.locals (il ++ led) s.heap m) (h0g : Sub g₀ g) (hst : St 0 il) (h0 : U 0 m g led)
    (hmono : ∀ i m g g' led, Sub g g' → U i m g led → U i m g' led)
    (step : ∀ i m₁ m₂ g₂ il₂ led₁ (s₁ : Shared), i < n → Sub g g₂ → U i m₁ g₂ led₁ → B i g₂ m₁ m₂ → Fx g₂ env.locals (il₂ ++ led₁) s₁.heap m₂ → Rel s s₁ →
      wpAny (model PR w) A (execs body env) (fun f s₂ => match f with
        | .next | .cont => Rel s₁ s₂ ∧ ∃ m₃ g₃ led₃, Sub g₂ g₃ ∧ Fx g₃ env.locals (il₂ ++ led₃) s₂.heap m₃ ∧ U (i + 1) m₃ g₃ led₃
        | .brk => False
        | .ret v => Q (.ret v) s₂) (fun _ _ => False) s₁)
    (done : ∀ (s' : Shared) m' g' led', Sub g g' → U n m' g' led' → Fx g' env.locals led' s'.heap m' → Rel s s' → Q .next s') :
    codeAny (model PR w) A (.forLoop target (.ref it) body [] env) (fun r s' => match r with | .ok f => Q f s' | .error _ => False) s := by
  refine codeAny_forLoop_any (fun k s' => ∃ i il' led' m' g', k = n + 1 - i ∧ i ≤ n ∧ St i il' ∧ Sub g g' ∧ U i m' g' led' ∧ Fx g' env.locals (il' ++ led') s'.heap m' ∧ Rel s s') ?_ (n + 1)
    ⟨0, il, led, m, g, rfl, Nat.zero_le _, hst, fun _ _ e => e, h0, F, Rel.refl s⟩
  rintro k s' ⟨i, il', led', m', g', rfl, hi, hst', hg, hU, F', hr⟩
  rcases Nat.lt_or_ge i n with hlt | hge
  · refine S.item i il' g' led' s' m' _ _ _ hlt hst' (fun b o e => hg b o (h0g b o e)) F' (fun v s₁ hx => hx) fun h₁ tk il₁ m₁ g₁ hg₁ hst₁ F₁ hB => ?_
    · refine wpAny_mono (step i m' m₁ g₁ il₁ led' _ hlt (fun b o e => hg₁ b o (hg b o e)) (hmono _ _ _ _ _ hg₁ hU) hB F₁ (hr.trans Rel.same)) (fun f s₂ h₂ => ?_) fun _ _ x => x.elim
      cases f with
      | next =>
        obtain ⟨hr₂, m₃, g₃, led₃, hg₃, F₃, hU₃⟩ := h₂
        exact ⟨n + 1 - (i + 1), by omega, i + 1, il₁, led₃, m₃, g₃, rfl, hlt, hst₁, fun b o e => hg₃ b o (hg₁ b o (hg b o e)), hU₃, F₃, (hr.trans Rel.same).trans hr₂⟩
      | cont =>
        obtain ⟨hr₂, m₃, g₃, led₃, hg₃, F₃, hU₃⟩ := h₂
        exact ⟨n + 1 - (i + 1), by omega, i + 1, il₁, led₃, m₃, g₃, rfl, hlt, hst₁, fun b o e => hg₃ b o (hg₁ b o (hg b o e)), hU₃, F₃, (hr.trans Rel.same).trans hr₂⟩
      | brk => exact h₂.elim
      | ret v => exact h₂
  · have hin : i = n := Nat.le_antisymm hi hge
    subst hin
    exact S.done il' g' led' s' m' _ _ hst' (fun b o e => hg b o (h0g b o e)) F' fun h₁ tk F₁ => wpAny_execs_nil (done _ m' g' led' hg hU F₁ (hr.trans Rel.same))
end

section
variable {w : World} {A : Around} {env : Env} {it d : Addr} {g₀ g : Heap} {E : Value → Shared → Prop} {s : Shared} {led : Led} {m : Str → Option Value}

theorem storeT {x : Str} {v : Value} {Q : Unit → Shared → Prop} {px : Pos} (F : Fx g env.locals led s.heap m) (hk : env.scope.kind = .function) (hl : env.kindOf x = some .local)
    (h : ∀ h' tk, Fx g env.locals led h' (fun y => if y = x then some v else m y) → Q () { s with heap := h', toks := tk }) : wpAny (model PR w) A (assign (.Name x px) env v) Q E s :=
  wpAny_assign_Name (wpAny_storeName_local hl F.ns (fun h' hn hs => h h' _ (F.store hn hs)) (by rw [hk]; rfl))

def itemObj (d : Addr) (i n ep : Nat) (ok ov : Value) : Obj := { cls := .type "dict_itemiterator", dict := none, data := .fields #[.none, .bool false, .ref d, .int i 0, .int n 0, .int ep 0, ok, ov], slots := #[] }
def itemSt (it d : Addr) (n ep : Nat) (i : Nat) (il : Led) : Prop := ∃ ok ov, il = [(it, itemObj d i n ep ok ov)]
theorem isInt_key {k : Int} {key : Value} (h : (intKind PR w).is k key = true) : ∃ t, key = .int k t := by
  have h' : Value.isInt k key = true := h
  cases key with
  | int i t => exact ⟨t, by simp only [Value.isInt, beq_iff_eq] at h'; rw [h']⟩
  | _ => simp [Value.isInt] at h'
theorem Fx.out {o : Obj} {h h' : Heap} (F : Fx g env.locals ((it, o) :: led) h m) (hx : ∀ b x, b ≠ it → h.get? b = some x → h'.get? b = some x) : Fx g env.locals led h' m := by
  have D := F.at_ _ (.head _)
  have F' := F.tail
  refine ⟨F'.ns.at fun x e => hx _ x (Ne.symm D.2.1) e, fun b x e => hx b x (fun q => ?_) (F'.keep b x e), F'.off, fun p hp => ⟨hx _ _ (fun q => ?_) (F'.at_ p hp).1, (F'.at_ p hp).2⟩, F'.nd⟩
  · have := D.2.2
    rw [← (show b = it from q), e] at this; cases this
  · exact (List.nodup_cons.mp F.nd).1 (List.mem_map.mpr ⟨p, hp, q⟩)

theorem Source.items {kvs : List (Int × Value)} {ep : Nat} {xk xv : Str} {pk pv pt : Pos} {x1} (hh : A.handled = none) (hd : g₀.DictAt (intKind PR w) d kvs ep) (hk : env.scope.kind = .function)
    (hxk : env.kindOf xk = some .local) (hxv : env.kindOf xv = some .local) :
    Source w A env (.Tuple [.Name xk pk, .Name xv pv] x1 pt) it g₀ kvs.length (itemSt it d kvs.length ep)
      (fun i _ m m' => ∃ k v t, kvs[i]? = some (k, v) ∧ m' = fun y => if y = xv then some v else if y = xk then some (.int k t) else m y) where
  item := by
    rintro i il g led s m Q E K hlt ⟨ok, ov, rfl⟩ hg F hK h
    have he : IsItemIter s.heap it d i kvs.length ep ok ov := F.here
    have hm : s.heap.DictAt (intKind PR w) d kvs ep := hd.at fun o e => F.keep _ _ (hg _ _ e)
    obtain ⟨kv, hx⟩ : ∃ kv, kvs[i]? = some kv := ⟨kvs[i], by simp [hlt]⟩
    obtain ⟨k, v⟩ := kv
    refine wpAny_pyNext_items_item he hm hx fun key h₁ hkey heo ht₁ hz₁ hk₁ => hK _ _ ?_
    obtain ⟨t, rfl⟩ := isInt_key hkey
    have F₁ := F.updE hk₁ heo
    refine wpAny_letOwnedTupleGo_items heo fun h₂ he₂ hs₂ => ?_
    have F₂ := F₁.upd hs₂ he₂
    have hiH : it < s.heap.objs.size := Heap.lt_size he
    have ht₂ : h₂.IsTuple s.heap.objs.size #[.int k t, v] := ⟨_, (hs₂.2 _ (Nat.ne_of_gt hiH)).trans ht₁, rfl, _, rfl⟩
    refine wpAny_assign_Tuple hh ht₂ rfl rfl fun h₃ hx₃ => ?_
    have F₃ := F₂.ext (sub_of_size hx₃)
    show wpAny _ _ (do holding [v] (assign (.Name xk pk) env (.int k t)); do holding [] (assign (.Name xv pv) env v); pure ()) _ _ _
    refine wpAny_bind (wpAny_holding (storeT (s := { s with heap := h₃ }) F₃ hk hxk fun h₄ tk₄ F₄ => ?_))
    refine wpAny_bind (wpAny_holding (storeT (s := { s with heap := h₄, toks := tk₄ }) F₄ hk hxv fun h₅ tk₅ F₅ => wpAny_pure ?_))
    exact h h₅ tk₅ [(it, itemObj d (i + 1) kvs.length ep (.int k t) v)] _ g (fun _ _ e => e) ⟨_, _, rfl⟩ F₅ ⟨k, v, t, hx, rfl⟩
  done := by
    rintro il g led s m E K ⟨ok, ov, rfl⟩ hg F h
    have he : IsItemIter s.heap it d kvs.length kvs.length ep ok ov := F.here
    have hm : s.heap.DictAt (intKind PR w) d kvs ep := hd.at fun o e => F.keep _ _ (hg _ _ e)
    refine wpAny_pyNext_items_end hh he hm (by simp) fun h' hx => ?_
    exact h h' s.toks (F.out hx)

def valObj (d : Addr) (i n ep : Nat) : Obj := { cls := .type "dict_valueiterator", dict := none, data := .fields #[.ref d, .int i 0, .int n 0, .int ep 0], slots := #[] }
def listItObj (l : Addr) (i : Nat) : Obj := { cls := .type "list_iterator", data := .fields #[.ref l, .int i 0] }

theorem Source.values {kvs : List (Int × Value)} {ep : Nat} {xv : Str} {pv : Pos} (hh : A.handled = none) (hd : g₀.DictAt (intKind PR w) d kvs ep) (hk : env.scope.kind = .function) (hxv : env.kindOf xv = some .local) :
    Source w A env (.Name xv pv) it g₀ kvs.length (fun i il => ∃ o : Obj, il = [(it, o)] ∧ o.cls = .type "dict_valueiterator" ∧ o.data = .fields #[.ref d, .int i 0, .int kvs.length 0, .int ep 0])
      (fun i _ m m' => ∃ k v, kvs[i]? = some (k, v) ∧ m' = fun y => if y = xv then some v else m y) where
  item := by
    rintro i il g led s m Q E K hlt ⟨o, rfl, hc, hdt⟩ hg F hK h
    have he : s.heap.IsValIter it d i kvs.length ep := ⟨o, F.here, hc, hdt⟩
    have hm : s.heap.DictAt (intKind PR w) d kvs ep := hd.at fun o e => F.keep _ _ (hg _ _ e)
    obtain ⟨kv, hx⟩ : ∃ kv, kvs[i]? = some kv := ⟨kvs[i], by simp [hlt]⟩
    obtain ⟨k, v⟩ := kv
    refine wpAny_pyNext_values_item he hm hx fun h₁ he₁ hs₁ => hK _ _ ?_
    obtain ⟨o₁, ho₁, hc₁, hd₁⟩ := he₁
    have F₁ := F.upd hs₁ ho₁
    refine wpAny_of_eq (rfl : letOwnedTupleGo (.Name xv pv) (.ref it) v = pure ()) ?_
    exact storeT (s := { s with heap := h₁ }) F₁ hk hxv fun h₂ tk₂ F₂ => h h₂ tk₂ [(it, o₁)] _ g (fun _ _ e => e) ⟨o₁, rfl, hc₁, hd₁⟩ F₂ ⟨k, v, hx, rfl⟩
  done := by
    rintro il g led s m E K ⟨o, rfl, hc, hdt⟩ hg F h
    have he : s.heap.IsValIter it d kvs.length kvs.length ep := ⟨o, F.here, hc, hdt⟩
    have hm : s.heap.DictAt (intKind PR w) d kvs ep := hd.at fun o e => F.keep _ _ (hg _ _ e)
    exact wpAny_pyNext_values_end hh he hm (by simp) fun h' hx => h h' s.toks (F.out hx)

theorem Source.list {l : Addr} {items : Array Value} {xv : Str} {pv : Pos} (hh : A.handled = none) (hl : g₀.IsList l items) (hk : env.scope.kind = .function) (hxv : env.kindOf xv = some .local) :
    Source w A env (.Name xv pv) it g₀ items.size (fun i il => ∃ o : Obj, il = [(it, o)] ∧ o.cls = .type "list_iterator" ∧ o.data = .fields #[.ref l, .int i 0])
      (fun i _ m m' => ∃ v, items[i]? = some v ∧ m' = fun y => if y = xv then some v else m y) where
  item := by
    rintro i il g led s m Q E K hlt ⟨o, rfl, hc, hdt⟩ hg F hK h
    have he : s.heap.IsListIter it l i := ⟨o, F.here, hc, hdt⟩
    have hm : s.heap.IsList l items := hl.at fun o e => F.keep _ _ (hg _ _ e)
    obtain ⟨v, hx⟩ : ∃ v, items[i]? = some v := ⟨items[i], by simp [hlt]⟩
    refine wpAny_pyNext_list_item he hm hx fun h₁ he₁ hs₁ => hK _ _ ?_
    obtain ⟨o₁, ho₁, hc₁, hd₁⟩ := he₁
    have F₁ := F.upd hs₁ ho₁
    refine wpAny_of_eq (rfl : letOwnedTupleGo (.Name xv pv) (.ref it) v = pure ()) ?_
    exact storeT (s := { s with heap := h₁ }) F₁ hk hxv fun h₂ tk₂ F₂ => h h₂ tk₂ [(it, o₁)] _ g (fun _ _ e => e) ⟨o₁, rfl, hc₁, hd₁⟩ F₂ ⟨v, hx, rfl⟩
  done := by
    rintro il g led s m E K ⟨o, rfl, hc, hdt⟩ hg F h
    have he : s.heap.IsListIter it l items.size := ⟨o, F.here, hc, hdt⟩
    have hm : s.heap.IsList l items := hl.at fun o e => F.keep _ _ (hg _ _ e)
    exact wpAny_pyNext_list_end hh he hm (by simp) fun h' hx => h h' s.toks (F.out hx)

/-- a list of pairs (tuples that stay), unpacked into two names -/
theorem Source.pairs {l : Addr} {items : Array Value} {P : Nat → Value → Value → Prop} {xk xv : Str} {pk pv pt : Pos} {x1} (hh : A.handled = none) (hl : g₀.IsList l items)
    (hp : ∀ i v, items[i]? = some v → ∃ t a b, v = .ref t ∧ g₀.IsTuple t #[a, b] ∧ P i a b) (hk : env.scope.kind = .function) (hxk : env.kindOf xk = some .local) (hxv : env.kindOf xv = some .local) :
    Source w A env (.Tuple [.Name xk pk, .Name xv pv] x1 pt) it g₀ items.size (fun i il => ∃ o : Obj, il = [(it, o)] ∧ o.cls = .type "list_iterator" ∧ o.data = .fields #[.ref l, .int i 0])
      (fun i _ m m' => ∃ a b, P i a b ∧ m' = fun y => if y = xv then some b else if y = xk then some a else m y) where
  item := by
    rintro i il g led s m Q E K hlt ⟨o, rfl, hc, hdt⟩ hg F hK h
    have he : s.heap.IsListIter it l i := ⟨o, F.here, hc, hdt⟩
    have hm : s.heap.IsList l items := hl.at fun o e => F.keep _ _ (hg _ _ e)
    obtain ⟨v, hx⟩ : ∃ v, items[i]? = some v := ⟨items[i], by simp [hlt]⟩
    obtain ⟨t, a, b, rfl, ht, hP⟩ := hp i v hx
    refine wpAny_pyNext_list_item he hm hx fun h₁ he₁ hs₁ => hK _ _ ?_
    obtain ⟨o₁, ho₁, hc₁, hd₁⟩ := he₁
    have F₁ := F.upd hs₁ ho₁
    refine wpAny_letOwnedTupleGo_listiter (s := { s with heap := h₁ }) ⟨o₁, ho₁, hc₁, hd₁⟩ ?_
    have ht₁ : h₁.IsTuple t #[a, b] := let ⟨ot, hot, r⟩ := ht; ⟨ot, F₁.keep _ _ (hg _ _ hot), r⟩
    refine wpAny_assign_Tuple (s := { s with heap := h₁ }) hh ht₁ rfl rfl fun h₂ hx₂ => ?_
    have F₂ := F₁.ext (sub_of_size hx₂)
    show wpAny _ _ (do holding [b] (assign (.Name xk pk) env a); do holding [] (assign (.Name xv pv) env b); pure ()) _ _ _
    refine wpAny_bind (wpAny_holding (storeT (s := { s with heap := h₂ }) F₂ hk hxk fun h₄ tk₄ F₄ => ?_))
    refine wpAny_bind (wpAny_holding (storeT (s := { s with heap := h₄, toks := tk₄ }) F₄ hk hxv fun h₅ tk₅ F₅ => wpAny_pure ?_))
    exact h h₅ tk₅ [(it, o₁)] _ g (fun _ _ e => e) ⟨o₁, rfl, hc₁, hd₁⟩ F₅ ⟨a, b, hP, rfl⟩
  done := by
    rintro il g led s m E K ⟨o, rfl, hc, hdt⟩ hg F h
    have he : s.heap.IsListIter it l items.size := ⟨o, F.here, hc, hdt⟩
    have hm : s.heap.IsList l items := hl.at fun o e => F.keep _ _ (hg _ _ e)
    exact wpAny_pyNext_list_end hh he hm (by simp) fun h' hx => h h' s.toks (F.out hx)

section
variable {U : Nat → (Str → Option Value) → Heap → Led → Prop} {Q : Flow → Shared → Prop} {body : List Stmt}
/-- a turn's end, as forS asks it -/
abbrev TurnEnd (U : Nat → (Str → Option Value) → Heap → Led → Prop) (Q : Flow → Shared → Prop) (L : Addr) (i : Nat) (g : Heap) (il : Led) (s : Shared) (f : Flow) (s₂ : Shared) : Prop := match f with
  | .next | .cont => Rel s s₂ ∧ ∃ m₃ g₃ led₃, Sub g g₃ ∧ Fx g₃ L (il ++ led₃) s₂.heap m₃ ∧ U (i + 1) m₃ g₃ led₃
  | .brk => False
  | .ret v => Q (.ret v) s₂

theorem for_items {kvs : List (Int × Value)} {xk xv : Str} {pk pv pt apos cpos pos : Pos} {x1} {o : Expr} (U : Nat → (Str → Option Value) → Heap → Led → Prop) (hh : A.handled = none) (F : Fx g env.locals led s.heap m) (hd : g.DictOf (intKind PR w) d kvs) (hS : (d == sysModules) = false)
    (hbase : attributeBase o "items" env (eval o env) = eval o env) (ho : ∀ Q', Q' (.ref d) s → wpAny (model PR w) A (eval o env) Q' E s)
    (h0 : U 0 m g led) (hmono : ∀ i m g g' led, Sub g g' → U i m g led → U i m g' led)
    (step : ∀ i k v t m₁ g₂ il₂ led₁ (s₁ : Shared), kvs[i]? = some (k, v) → Sub g g₂ → U i m₁ g₂ led₁ → Fx g₂ env.locals (il₂ ++ led₁) s₁.heap (fun y => if y = xv then some v else if y = xk then some (.int k t) else m₁ y) → Rel s s₁ →
      wpAny (model PR w) A (execs body env) (TurnEnd U Q env.locals i g₂ il₂ s₁) (fun _ _ => False) s₁)
    (done : ∀ (s' : Shared) m' g' led', Sub g g' → U kvs.length m' g' led' → Fx g' env.locals led' s'.heap m' → Rel s s' → Q .next s')
    (hk : env.scope.kind = .function := by rfl) (hxk : env.kindOf xk = some .local := by rfl) (hxv : env.kindOf xv = some .local := by rfl) (hline : (apos.endLine == cpos.line) = true := by rfl)
    (hs : ∀ x, foldedSetIterable (.Call (.Attribute o "items" apos) [] [] cpos) env x = pure x := by intro _; rfl) :
    wpAny (model PR w) A (exec (.For (.Tuple [.Name xk pk, .Name xv pv] x1 pt) (.Call (.Attribute o "items" apos) [] [] cpos) body [] pos) env) Q E s := by
  have hdS : s.heap.DictOf (intKind PR w) d kvs := hd.at fun o e => F.keep _ _ e
  obtain ⟨oD, es, ep, hoD, r⟩ := id hd
  refine wpAny_For (wpAny_Call_items hS hdS hbase hline ho ?_) hs
  have F₁ := F.ext (Sub.push s.heap { cls := .type "dict_items", data := .fields #[.ref d] })
  refine wpAny_pyIter_items (knd := intKind PR w) (d := d) (kvs := kvs) (ep := ep) (s := { s with heap := s.heap.push { cls := .type "dict_items", data := .fields #[.ref d] } }) ⟨_, Heap.get?_push_size _ rfl, rfl, rfl⟩ ⟨oD, es, Heap.get?_push_of_some _ (F.keep _ _ hoD), r⟩ ?_
  have F₂ := F₁.push (o := itemObj d 0 kvs.length ep .none .none)
  refine codeAny_mono (forS (Source.items (pk := pk) (pv := pv) (pt := pt) (x1 := x1) hh (⟨oD, es, hoD, r⟩ : g.DictAt (intKind PR w) d kvs ep) hk hxk hxv) U (Q := Q) (il := [_]) (led := led) F₂ (fun _ _ e => e) ⟨.none, .none, rfl⟩ h0 hmono (fun i m₁ m₂ g₂ il₂ led₁ s₁ _ hg₂ hU hB F₃ hr => ?_)
    fun s' m' g' led' hg hU F' hr => done s' m' g' led' hg hU F' ⟨hr.gens, hr.os⟩) (fun r s' hx => by cases r with | ok f => exact hx | error e => exact hx.elim)
  obtain ⟨k, v, t, hx, rfl⟩ := hB
  exact step i k v t m₁ g₂ il₂ led₁ s₁ hx hg₂ hU F₃ ⟨hr.gens, hr.os⟩

theorem for_values {kvs : List (Int × Value)} {xv : Str} {pv apos cpos pos : Pos} {o : Expr} (U : Nat → (Str → Option Value) → Heap → Led → Prop) (hh : A.handled = none) (F : Fx g env.locals led s.heap m) (hd : g.DictOf (intKind PR w) d kvs)
    (hiter : ∀ Q', Q' (.ref s.heap.objs.size) { s with heap := s.heap.push { cls := .type "dict_values", data := .fields #[.ref d] } } → wpAny (model PR w) A (eval (.Call (.Attribute o "values" apos) [] [] cpos) env) Q' E s)
    (h0 : U 0 m g led) (hmono : ∀ i m g g' led, Sub g g' → U i m g led → U i m g' led)
    (step : ∀ i k v m₁ g₂ il₂ led₁ (s₁ : Shared), kvs[i]? = some (k, v) → Sub g g₂ → U i m₁ g₂ led₁ → Fx g₂ env.locals (il₂ ++ led₁) s₁.heap (fun y => if y = xv then some v else m₁ y) → Rel s s₁ →
      wpAny (model PR w) A (execs body env) (TurnEnd U Q env.locals i g₂ il₂ s₁) (fun _ _ => False) s₁)
    (done : ∀ (s' : Shared) m' g' led', Sub g g' → U kvs.length m' g' led' → Fx g' env.locals led' s'.heap m' → Rel s s' → Q .next s')
    (hk : env.scope.kind = .function := by rfl) (hxv : env.kindOf xv = some .local := by rfl)
    (hs : ∀ x, foldedSetIterable (.Call (.Attribute o "values" apos) [] [] cpos) env x = pure x := by intro _; rfl) :
    wpAny (model PR w) A (exec (.For (.Name xv pv) (.Call (.Attribute o "values" apos) [] [] cpos) body [] pos) env) Q E s := by
  obtain ⟨oD, es, ep, hoD, r⟩ := id hd
  refine wpAny_For (hiter _ ?_) hs
  have F₁ := F.ext (Sub.push s.heap { cls := .type "dict_values", data := .fields #[.ref d] })
  refine wpAny_pyIter_values (knd := intKind PR w) (d := d) (kvs := kvs) (ep := ep) (s := { s with heap := s.heap.push { cls := .type "dict_values", data := .fields #[.ref d] } }) ⟨_, Heap.get?_push_size _ rfl, rfl, rfl⟩ ⟨oD, es, Heap.get?_push_of_some _ (F.keep _ _ hoD), r⟩ ?_
  have F₂ := F₁.push (o := valObj d 0 kvs.length ep)
  refine codeAny_mono (forS (Source.values (pv := pv) hh (⟨oD, es, hoD, r⟩ : g.DictAt (intKind PR w) d kvs ep) hk hxv) U (Q := Q) (il := [_]) (led := led) F₂ (fun _ _ e => e) ⟨_, rfl, rfl, rfl⟩ h0 hmono (fun i m₁ m₂ g₂ il₂ led₁ s₁ _ hg₂ hU hB F₃ hr => ?_)
    fun s' m' g' led' hg hU F' hr => done s' m' g' led' hg hU F' ⟨hr.gens, hr.os⟩) (fun r s' hx => by cases r with | ok f => exact hx | error e => exact hx.elim)
  obtain ⟨k, v, hx, rfl⟩ := hB
  exact step i k v m₁ g₂ il₂ led₁ s₁ hx hg₂ hU F₃ ⟨hr.gens, hr.os⟩

theorem for_list {l : Addr} {items : Array Value} {xv : Str} {pv pos : Pos} {iter : Expr} (U : Nat → (Str → Option Value) → Heap → Led → Prop) (hh : A.handled = none) (F : Fx g env.locals led s.heap m) (hl : g.IsList l items)
    (hiter : ∀ Q', Q' (.ref l) s → wpAny (model PR w) A (eval iter env) Q' E s)
    (h0 : U 0 m g led) (hmono : ∀ i m g g' led, Sub g g' → U i m g led → U i m g' led)
    (step : ∀ i v m₁ g₂ il₂ led₁ (s₁ : Shared), items[i]? = some v → Sub g g₂ → U i m₁ g₂ led₁ → Fx g₂ env.locals (il₂ ++ led₁) s₁.heap (fun y => if y = xv then some v else m₁ y) → Rel s s₁ →
      wpAny (model PR w) A (execs body env) (TurnEnd U Q env.locals i g₂ il₂ s₁) (fun _ _ => False) s₁)
    (done : ∀ (s' : Shared) m' g' led', Sub g g' → U items.size m' g' led' → Fx g' env.locals led' s'.heap m' → Rel s s' → Q .next s')
    (hk : env.scope.kind = .function := by rfl) (hxv : env.kindOf xv = some .local := by rfl)
    (hs : ∀ x, foldedSetIterable iter env x = pure x := by intro _; rfl) :
    wpAny (model PR w) A (exec (.For (.Name xv pv) iter body [] pos) env) Q E s := by
  refine wpAny_For (hiter _ (wpAny_pyIter_list (hl.at fun o e => F.keep _ _ e) ?_)) hs
  have F₂ := F.push (o := listItObj l 0)
  refine codeAny_mono (forS (Source.list (pv := pv) hh hl hk hxv) U (Q := Q) (il := [_]) (led := led) F₂ (fun _ _ e => e) ⟨_, rfl, rfl, rfl⟩ h0 hmono (fun i m₁ m₂ g₂ il₂ led₁ s₁ _ hg₂ hU hB F₃ hr => ?_)
    fun s' m' g' led' hg hU F' hr => done s' m' g' led' hg hU F' ⟨hr.gens, hr.os⟩) (fun r s' hx => by cases r with | ok f => exact hx | error e => exact hx.elim)
  obtain ⟨v, hx, rfl⟩ := hB
  exact step i v m₁ g₂ il₂ led₁ s₁ hx hg₂ hU F₃ ⟨hr.gens, hr.os⟩
end
end
end Mine
end

section
open PySem PySem.W PySem.Calls PyProof.Rows
set_option maxRecDepth 100000
namespace Mine
inductive All2 {α β : Type} (R : α → β → Prop) : List α → List β → Prop
  | nil : All2 R [] []
  | cons {a b as bs} : R a b → All2 R as bs → All2 R (a :: as) (b :: bs)
section
variable {α β : Type} {R R' : α → β → Prop}
theorem All2.mono (h : ∀ a b, R a b → R' a b) : ∀ {as : List α} {bs : List β}, All2 R as bs → All2 R' as bs
  | _, _, .nil => .nil
  | _, _, .cons x r => .cons (h _ _ x) (r.mono h)
theorem All2.length : ∀ {as : List α} {bs : List β}, All2 R as bs → as.length = bs.length
  | _, _, .nil => rfl
  | _, _, .cons _ r => by simp [r.length]
theorem All2.append : ∀ {as : List α} {bs : List β} {as' bs'}, All2 R as bs → All2 R as' bs' → All2 R (as ++ as') (bs ++ bs')
  | _, _, _, _, .nil, y => y
  | _, _, _, _, .cons x r, y => .cons x (r.append y)
theorem All2.get : ∀ {as : List α} {bs : List β} {i : Nat} {a : α}, All2 R as bs → as[i]? = some a → ∃ b, bs[i]? = some b ∧ R a b
  | _, _, 0, _, .cons x _, h => ⟨_, rfl, by simp at h; exact h ▸ x⟩
  | _, _, i + 1, _, .cons _ r, h => by simpa using r.get (by simpa using h)
theorem All2.get' : ∀ {as : List α} {bs : List β} {i : Nat} {b : β}, All2 R as bs → bs[i]? = some b → ∃ a, as[i]? = some a ∧ R a b
  | _, _, 0, _, .cons x _, h => ⟨_, rfl, by simp at h; exact h ▸ x⟩
  | _, _, i + 1, _, .cons _ r, h => by simpa using r.get' (by simpa using h)
theorem All2.take : ∀ {as : List α} {bs : List β} (n : Nat), All2 R as bs → All2 R (as.take n) (bs.take n)
  | _, _, 0, _ => by simpa using All2.nil
  | _, _, _ + 1, .nil => .nil
  | _, _, n + 1, .cons x r => .cons x (r.take n)
theorem All2.drop : ∀ {as : List α} {bs : List β} (n : Nat), All2 R as bs → All2 R (as.drop n) (bs.drop n)
  | _, _, 0, h => h
  | _, _, _ + 1, .nil => .nil
  | _, _, n + 1, .cons _ r => r.drop n
theorem All2.map_eq {γ : Type} {f : α → γ} {g : β → γ} (h : ∀ a b, R a b → f a = g b) : ∀ {as : List α} {bs : List β}, All2 R as bs → as.map f = bs.map g
  | _, _, .nil => rfl
  | _, _, .cons x r => by simp [h _ _ x, r.map_eq h]
end

/-- a dict's store, on the plain side -/
def put {β : Type} (kvs : List (Int × β)) (k : Int) (v : β) : List (Int × β) :=
  if kvs.any (fun kv => kv.1 = k) then kvs.map (fun kv => if kv.1 = k then (kv.1, v) else kv) else kvs ++ [(k, v)]
def at? {β : Type} (kvs : List (Int × β)) (k : Int) : Option β := (kvs.find? fun kv => kv.1 = k).map (·.2)

section
variable {β : Type} {R : Value → β → Prop}
structure Kv (R : Value → β → Prop) (a : Int × Value) (b : Int × β) : Prop where
  k : a.1 = b.1
  v : R a.2 b.2
abbrev Kvs (R : Value → β → Prop) := All2 (Kv R)
theorem Kvs.mapPut {k : Int} {v : Value} {y : β} (hv : R v y) : ∀ {kvs : List (Int × Value)} {cs : List (Int × β)}, Kvs R kvs cs →
    Kvs R (kvs.map fun kv => if kv.1 = k then (kv.1, v) else kv) (cs.map fun kv => if kv.1 = k then (kv.1, y) else kv)
  | _, _, .nil => .nil
  | a :: _, b :: _, .cons x r => by
    refine .cons ?_ (mapPut hv r)
    show Kv R (if a.1 = k then (a.1, v) else a) (if b.1 = k then (b.1, y) else b)
    by_cases hb : b.1 = k
    · rw [if_pos hb, if_pos (x.1.trans hb)]; exact ⟨x.1, hv⟩
    · rw [if_neg hb, if_neg (fun q => hb (x.1.symm.trans q))]; exact x
theorem Kvs.any {kvs : List (Int × Value)} {cs : List (Int × β)} (h : Kvs R kvs cs) (k : Int) : (kvs.any fun kv => decide (kv.1 = k)) = cs.any fun kv => decide (kv.1 = k) := by
  induction h with
  | nil => rfl
  | cons x _ ih => simp only [List.any_cons, ih, x.1]
theorem Kvs.put {kvs : List (Int × Value)} {cs : List (Int × β)} (h : Kvs R kvs cs) (k : Int) {v : Value} {y : β} (hv : R v y) : Kvs R (stored kvs k v) (put cs k y) := by
  unfold stored Mine.put
  rw [h.any k]
  split
  · exact h.mapPut hv
  · exact h.append (.cons ⟨rfl, hv⟩ .nil)
theorem Kvs.at? {kvs : List (Int × Value)} {cs : List (Int × β)} (h : Kvs R kvs cs) (k : Int) : (∃ v y, valueAt kvs k = some v ∧ at? cs k = some y ∧ R v y) ∨ (valueAt kvs k = none ∧ at? cs k = none) := by
  unfold valueAt Mine.at?
  induction h with
  | nil => exact .inr ⟨rfl, rfl⟩
  | @cons a b as bs x r ih =>
    simp only [List.find?_cons]
    rw [show (decide (a.1 = k)) = decide (b.1 = k) from by rw [x.1]]
    cases decide (b.1 = k) with
    | true => exact .inl ⟨_, _, rfl, rfl, x.2⟩
    | false => exact ih
theorem Kvs.keys {kvs : List (Int × Value)} {cs : List (Int × β)} (h : Kvs R kvs cs) : kvs.map (·.1) = cs.map (·.1) := h.map_eq fun _ _ x => x.1
end
def isI (v : Value) (i : Int) : Prop := ∃ t, v = .int i t

/-- a dict of ints by ints -/
inductive DI (w : World) (h : Heap) (d : Addr) (cs : List (Int × Int)) : Prop
  | mk (lo : sysModules < d) (kvs : List (Int × Value)) (hd : h.DictOf (intKind PR w) d kvs) (r : Kvs isI kvs cs) : DI w h d cs
theorem DI.sub {w : World} {h h' : Heap} {d : Addr} {cs : List (Int × Int)} (x : DI w h d cs) (hs : Sub h h') : DI w h' d cs :=
  let ⟨lo, kvs, hd, r⟩ := x; ⟨lo, kvs, hd.at fun _ e => hs _ _ e, r⟩
theorem DI.nodup {w : World} {h : Heap} {d : Addr} {cs : List (Int × Int)} (x : DI w h d cs) : (cs.map (·.1)).Nodup := by
  obtain ⟨_, kvs, ⟨o, es, ep, _, _, _, _, _, hn⟩, r⟩ := x
  rw [← r.keys]; exact hn
theorem low_ne {d : Addr} (h : sysModules < d) : (d == sysModules) = false := beq_eq_false_iff_ne.mpr (Nat.ne_of_gt h)
end Mine
end

section
open PySem PySem.W PySem.Calls PyProof.Rows
set_option maxRecDepth 100000
set_option maxHeartbeats 400000
namespace Mine
section
variable {w : World} {A : Around} {s : Shared} {g : Heap} {Q E : Value → Shared → Prop} {env : Env} {led : Led} {m : Str → Option Value}

theorem fcall {x : Str} {f : Addr} {p pos : Pos} {e : Expr} {rest : List Expr} (F : Fx g env.locals led s.heap m) (W : Wd w g) (hn : nsIn (K0 w.params) mainGlobals x = some (some (.ref f))) (hkp : keepIn (K0 w.params) (.ref f) = true)
    (h : wpAny (model PR w) A (spliced (backTo pos (starEach (e :: rest) env))) (fun vs s₁ => Sub g s₁.heap ∧ wpAny (model PR w) A (call (.ref f) vs) Q E s₁) E s)
    (hg : env.globals = mainGlobals := by rfl) (hk : env.scope.kind = .function := by rfl) (hx : env.kindOf x = some .globalImplicit := by rfl) (hd : (x == ("__debug__" : Str)) = false := by decide)
    (he : starEach (e :: rest) env = (false, eval e env) :: starEach rest env := by rfl) (hplain : (backTo pos (starEach rest env)).any (·.1) = false := by rfl) :
    wpAny (model PR w) A (eval (.Call (.Name x p) (e :: rest) [] pos) env) Q E s := by
  refine wpAny_Call_ofName (glb F W hn ?_ hg hk hx hd)
  exact callWith_K W.X hkp (wpAny_mono h (fun vs s₁ hx => ⟨W.X.keeps hx.1, hx.2⟩) fun _ _ x => x) he hplain

theorem call_values {o : Expr} {apos pos : Pos} {d : Addr} {kvs : List (Int × Value)} (hdS : (d == sysModules) = false) (hm : s.heap.DictOf (intKind PR w) d kvs)
    (hbase : attributeBase o "values" env (eval o env) = eval o env) (hline : (apos.endLine == pos.line) = true)
    (ho : ∀ Q', Q' (.ref d) s → wpAny (model PR w) A (eval o env) Q' E s)
    (hQ : Q (.ref s.heap.objs.size) { s with heap := s.heap.push { cls := .type "dict_values", data := .fields #[.ref d] } }) :
    wpAny (model PR w) A (eval (.Call (.Attribute o "values" apos) [] [] pos) env) Q E s := by
  refine wpAny_Call_method (T := "dict") (id := "dict.values") hbase rfl hline F.plainAttrs_dict F.slot_dict_values F.type_dict_values (ho _ ⟨hm.typeIs, hm.mapOf.noDict, ?_⟩)
  show wpAny _ _ (callWith pos (.builtin "dict.values") [.ref d] [] []) Q E s
  exact method_meetsIn F.slot_dict_values F.entry_dict_values rfl (PySem.evalArgs_none ⟨rfl, hm.typeIs, F.args_dict_values_1 _, _, meets_dict_values (intKind PR w) d hdS, ⟨kvs, hm⟩, hQ⟩)
end
section
variable {w : World} {A : Around} {s : Shared} {g : Heap} {Q E : Value → Shared → Prop} {env : Env} {led : Led} {m : Str → Option Value}
theorem bcall {x : Str} {id : String} {p pos : Pos} {e : Expr} {rest : List Expr} (F : Fx g env.locals led s.heap m) (W : Wd w g) (hn : nsIn (K0 w.params) mainGlobals x = some none) (hv : bootBuiltins x = some (.builtin id)) (hne : x ≠ "__name__")
    (h : wpAny (model PR w) A (spliced (backTo pos (starEach (e :: rest) env))) (fun vs s₁ => wpAny (model PR w) A (call (.builtin id) vs) Q E s₁) E s)
    (hg : env.globals = mainGlobals := by rfl) (hb : env.builtins = builtinsNs := by rfl) (hk : env.scope.kind = .function := by rfl) (hx : env.kindOf x = some .globalImplicit := by rfl) (hd : (x == ("__debug__" : Str)) = false := by decide)
    (he : starEach (e :: rest) env = (false, eval e env) :: starEach rest env := by rfl) (hplain : (backTo pos (starEach rest env)).any (·.1) = false := by rfl) :
    wpAny (model PR w) A (eval (.Call (.Name x p) (e :: rest) [] pos) env) Q E s := by
  refine wpAny_Call_ofName (blt F W hn hv hne ?_ hg hb hk hx hd)
  rw [he] at h ⊢
  refine callWith_builtin (by show (false || (backTo pos (starEach rest env)).any (·.1)) = false; rw [hplain]; rfl) ?_
  exact evalArgs_plain h
theorem btype {x : Str} {id : String} {p pos : Pos} {e : Expr} {rest : List Expr} (F : Fx g env.locals led s.heap m) (W : Wd w g) (hn : nsIn (K0 w.params) mainGlobals x = some none) (hv : bootBuiltins x = some (.type id)) (hne : x ≠ "__name__")
    (h : wpAny (model PR w) A (spliced (backTo pos (starEach (e :: rest) env))) (fun vs s₁ => wpAny (model PR w) A (call (.type id) vs) Q E s₁) E s)
    (hg : env.globals = mainGlobals := by rfl) (hb : env.builtins = builtinsNs := by rfl) (hk : env.scope.kind = .function := by rfl) (hx : env.kindOf x = some .globalImplicit := by rfl) (hd : (x == ("__debug__" : Str)) = false := by decide)
    (he : starEach (e :: rest) env = (false, eval e env) :: starEach rest env := by rfl) (hplain : (backTo pos (starEach rest env)).any (·.1) = false := by rfl) :
    wpAny (model PR w) A (eval (.Call (.Name x p) (e :: rest) [] pos) env) Q E s := by
  refine wpAny_Call_ofName (blt F W hn hv hne ?_ hg hb hk hx hd)
  rw [he] at h ⊢
  refine PySem.callWith_type (by show (false || (backTo pos (starEach rest env)).any (·.1)) = false; rw [hplain]; rfl) ?_
  exact evalArgs_plain h
/-- a store into a dict by ints that heads the ledger -/
theorem setD {d : Addr} {o : Obj} {kvs : List (Int × Value)} {L : Addr} {k : Int} {t : Tok} {v : Value} {Q : Unit → Shared → Prop} (F : Fx g L ((d, o) :: led) s.heap m) (ho : o.IsDictOf (intKind PR w) kvs) (hsz : kvs.length ≤ sizeLine)
    (h : ∀ h' o', Fx g L ((d, o') :: led) h' m → o'.IsDictOf (intKind PR w) (stored kvs k v) → Q () { s with heap := h', toks := s.toks + 1 }) :
    wpAny (model PR w) A (setItem (.ref d) (.int k t) v) Q E s :=
  wpAny_setItem_pairs (knd := intKind PR w) (k := k) (by show Value.isInt k (.int k t) = true; simp [Value.isInt]) (Heap.dictOf_iff.mpr ⟨o, F.here, ho⟩) (fun h' hd hs => by
    obtain ⟨o', ho', hdo⟩ := Heap.dictOf_iff.mp hd
    exact h h' o' (F.upd hs ho') hdo) hsz
end

def sumC (cs : List (Int × Int)) : Int := (cs.map (·.2)).sum
theorem sumC_take {cs : List (Int × Int)} {i : Nat} {k v : Int} (h : cs[i]? = some (k, v)) : sumC (cs.take (i + 1)) = sumC (cs.take i) + v := by
  unfold sumC
  rw [List.take_add_one, h]; simp

local macro_rules | `(tactic| walk_at "my_enter") => `(tactic| (
  (case k6 => k_is); (case k7 => k_is); (case k9 => exact BindsTo.of_eq rfl); (case kB => exact locs rfl); (case c2 => exact rfl); (case c3 => exact rfl); (case c4 => exact rfl); (case c5 => decide)))

section
variable {w : World} {A : Around} {s : Shared} {Q E : Value → Shared → Prop}
theorem count_calls_ok (W : Wd w s.heap) (hd : A.depth + 1 < recursionLimit) (hh : A.handled = none) (d : Addr) (cs : List (Int × Int))
    (hD : DI w s.heap d cs) (h : ∀ s' t, Sub s.heap s'.heap → Rel s s' → Q (.int (sumC cs) t) s') :
    wpAny (model PR w) A (call (.ref 63) [.ref d]) Q E s := by
  obtain ⟨lo, kvs, hd', hkv⟩ := hD
  refine' enterX (binds := [(Str.ofString "callers", .ref d)]) W (fun _ _ e => e) ?k6 ?k7 (by omega) ?k9 ?kB ?_ ?c2 ?c3 ?c4 ?c5
  walk_at "my_enter"
  intro h₁ L hL hs F
  refine wpAny_execs_cons (wpAny_Assign_Name (wpAny_Constant_int (sto F fun h₂ F₂ => ?_)))
  refine wpAny_execs_cons ?_
  refine for_values (kvs := kvs) (d := d) (fun i m g led => led = [] ∧ Sub s.heap g ∧ ∃ t, m (Str.ofString "nc") = some (.int (sumC (cs.take i)) t)) hh F₂ hd' (fun Q' hq => ?_) ⟨rfl, fun _ _ e => e, _, rfl⟩
    (fun i m g g' led hs hU => ⟨hU.1, fun b o e => hs b o (hU.2.1 b o e), hU.2.2⟩) ?_ ?_
  · refine call_values (low_ne lo) (hd'.at fun o e => F₂.keep _ _ e) (by rfl) (by rfl) (fun Q'' hq'' => nm F₂ rfl hq'') hq
  · rintro i k v m₁ g₂ il₂ led₁ s₁ hx hg₂ ⟨rfl, hs₂, t, hm₁⟩ F₃ hr
    obtain ⟨c, hc, e1, t', e2⟩ := hkv.get hx
    refine wpAny_execs_cons (wpAny_AugAssign_Name (ldm F₃ hm₁ (nm F₃ rfl ?_)))
    dsimp only at e1 e2
    subst e2
    refine iadd_int (sto (s := { s₁ with toks := s₁.toks + 1 }) F₃ fun h₄ F₄ => wpAny_execs_nil ?_)
    refine ⟨Rel.same, _, g₂, [], fun _ _ e => e, F₄, rfl, hs₂, s₁.toks, ?_⟩
    rw [sumC_take (show cs[i]? = some (c.1, c.2) from hc)]; rfl
  · rintro s' m' g' led' hg' ⟨rfl, hs', t, hm'⟩ F' hr
    refine wpAny_execs_cons (wpAny_Return_some (nm F' hm' ?_))
    rw [List.take_of_length_le (by rw [hkv.length]; exact Nat.le_refl _)]
    exact h s' t (fun b o e => F'.keep b o (hs' b o e)) ⟨hr.gens, hr.os⟩

/-- what add_callers makes of two dicts -/
def addC (ct cs : List (Int × Int)) : List (Int × Int) := cs.foldl (fun acc p => put acc p.1 (match at? acc p.1 with | some x => x + p.2 | none => p.2)) ct
theorem put_new {β : Type} {kvs : List (Int × β)} {k : Int} (v : β) (h : k ∉ kvs.map (·.1)) : put kvs k v = kvs ++ [(k, v)] := by
  unfold put
  rw [if_neg]
  intro hx
  obtain ⟨p, hp, e⟩ := List.any_eq_true.mp hx
  exact h (List.mem_map.mpr ⟨p, hp, of_decide_eq_true e⟩)
theorem put_take {β : Type} {cs : List (Int × β)} {i : Nat} {k : Int} {v : β} (hn : (cs.map (·.1)).Nodup) (h : cs[i]? = some (k, v)) : put (cs.take i) k v = cs.take (i + 1) := by
  obtain ⟨hi, e⟩ := List.getElem?_eq_some_iff.mp h
  rw [put_new, List.take_add_one, h]; rfl
  intro hm
  rw [← List.take_append_drop i cs, List.map_append, List.nodup_append] at hn
  refine hn.2.2 k hm k ?_ rfl
  refine List.mem_map.mpr ⟨(k, v), ?_, rfl⟩
  rw [List.drop_eq_getElem_cons hi, e]; exact .head _
theorem put_length {β : Type} (kvs : List (Int × β)) (k : Int) (v : β) : (put kvs k v).length ≤ kvs.length + 1 := by
  unfold put; split <;> simp
theorem addC_length : ∀ (cs ct : List (Int × Int)), (addC ct cs).length ≤ ct.length + cs.length
  | [], _ => Nat.le_refl _
  | p :: cs, ct => by
    have h1 := addC_length cs (put ct p.1 (match at? ct p.1 with | some x => x + p.2 | none => p.2))
    have h2 := put_length ct p.1 (match at? ct p.1 with | some x => x + p.2 | none => p.2)
    show (addC (put ct p.1 _) cs).length ≤ _
    simp only [List.length_cons]; omega
theorem addC_take {ct cs : List (Int × Int)} {i : Nat} {k v : Int} (h : cs[i]? = some (k, v)) : addC ct (cs.take (i + 1)) = put (addC ct (cs.take i)) k (match at? (addC ct (cs.take i)) k with | some x => x + v | none => v) := by
  unfold addC
  rw [List.take_add_one, h, List.foldl_append]; rfl

theorem add_callers_ok (W : Wd w s.heap) (hd : A.depth + 1 < recursionLimit) (hh : A.handled = none) (dt ds : Addr) (ct cs : List (Int × Int))
    (hT : DI w s.heap dt ct) (hS : DI w s.heap ds cs) (hsz : ct.length + cs.length ≤ 1000)
    (h : ∀ s' d', Sub s.heap s'.heap → Rel s s' → s.heap.get? d' = none → DI w s'.heap d' (addC ct cs) → Q (.ref d') s') :
    wpAny (model PR w) A (call (.ref 56) [.ref dt, .ref ds]) Q E s := by
  have hnt := hT.nodup
  obtain ⟨lot, kt, hdt, hkt⟩ := hT
  obtain ⟨los, ks, hds, hks⟩ := hS
  refine' enterX (binds := [(Str.ofString "target", .ref dt), (Str.ofString "source", .ref ds)]) W (fun _ _ e => e) ?k6 ?k7 (by omega) ?k9 ?kB ?_ ?c2 ?c3 ?c4 ?c5
  walk_at "my_enter"
  intro h₁ L hL hs F
  have hD0 : s.heap.get? h₁.objs.size = none := by
    cases e : s.heap.get? h₁.objs.size with
    | none => rfl
    | some o => have := hs _ _ e; rw [get_size] at this; cases this
  have hlow : sysModules < h₁.objs.size := modules_low (W.nolimit.keeps hs)
  refine wpAny_execs_cons (wpAny_Assign_Name (wpAny_Dict_empty (sto (s := { s with heap := _, toks := _ }) (F.push (o := { cls := .type "dict", data := .dict #[] })) fun h₂ F₂ => ?_)))
  generalize hDD : h₁.objs.size = D at hD0 hlow F₂ ⊢
  refine wpAny_execs_cons ?_
  refine for_items (kvs := kt) (d := dt) (fun i m g led => ∃ o kvs, led = [(D, o)] ∧ o.IsDictOf (intKind PR w) kvs ∧ Kvs isI kvs (ct.take i) ∧ Sub s.heap g ∧ m (Str.ofString "new_callers") = some (.ref D) ∧ m (Str.ofString "source") = some (.ref ds)) hh F₂ hdt (low_ne lot) (by rfl) (fun Q' hq => nm F₂ rfl hq)
    ⟨_, [], rfl, ⟨#[], 0, ⟨rfl, rfl, rfl⟩, rfl, fun _ he => by simp at he, .nil, .nil⟩, .nil, fun _ _ e => e, rfl, rfl⟩ (fun i m g g' led hs ⟨o, kvs, h1, h2, h3, h4, h5⟩ => ⟨o, kvs, h1, h2, h3, fun b o e => hs b o (h4 b o e), h5⟩) ?_ ?_
  · rintro i k v t m₁ g₂ il₂ led₁ s₁ hx hg₂ ⟨o, kvs, rfl, ho, hkv, hs₂, hm1, hm2⟩ F₃ hr
    obtain ⟨c, hc, e1, t', e2⟩ := hkt.get hx
    dsimp only at e1 e2
    subst e2
    refine wpAny_execs_cons (wpAny_Assign_Subscript (nm F₃ rfl (nm F₃ hm1 (nm F₃ rfl ?_))))
    refine setD (led := il₂) (F₃.perm (List.perm_append_comm (l₁ := [(D, o)]) (l₂ := il₂))) ho ?_ fun h₄ o' F₄ ho' => wpAny_execs_nil ?_
    · have := hkv.length; rw [this, List.length_take, sizeLine_eq]; omega
    · refine ⟨Rel.same, _, g₂, [(D, o')], fun _ _ e => e, F₄.perm (List.perm_append_comm (l₁ := il₂) (l₂ := [(D, o')])), o', _, rfl, ho', ?_, hs₂, hm1, hm2⟩
      rw [← put_take hnt (show ct[i]? = some (k, c.2) from by rw [hc, e1])]
      exact hkv.put k ⟨_, rfl⟩
  · rintro s' m' g' led' hg' ⟨o, kvs, rfl, ho, hkv, hs₂, hm1, hm2⟩ F₃ hr
    rw [List.take_of_length_le (by rw [hkt.length]; exact Nat.le_refl _)] at hkv
    refine wpAny_execs_cons ?_
    refine for_items (kvs := ks) (d := ds) (fun i m g led => ∃ o kvs, led = [(D, o)] ∧ o.IsDictOf (intKind PR w) kvs ∧ Kvs isI kvs (addC ct (cs.take i)) ∧ Sub s.heap g ∧ m (Str.ofString "new_callers") = some (.ref D)) hh F₃ (hds.at fun _ e => hs₂ _ _ e) (low_ne los) (by rfl) (fun Q' hq => nm F₃ hm2 hq)
      ⟨o, kvs, rfl, ho, hkv, hs₂, hm1⟩ (fun i m g g' led hs ⟨o, kvs, h1, h2, h3, h4, h5⟩ => ⟨o, kvs, h1, h2, h3, fun b o e => hs b o (h4 b o e), h5⟩) ?_ ?_
    · rintro i k v t m₁ g₂ il₂ led₁ s₁ hx hg₂ ⟨o, kvs, rfl, ho, hkv, hs₃, hm1⟩ F₄ hr'
      obtain ⟨c, hc, e1, t', e2⟩ := hks.get hx
      dsimp only at e1 e2
      subst e2
      have hlen : kvs.length ≤ 1000 := by
        have e3 := hkv.length
        have e4 := addC_length (cs.take i) ct
        rw [List.length_take] at e4
        omega
      have hlen' : kvs.length ≤ sizeLine := by rw [sizeLine_eq]; omega
      have hkey : ∀ u, (intKind PR w).is k (.int k u) = true := fun u => by show Value.isInt k (.int k u) = true; simp [Value.isInt]
      have F₅ := F₄.perm (List.perm_append_comm (l₁ := [(D, o)]) (l₂ := il₂))
      have hmap : ∀ (s₂ : Shared), s₂.heap = s₁.heap → s₂.heap.MapOf (intKind PR w) D (valueAt kvs) := fun s₂ e => by rw [e]; exact (Heap.dictOf_iff.mpr ⟨o, F₅.here, ho⟩ : s₁.heap.DictOf (intKind PR w) D kvs).mapOf
      have hck : cs[i]? = some (k, c.2) := by rw [hc, e1]
      refine wpAny_execs_cons (wpAny_If (wpAny_isTrue_Compare1 (nm F₄ rfl (nm F₄ hm1 ?_))))
      refine wpAny_in_of (hkey t) (low_ne hlow) (hmap s₁ rfl) (wpAny_truthy_bool ?_)
      have done : ∀ (s₂ : Shared) m₂ o' y, Rel s₁ s₂ → Fx g₂ L ([(D, o')] ++ il₂) s₂.heap m₂ → o'.IsDictOf (intKind PR w) (stored kvs k y) → isI y (match at? (addC ct (cs.take i)) k with | some x => x + c.2 | none => c.2) → m₂ (Str.ofString "new_callers") = some (.ref D) →
          Rel s₁ s₂ ∧ ∃ m₃ g₃ led₃, Sub g₂ g₃ ∧ Fx g₃ L (il₂ ++ led₃) s₂.heap m₃ ∧ ∃ o kvs, led₃ = [(D, o)] ∧ o.IsDictOf (intKind PR w) kvs ∧ Kvs isI kvs (addC ct (cs.take (i + 1))) ∧ Sub s.heap g₃ ∧ m₃ (Str.ofString "new_callers") = some (.ref D) := by
        intro s₂ m₂ o' y hr₂ F₆ ho' hy hm₂
        refine ⟨hr₂, m₂, g₂, [(D, o')], fun _ _ e => e, F₆.perm (List.perm_append_comm (l₁ := il₂) (l₂ := [(D, o')])), o', _, rfl, ho', ?_, hs₃, hm₂⟩
        rw [addC_take hck]
        exact hkv.put k hy
      rcases hkv.at? k with ⟨x, y, h1, h2, tx, rfl⟩ | ⟨h1, h2⟩
      · rw [h1]
        rw [h2] at done
        refine ite_pos rfl ?_
        refine wpAny_execs_cons (wpAny_If (wpAny_isTrue_value ?_))
        refine bcall (s := { s₁ with toks := _ }) F₄ (W.keeps hs₃) (by k_is) (by boot_fast) (by decide) ?_
        refine wpAny_items_cons (nm F₄ rfl (wpAny_items_cons (blt (s := { s₁ with toks := _ }) F₄ (W.keeps hs₃) (by k_is) (v := .type "tuple") (by boot_fast) (by decide) (wpAny_items_nil ?_))))
        refine IsiPair.int_tuple (wpAny_truthy_bool ?_)
        refine ite_neg Bool.false_ne_true ?_
        refine wpAny_execs_cons (wpAny_AugAssign_SubscriptAny (nm F₄ hm1 (nm F₄ rfl ?_)))
        refine wpAny_getItem_of (hkey t) (hmap _ rfl) h1 (nm F₄ rfl (iadd_int ?_))
        refine setD (s := { s₁ with toks := _ }) F₅ ho hlen' fun h₄ o' F₆ ho' => wpAny_execs_nil (wpAny_execs_nil (wpAny_execs_nil ?_))
        exact done _ _ _ _ Rel.same F₆ ho' ⟨_, rfl⟩ hm1
      · rw [h1]
        rw [h2] at done
        refine ite_neg (by decide) ?_
        refine wpAny_execs_cons (wpAny_Assign_Subscript (nm F₄ rfl (nm F₄ hm1 (nm F₄ rfl ?_))))
        refine setD (s := { s₁ with toks := _ }) F₅ ho hlen' fun h₄ o' F₆ ho' => wpAny_execs_nil (wpAny_execs_nil ?_)
        exact done _ _ _ _ Rel.same F₆ ho' ⟨_, rfl⟩ hm1
    · rintro s'' m'' g'' led'' hg'' ⟨o, kvs, rfl, ho, hkv, hs₃, hm1⟩ F₄ hr'
      rw [List.take_of_length_le (by rw [hks.length]; exact Nat.le_refl _)] at hkv
      refine wpAny_execs_cons (wpAny_Return_some (nm F₄ hm1 ?_))
      exact h _ _ (fun b o e => F₄.keep b o (hs₃ b o e)) ⟨fun x => hr'.gens (hr.gens x), hr'.os.trans hr.os⟩ hD0 ⟨hlow, kvs, Heap.dictOf_iff.mpr ⟨o, F₄.here, ho⟩, hkv⟩
end
end Mine
end

section
open PySem PySem.W PySem.Calls PyProof.Rows
set_option maxRecDepth 100000
set_option maxHeartbeats 400000
namespace Mine
/-- what stands in h' and did not in h -/
def freshOf (h h' : Heap) : Heap := hideAll h' ((List.range h'.objs.size).filter fun b => (h.get? b).isSome)
theorem freshOf_get {h h' : Heap} {b : Addr} {o : Obj} (e : h'.get? b = some o) (n : h.get? b = none) : (freshOf h h').get? b = some o :=
  hideAll_get _ e fun hm => by
    have := (List.mem_filter.mp hm).2
    rw [n] at this; cases this
theorem freshOf_of {h h' : Heap} {b : Addr} {o : Obj} (e : (freshOf h h').get? b = some o) : h'.get? b = some o ∧ h.get? b = none := by
  have e' := of_hideAll _ e
  refine ⟨e', ?_⟩
  cases q : h.get? b with
  | none => rfl
  | some x =>
    have : b ∈ (List.range h'.objs.size).filter fun b => (h.get? b).isSome := List.mem_filter.mpr ⟨List.mem_range.mpr (Heap.lt_size e'), by rw [q]; rfl⟩
    unfold freshOf at e
    rw [hideAll_none _ this] at e; cases e
theorem freshOf_sub {h h₁ h' : Heap} (hs : Sub h h₁) : Sub (freshOf h₁ h') (freshOf h h') := fun b o e => by
  obtain ⟨e1, e2⟩ := freshOf_of e
  refine freshOf_get e1 ?_
  cases q : h.get? b with
  | none => rfl
  | some x => rw [hs _ _ q] at e2; cases e2
theorem freshOf_push {h h₁ h' : Heap} (hs' : Sub h₁ h') : Sub (freshOf h h₁) (freshOf h h') := fun b o e => by
  obtain ⟨e1, e2⟩ := freshOf_of e
  exact freshOf_get (hs' _ _ e1) e2
theorem none_of_sub {h h₁ : Heap} {b : Addr} (hs : Sub h h₁) (e : h₁.get? b = none) : h.get? b = none := by
  cases q : h.get? b with
  | none => rfl
  | some x => rw [hs _ _ q] at e; cases e

structure Ent where
  wid : Int
  cs : List (Int × Int)
/-- an entry of the profile -/
inductive EntAt (w : World) (h : Heap) (v : Value) (e : Ent) : Prop
  | mk (t : Addr) (c0 c2 c3 : Int) (d : Addr) (k0 k1 k2 k3 : Tok) (ev : v = .ref t) (ht : h.IsTuple t #[.int c0 k0, .int e.wid k1, .int c2 k2, .int c3 k3, .ref d]) (hd : DI w h d e.cs) : EntAt w h v e
theorem IsTuple.sub {h h' : Heap} {t : Addr} {xs : Array Value} (x : h.IsTuple t xs) (hs : Sub h h') : h'.IsTuple t xs := let ⟨o, e, r⟩ := x; ⟨o, hs _ _ e, r⟩
theorem EntAt.sub {w : World} {h h' : Heap} {v : Value} {e : Ent} (x : EntAt w h v e) (hs : Sub h h') : EntAt w h' v e :=
  let ⟨t, c0, c2, c3, d, k0, k1, k2, k3, e1, ht, hd⟩ := x; ⟨t, c0, c2, c3, d, k0, k1, k2, k3, e1, IsTuple.sub ht hs, hd.sub hs⟩
theorem Fx.toSub {g h : Heap} {L : Addr} {led : Led} {m : Str → Option Value} (F : Fx g L led h m) : Sub g h := fun b o e => F.keep b o e
theorem Sub.trans {a b c : Heap} (x : Sub a b) (y : Sub b c) : Sub a c := fun p o e => y p o (x p o e)

local macro_rules | `(tactic| walk_at "my_enter") => `(tactic| (
  (case k6 => k_is); (case k7 => k_is); (case k9 => exact BindsTo.of_eq rfl); (case kB => exact locs rfl); (case c2 => exact rfl); (case c3 => exact rfl); (case c4 => exact rfl); (case c5 => decide)))

section
variable {w : World} {A : Around} {s : Shared} {Q E : Value → Shared → Prop}
theorem deeper_ok {A : Around} {env : Env} {n : Nat} (h : A.depth + (n + 1) < recursionLimit) : (A.deeper env).depth + n < recursionLimit := by
  show A.depth + 1 + n < recursionLimit; omega
theorem add_func_stats_ok (W : Wd w s.heap) (hd : A.depth + 2 < recursionLimit) (hh : A.handled = none) (v1 v2 : Value) (e1 e2 : Ent)
    (h1 : EntAt w s.heap v1 e1) (h2 : EntAt w s.heap v2 e2) (hsz : e1.cs.length + e2.cs.length ≤ 1000)
    (h : ∀ s' v', Sub s.heap s'.heap → Rel s s' → EntAt w (freshOf s.heap s'.heap) v' ⟨e2.wid + e1.wid, addC e1.cs e2.cs⟩ → Q v' s') :
    wpAny (model PR w) A (call (.ref 49) [v1, v2]) Q E s := by
  obtain ⟨t1, a0, a2, a3, d1, k0, k1, k2, k3, rfl, ht1, hd1⟩ := h1
  obtain ⟨t2, b0, b2, b3, d2, j0, j1, j2, j3, rfl, ht2, hd2⟩ := h2
  refine' enterX (binds := [(Str.ofString "target", .ref t1), (Str.ofString "source", .ref t2)]) W (fun _ _ e => e) ?k6 ?k7 (by omega) ?k9 ?kB ?_ ?c2 ?c3 ?c4 ?c5
  walk_at "my_enter"
  intro h₁ L hL hs F
  refine wpAny_execs_cons (Assign_Tuple (nm F rfl ?_))
  refine wpAny_assign_Tuple hh (IsTuple.sub ht2 F.toSub) rfl rfl fun h' hx => ?_
  have F := F.ext (sub_of_size hx)
  refine wpAny_assignInOrder_more (storeT (s := { s with heap := h', toks := _ }) F rfl rfl fun h₂ tk₂ F => ?_)
  refine wpAny_assignInOrder_more (storeT (s := { s with heap := h₂, toks := _ }) F rfl rfl fun h₂ tk₂ F => ?_)
  refine wpAny_assignInOrder_more (storeT (s := { s with heap := h₂, toks := _ }) F rfl rfl fun h₂ tk₂ F => ?_)
  refine wpAny_assignInOrder_more (storeT (s := { s with heap := h₂, toks := _ }) F rfl rfl fun h₂ tk₂ F => ?_)
  refine wpAny_assignInOrder_more (storeT (s := { s with heap := h₂, toks := _ }) F rfl rfl fun h₂ tk₂ F => wpAny_assignInOrder_none ?_)
  refine wpAny_execs_cons (Assign_Tuple (nm (s := { s with heap := h₂, toks := _ }) F rfl ?_))
  refine wpAny_assign_Tuple hh (IsTuple.sub ht1 F.toSub) rfl rfl fun h' hx => ?_
  have F := F.ext (sub_of_size hx)
  refine wpAny_assignInOrder_more (storeT (s := { s with heap := h', toks := _ }) F rfl rfl fun h₂ tk₂ F => ?_)
  refine wpAny_assignInOrder_more (storeT (s := { s with heap := h₂, toks := _ }) F rfl rfl fun h₂ tk₂ F => ?_)
  refine wpAny_assignInOrder_more (storeT (s := { s with heap := h₂, toks := _ }) F rfl rfl fun h₂ tk₂ F => ?_)
  refine wpAny_assignInOrder_more (storeT (s := { s with heap := h₂, toks := _ }) F rfl rfl fun h₂ tk₂ F => ?_)
  refine wpAny_assignInOrder_more (storeT (s := { s with heap := h₂, toks := _ }) F rfl rfl fun h₂ tk₂ F => wpAny_assignInOrder_none ?_)
  refine wpAny_execs_cons (wpAny_Return_some (wpAny_Tuple ?_))
  refine wpAny_items_cons (wpAny_BinOp (nm (s := { s with heap := h₂, toks := _ }) F rfl (nm F rfl (add_int ?_))))
  refine wpAny_items_cons (wpAny_BinOp (nm (s := { s with heap := h₂, toks := _ }) F rfl (nm F rfl (add_int ?_))))
  refine wpAny_items_cons (wpAny_BinOp (nm (s := { s with heap := h₂, toks := _ }) F rfl (nm F rfl (add_int ?_))))
  refine wpAny_items_cons (wpAny_BinOp (nm (s := { s with heap := h₂, toks := _ }) F rfl (nm F rfl (add_int ?_))))
  refine wpAny_items_cons (fcall (s := { s with heap := h₂, toks := _ }) F W (by k_is) (by k_is) ?_)
  refine wpAny_items_cons (nm (s := { s with heap := h₂, toks := _ }) F rfl (wpAny_items_cons (nm F rfl (wpAny_items_nil ⟨F.toSub, ?_⟩))))
  refine add_callers_ok (s := { s with heap := h₂, toks := _ }) (W.keeps F.toSub) (deeper_ok (n := 1) hd) hh d1 d2 e1.cs e2.cs (hd1.sub F.toSub) (hd2.sub F.toSub) hsz fun s' d' hs' hr' hn' hd' => ?_
  have F' := F.ext hs'
  refine wpAny_items_nil ⟨by show (5 : Nat) ≤ sizeLine; rw [sizeLine_eq]; omega, ?_⟩
  have hdn : s.heap.get? d' = none := none_of_sub F.toSub hn'
  have htn : s.heap.get? s'.heap.objs.size = none := none_of_sub F'.toSub (get_size _)
  refine h _ _ (F'.toSub.trans (Sub.push _ _)) ⟨hr'.gens, hr'.os⟩ ⟨_, _, _, _, d', _, _, _, _, rfl, ⟨_, freshOf_get (Heap.get?_push_size _ rfl) htn, rfl, 0, rfl⟩, ?_⟩
  obtain ⟨lo, kvs, ho, hkv⟩ := hd'
  refine ⟨lo, kvs, ho.at fun o e => freshOf_get (Sub.push _ _ _ _ e) hdn, hkv⟩
end
end Mine
end

section
open PySem PySem.W PySem.Calls PyProof.Rows
set_option maxRecDepth 100000
set_option maxHeartbeats 400000
namespace Mine
section
variable {w : World} {A : Around} {env : Env} {it d : Addr} {g₀ g : Heap} {E : Value → Shared → Prop} {s : Shared} {led : Led} {m : Str → Option Value}
theorem letGo_tupiter {elts : List Expr} {x1} {pos : Pos} {I l T : Addr} {i : Nat} {Q : Unit → Shared → Prop} (hit : s.heap.IsTupleIter I l i) (hQ : Q () s) :
    wpAny (model PR w) A (letOwnedTupleGo (.Tuple elts x1 pos) (.ref I) (.ref T)) Q E s := by
  obtain ⟨o, ho, hc, hd⟩ := hit
  unfold letOwnedTupleGo
  refine wpAny_bind (wpAny_load ho ?_)
  rw [hc, hd]
  show wpAny _ A (if (["enumerate", "zip", "dict_itemiterator", "dict_reverseitemiterator", "odict_iterator", "itertools.zip_longest", "itertools.pairwise"].contains "tuple_iterator" &&
      (#[.ref l, .int i 0] : Array Value)[0]? == some (rawInt T)) = true then _ else _) Q E s
  rw [if_neg (by
    intro h
    rw [show (["enumerate", "zip", "dict_itemiterator", "dict_reverseitemiterator", "odict_iterator", "itertools.zip_longest", "itertools.pairwise"].contains "tuple_iterator") = false from by decide, Bool.false_and] at h
    cases h)]
  exact wpAny_pure hQ
/-- a tuple of pairs (tuples that stay), unpacked into two names -/
theorem Source.tpairs {l : Addr} {items : Array Value} {P : Nat → Value → Value → Prop} {xk xv : Str} {pk pv pt : Pos} {x1} (hh : A.handled = none) (hl : g₀.IsTuple l items)
    (hp : ∀ i v, items[i]? = some v → ∃ t a b, v = .ref t ∧ g₀.IsTuple t #[a, b] ∧ P i a b) (hk : env.scope.kind = .function) (hxk : env.kindOf xk = some .local) (hxv : env.kindOf xv = some .local) :
    Source w A env (.Tuple [.Name xk pk, .Name xv pv] x1 pt) it g₀ items.size (fun i il => ∃ o : Obj, il = [(it, o)] ∧ o.cls = .type "tuple_iterator" ∧ o.data = .fields #[.ref l, .int i 0])
      (fun i _ m m' => ∃ a b, P i a b ∧ m' = fun y => if y = xv then some b else if y = xk then some a else m y) where
  item := by
    rintro i il g led s m Q E K hlt ⟨o, rfl, hc, hdt⟩ hg F hK h
    have he : s.heap.IsTupleIter it l i := ⟨o, F.here, hc, hdt⟩
    have hm : s.heap.IsTuple l items := IsTuple.sub hl (fun _ _ e => F.keep _ _ (hg _ _ e))
    obtain ⟨v, hx⟩ : ∃ v, items[i]? = some v := ⟨items[i], by simp [hlt]⟩
    obtain ⟨t, a, b, rfl, ht, hP⟩ := hp i v hx
    refine wpAny_pyNext_tuple_item he hm hx fun h₁ he₁ hs₁ => hK _ _ ?_
    obtain ⟨o₁, ho₁, hc₁, hd₁⟩ := he₁
    have F₁ := F.upd hs₁ ho₁
    refine letGo_tupiter (s := { s with heap := h₁ }) ⟨o₁, ho₁, hc₁, hd₁⟩ ?_
    have ht₁ : h₁.IsTuple t #[a, b] := IsTuple.sub ht fun _ _ e => F₁.keep _ _ (hg _ _ e)
    refine wpAny_assign_Tuple (s := { s with heap := h₁ }) hh ht₁ rfl rfl fun h₂ hx₂ => ?_
    have F₂ := F₁.ext (sub_of_size hx₂)
    show wpAny _ _ (do holding [b] (assign (.Name xk pk) env a); do holding [] (assign (.Name xv pv) env b); pure ()) _ _ _
    refine wpAny_bind (wpAny_holding (storeT (s := { s with heap := h₂ }) F₂ hk hxk fun h₄ tk₄ F₄ => ?_))
    refine wpAny_bind (wpAny_holding (storeT (s := { s with heap := h₄, toks := tk₄ }) F₄ hk hxv fun h₅ tk₅ F₅ => wpAny_pure ?_))
    exact h h₅ tk₅ [(it, o₁)] _ g (fun _ _ e => e) ⟨o₁, rfl, hc₁, hd₁⟩ F₅ ⟨a, b, hP, rfl⟩
  done := by
    rintro il g led s m E K ⟨o, rfl, hc, hdt⟩ hg F h
    have he : s.heap.IsTupleIter it l items.size := ⟨o, F.here, hc, hdt⟩
    have hm : s.heap.IsTuple l items := IsTuple.sub hl (fun _ _ e => F.keep _ _ (hg _ _ e))
    exact wpAny_pyNext_tuple_end hh he hm (by simp) fun h' hx => h h' s.toks (F.out hx)
def tupItObj (l : Addr) (i : Nat) : Obj := { cls := .type "tuple_iterator", data := .fields #[.ref l, .int i 0] }
theorem for_tpairs {l : Addr} {items : Array Value} {P : Nat → Value → Value → Prop} {xk xv : Str} {pk pv pt pos : Pos} {x1} {iter : Expr} {Q : Flow → Shared → Prop} {body : List Stmt} (U : Nat → (Str → Option Value) → Heap → Led → Prop) (hh : A.handled = none) (F : Fx g env.locals led s.heap m) (hl : g.IsTuple l items)
    (hp : ∀ i v, items[i]? = some v → ∃ t a b, v = .ref t ∧ g.IsTuple t #[a, b] ∧ P i a b)
    (hiter : ∀ Q', (∀ s', s'.heap = s.heap → Rel s s' → Q' (.ref l) s') → wpAny (model PR w) A (eval iter env) Q' E s)
    (h0 : U 0 m g led) (hmono : ∀ i m g g' led, Sub g g' → U i m g led → U i m g' led)
    (step : ∀ i a b m₁ g₂ il₂ led₁ (s₁ : Shared), i < items.size → P i a b → Sub g g₂ → U i m₁ g₂ led₁ → Fx g₂ env.locals (il₂ ++ led₁) s₁.heap (fun y => if y = xv then some b else if y = xk then some a else m₁ y) → Rel s s₁ →
      wpAny (model PR w) A (execs body env) (TurnEnd U Q env.locals i g₂ il₂ s₁) (fun _ _ => False) s₁)
    (done : ∀ (s' : Shared) m' g' led', Sub g g' → U items.size m' g' led' → Fx g' env.locals led' s'.heap m' → Rel s s' → Q .next s')
    (hk : env.scope.kind = .function := by rfl) (hxk : env.kindOf xk = some .local := by rfl) (hxv : env.kindOf xv = some .local := by rfl)
    (hs : ∀ x, foldedSetIterable iter env x = pure x := by intro _; rfl) :
    wpAny (model PR w) A (exec (.For (.Tuple [.Name xk pk, .Name xv pv] x1 pt) iter body [] pos) env) Q E s := by
  refine wpAny_For (hiter _ fun s₀ e0 r0 => wpAny_pyIter_tuple (IsTuple.sub hl (e0 ▸ F.toSub)) ?_) hs
  have F₂ := (e0 ▸ F : Fx g env.locals led s₀.heap m).push (o := tupItObj l 0)
  refine codeAny_mono (forS (Source.tpairs (P := P) (pk := pk) (pv := pv) (pt := pt) (x1 := x1) hh hl hp hk hxk hxv) U (Q := Q) (il := [_]) (led := led) F₂ (fun _ _ e => e) ⟨_, rfl, rfl, rfl⟩ h0 hmono (fun i m₁ m₂ g₂ il₂ led₁ s₁ hlt hg₂ hU hB F₃ hr => ?_)
    fun s' m' g' led' hg hU F' hr => done s' m' g' led' hg hU F' ⟨fun x => hr.gens (r0.gens x), hr.os.trans r0.os⟩) (fun r s' hx => by cases r with | ok f => exact hx | error e => exact hx.elim)
  obtain ⟨a, b, hP, rfl⟩ := hB
  exact step i a b m₁ g₂ il₂ led₁ s₁ hlt hP hg₂ hU F₃ ⟨fun x => hr.gens (r0.gens x), hr.os.trans r0.os⟩
end

/-- the heap's first 113 objects, for the kit's own rules over the written part -/
def trunc (h : Heap) : Heap := { h with objs := h.objs.extract 0 113 }
theorem trunc_get {h : Heap} {b : Nat} (hb : b < 113) : (trunc h).get? b = h.get? b := by
  unfold trunc Heap.get?
  have : (h.objs.extract 0 113)[b]? = h.objs[b]? := by
    rw [Array.getElem?_extract]
    split
    · simp
    · rename_i hn
      rw [Array.getElem?_eq_none]
      simp only [Nat.sub_zero] at hn
      omega
  rw [this]
theorem trunc_lt {h : Heap} {b : Nat} {o : Obj} (e : (trunc h).get? b = some o) : b < 113 := by
  have e1 : b < (trunc h).objs.size := Heap.lt_size e
  unfold trunc at e1
  rw [Array.size_extract] at e1
  omega
theorem keys_lt (w : World) : ∀ p ∈ (K0 w.params).map (·.1), @LT.lt Nat _ p 113 := by
  intro p hp
  have hm : p ∈ [2, 3, 6, 22, 24, 25, 27, 28, 29, 31, 32, 34, 35, 36, 37, 38, 39, 40, 43, 45, 46, 48, 49, 50, 52, 53, 55, 56, 57, 59, 60, 62, 63, 64, 66, 67, 69, 70, 71, 73, 74, 76, 77, 78, 80, 81, 83, 84, 85, 88, 91, 92, 93, 96, 97, 98, 101, 102, 103, 106, 107, 108, 111, 112] := hp
  have hall : ([2, 3, 6, 22, 24, 25, 27, 28, 29, 31, 32, 34, 35, 36, 37, 38, 39, 40, 43, 45, 46, 48, 49, 50, 52, 53, 55, 56, 57, 59, 60, 62, 63, 64, 66, 67, 69, 70, 71, 73, 74, 76, 77, 78, 80, 81, 83, 84, 85, 88, 91, 92, 93, 96, 97, 98, 101, 102, 103, 106, 107, 108, 111, 112] : List Nat).all (· < 113) = true := by decide
  exact of_decide_eq_true (List.all_eq_true.mp hall p hm)
theorem lookup_lt {w : World} {b : Nat} {o : Obj} (e : (K0 w.params).lookup b = some o) : b < 113 := by
  refine keys_lt w b ?_
  generalize K0 w.params = l at e
  induction l with
  | nil => cases e
  | cons p r ih =>
    rw [List.lookup_cons] at e
    cases hb : b == p.1 with
    | true => rw [beq_iff_eq.mp hb]; exact .head _
    | false => rw [hb] at e; exact .tail _ (ih e)
/-- the kit's frame over the written part -/
theorem frOf {w : World} {h : Heap} {L : Nat} {m : Str → Option Value} (X : (K0 w.params).In h) (hn : h.Ns L m) (hL : 113 ≤ L) : Fr (trunc h) L h m ∧ (K0 w.params).In (trunc h) :=
  ⟨⟨hn, fun b o e => (trunc_get (trunc_lt e)).symm.trans e, by
    show @LE.le Nat _ (trunc h).objs.size L
    unfold trunc
    rw [Array.size_extract]
    omega⟩, fun a o e => (trunc_get (lookup_lt e)).trans (X a o e)⟩
theorem fresh_ge {w : World} {h : Heap} {L : Nat} (X : (K0 w.params).In h) (e : h.objs.size ≤ L) : 113 ≤ L := by
  have h112 : ∃ o, h.get? 112 = some o := by
    cases q : (K0 w.params).lookup 112 with
    | none => exact absurd q (by
        intro q'
        have : ((K0 w.params).lookup 112).isSome = true := by rfl
        rw [q'] at this; cases this)
    | some o => exact ⟨o, X _ _ q⟩
  obtain ⟨o, ho⟩ := h112
  have : @LT.lt Nat _ 112 h.objs.size := Heap.lt_size ho
  omega
end Mine
end

section
open PySem PySem.W PySem.Calls PyProof.Rows
set_option maxRecDepth 100000
set_option maxHeartbeats 400000
namespace Mine
/-- a judge: a TupleComp whose list is ((1, a), (5, b)) -/
inductive JudgeAt (w : World) (h : Heap) (x : Addr) : Prop
  | mk (dx T t1 t2 : Addr) (tk : Tok) (a : Int) (k1 k2 : Tok) (b : Int) (k3 k4 : Tok) (e1 : h.get? x = some (instObj 38 dx)) (e2 : h.get? dx = some (dictOf [⟨PyData.keyHash w.params (Str.ofString "comp_select_list"), .str (Str.ofString "comp_select_list") tk, .ref T⟩] 1))
    (e3 : h.IsTuple T #[.ref t1, .ref t2]) (e4 : h.IsTuple t1 #[.int 1 k1, .int a k2]) (e5 : h.IsTuple t2 #[.int 5 k3, .int b k4]) : JudgeAt w h x
theorem JudgeAt.sub {w : World} {h h' : Heap} {x : Addr} (j : JudgeAt w h x) (hs : Sub h h') : JudgeAt w h' x :=
  let ⟨dx, T, t1, t2, tk, a, k1, k2, b, k3, k4, e1, e2, e3, e4, e5⟩ := j
  ⟨dx, T, t1, t2, tk, a, k1, k2, b, k3, k4, hs _ _ e1, hs _ _ e2, IsTuple.sub e3 hs, IsTuple.sub e4 hs, IsTuple.sub e5 hs⟩
/-- a row of the line: an entry and its node -/
inductive RowAt (h : Heap) (v : Value) (wid node : Int) : Prop
  | mk (t : Addr) (c0 c2 c3 : Int) (d : Value) (k0 k1 k2 k3 k5 : Tok) (e : v = .ref t) (ht : h.IsTuple t #[.int c0 k0, .int wid k1, .int c2 k2, .int c3 k3, d, .int node k5]) : RowAt h v wid node
theorem RowAt.sub {h h' : Heap} {v : Value} {a b : Int} (x : RowAt h v a b) (hs : Sub h h') : RowAt h' v a b :=
  let ⟨t, c0, c2, c3, d, k0, k1, k2, k3, k5, e1, ht⟩ := x; ⟨t, c0, c2, c3, d, k0, k1, k2, k3, k5, e1, IsTuple.sub ht hs⟩
theorem isTup_of {h : Heap} {t : Addr} {xs : Array Value} (x : h.IsTuple t xs) : IsTup h t xs := x

local macro_rules | `(tactic| walk_at "my_enter") => `(tactic| (
  (case k6 => k_is); (case k7 => k_is); (case k9 => exact BindsTo.of_eq rfl); (case kB => exact locs rfl); (case c2 => exact rfl); (case c3 => exact rfl); (case c4 => exact rfl); (case c5 => decide)))

theorem absQ_ {M : Model} {A : Around} {α : Type} {t : Sem α} {Q : α → Shared → Prop} {E : Value → Shared → Prop} {s : Shared} (h : ∀ Q' : α → Shared → Prop, (∀ x s', Q x s' → Q' x s') → wpAny M A t Q' E s) : wpAny M A t Q E s := h Q fun _ _ x => x
section
variable {w : World} {A : Around} {s : Shared} {Q E : Value → Shared → Prop}
theorem compare_ok (W : Wd w s.heap) (hd : A.depth + 1 < recursionLimit) (hh : A.handled = none) (x : Addr) (v1 v2 : Value) (w1 n1 w2 n2 : Int)
    (hj : JudgeAt w s.heap x) (h1 : RowAt s.heap v1 w1 n1) (h2 : RowAt s.heap v2 w2 n2)
    (h : ∀ s' i t, Sub s.heap s'.heap → Rel s s' → Q (.int i t) s') :
    wpAny (model PR w) A (call (.ref 35) [.ref x, v1, v2]) Q E s := by
  obtain ⟨dx, T, t1, t2, tk, a, k1, k2, b, k3, k4, e1, e2, e3, e4, e5⟩ := hj
  obtain ⟨l1, a0, a2, a3, ad, i0, i1, i2, i3, i5, rfl, hl1⟩ := h1
  obtain ⟨l2, b0, b2, b3, bd, j0, j1, j2, j3, j5, rfl, hl2⟩ := h2
  refine' enterX (binds := [(Str.ofString "self", .ref x), (Str.ofString "left", .ref l1), (Str.ofString "right", .ref l2)]) W (fun _ _ e => e) ?k6 ?k7 (by omega) ?k9 ?kB ?_ ?c2 ?c3 ?c4 ?c5
  walk_at "my_enter"
  intro h₁ L hL hs F
  refine wpAny_execs_cons ?_
  refine for_tpairs (l := T) (items := #[.ref t1, .ref t2]) (P := fun _ a b => (∃ k, a = .int 1 k ∨ a = .int 5 k) ∧ ∃ i t, b = .int i t)
    (fun i m g led => led = [] ∧ Sub s.heap g ∧ m (Str.ofString "left") = some (.ref l1) ∧ m (Str.ofString "right") = some (.ref l2)) hh F e3 (fun i v hv => ?_) (fun Q' hq => ?_) ⟨rfl, fun _ _ e => e, rfl, rfl⟩
    (fun i m g g' led hs hU => ⟨hU.1, fun b o e => hs b o (hU.2.1 b o e), hU.2.2⟩) ?_ ?_
  · match i, hv with
    | 0, hv => exact ⟨t1, _, _, (Option.some.inj hv).symm, e4, ⟨k1, .inl rfl⟩, _, _, rfl⟩
    | 1, hv => exact ⟨t2, _, _, (Option.some.inj hv).symm, e5, ⟨k3, .inr rfl⟩, _, _, rfl⟩
    | n + 2, hv => simp at hv
  · refine Attribute_Name_ (nm F rfl ?_)
    obtain ⟨Fr0, X0⟩ := frOf (W.X.keeps F.toSub) F.ns (fresh_ge W.X (Nat.le_of_eq hL.symm))
    refine get_own Fr0 X0 (C := 38) (ox := instObj 38 dx) ⟨F.keep _ _ e1, rfl, rfl, F.keep _ _ e2⟩ (by k_is) (by k_is) (attr := none) (by k_is) (by k_is) (v := .ref T) ?_ rfl ?_
    · k_get
    · exact hq _ rfl Rel.same
  · intro i av bv m₁ g₂ il₂ led₁ s₁ hlt hab hg₂ hU F₃ hr
    refine absQ_ fun QQ hQQ => ?_
    obtain ⟨⟨k, ha⟩, ib, tb, rfl⟩ := hab
    obtain ⟨rfl, hs₂, hm1, hm2⟩ := hU
    have key : ∃ ka xl xr pa pb, av = .int ka k ∧ -(2 ^ 63) ≤ ka ∧ ka < 2 ^ 63 ∧ (∃ j, seqIndex? ka 6 = some j ∧ (#[Value.int a0 i0, .int w1 i1, .int a2 i2, .int a3 i3, ad, .int n1 i5] : Array Value)[j]? = some (.int xl pa) ∧ (#[Value.int b0 j0, .int w2 j1, .int b2 j2, .int b3 j3, bd, .int n2 j5] : Array Value)[j]? = some (.int xr pb)) := by
      rcases ha with rfl | rfl
      · exact ⟨1, w1, w2, i1, j1, rfl, by decide, by decide, 1, rfl, rfl, rfl⟩
      · exact ⟨5, n1, n2, i5, j5, rfl, by decide, by decide, 5, rfl, rfl, rfl⟩
    obtain ⟨ka, xl, xr, pa, pb, rfl, hlo, hhi, j, hj, hx1, hx2⟩ := key
    refine wpAny_execs_cons (wpAny_Assign_Name (Subscript_ (nm F₃ hm1 (nm F₃ rfl ?_))))
    refine item_tuple (IsTuple.sub hl1 (hs₂.trans F₃.toSub)) hlo hhi hj hx1 (sto F₃ fun h₄ F₄ => ?_)
    refine wpAny_execs_cons (wpAny_Assign_Name (Subscript_ (nm (s := { s₁ with heap := h₄, toks := _ }) F₄ hm2 (nm F₄ rfl ?_))))
    refine item_tuple (IsTuple.sub hl2 (hs₂.trans F₄.toSub)) hlo hhi hj hx2 (sto F₄ fun h₅ F₅ => ?_)
    refine wpAny_execs_cons (wpAny_If (wpAny_isTrue_Compare1 (nm (s := { s₁ with heap := h₅, toks := _ }) F₅ rfl (nm F₅ rfl (lt_int (wpAny_truthy_bool ?_))))))
    by_cases hc : xl < xr
    · refine ite_pos (decide_eq_true hc) (wpAny_execs_cons (wpAny_Return_some (wpAny_UnaryOp (nm (s := { s₁ with heap := h₅, toks := _ }) F₅ rfl (neg_int ?_)))))
      exact hQQ _ _ (h _ _ _ (hs₂.trans F₅.toSub) ⟨hr.gens, hr.os⟩)
    · refine ite_neg (by rw [decide_eq_false hc]; exact Bool.false_ne_true) (wpAny_execs_nil ?_)
      refine wpAny_execs_cons (wpAny_If (wpAny_isTrue_Compare1 (nm (s := { s₁ with heap := h₅, toks := _ }) F₅ rfl (nm F₅ rfl (gt_int (wpAny_truthy_bool ?_))))))
      by_cases hc' : xr < xl
      · refine ite_pos (decide_eq_true hc') (wpAny_execs_cons (wpAny_Return_some (nm (s := { s₁ with heap := h₅, toks := _ }) F₅ rfl ?_)))
        exact hQQ _ _ (h _ _ _ (hs₂.trans F₅.toSub) ⟨hr.gens, hr.os⟩)
      · refine ite_neg (by rw [decide_eq_false hc']; exact Bool.false_ne_true) (wpAny_execs_nil (wpAny_execs_nil ?_))
        exact hQQ _ _ ⟨Rel.same, _, g₂, [], fun _ _ e => e, F₅, rfl, hs₂, hm1, hm2⟩
  · rintro s' m' g' led' hg' ⟨rfl, hs', hm1, hm2⟩ F' hr
    refine wpAny_execs_cons (wpAny_Return_some (wpAny_Constant_int ?_))
    exact h _ _ _ (hs'.trans F'.toSub) ⟨hr.gens, hr.os⟩
end
end Mine
end

section
open PySem PySem.W PySem.Calls PyProof.Rows
set_option maxRecDepth 100000
set_option maxHeartbeats 400000
namespace Mine
section
variable {w : World} {A : Around} {R : GenEnd} {Y : Protocol} {n : Nat} {s₀ : Shared} {c : Code} {fs : List Frame} {s : Shared} {env : Env}
abbrev NoE : Value → Shared → Prop := fun _ _ => False
/-- one turn of a for, in a generator's segment -/
theorem seg_forTurn {target : Expr} {it : Value} {body orelse : List Stmt}
    (h : wpAny (model PR w) (A.over (.forLoop target it body orelse env) fs) (pyNext it) (fun r s₁ => match r with
      | none => Seg (model PR w) A R Y n s₀ (.forLoop target it body orelse env) (.pure (.again (.block orelse env))) fs s₁
      | some v => wpAny (model PR w) (A.over (.forLoop target it body orelse env) fs) (letOwnedTupleGo target it v) (fun _ s₂ => wpAny (model PR w) (A.over (.forLoop target it body orelse env) fs) (assign target env v) (fun _ s₃ =>
          Seg (model PR w) A R Y n s₀ (.forLoop target it body orelse env) ((execs body env).wrap (fun f => match f with
            | .next | .cont => .pure (.again (.forLoop target it body orelse env))
            | .brk => .pure (.done .next)
            | .ret v => .pure (.done (.ret v))) (fun e => (do noteFrame e env; theTreesLotGoes e : Sem Unit).wrap (fun _ => .raise e) .raise id id) id id) fs s₃) NoE s₂) NoE s₁) NoE s) :
    Seg (model PR w) A R Y n s₀ (.forLoop target it body orelse env) ((model PR w).den (.forLoop target it body orelse env)) fs s := by
  show Seg _ A R Y n s₀ _ ((forTurn target it body orelse env).onRaise (fun x => do noteFrame x env; theTreesLotGoes x)) fs s
  unfold forTurn
  rw [Sem.onRaise_eq_wrap]
  refine seg_bind_wrap (wpAny_standAt (seg_bind_wrap (wpAny_onRaise (wpAny_mono h (fun r s₁ h₁ => ?_) fun _ _ x => x.elim))))
  cases r with
  | none => exact h₁
  | some v =>
    refine seg_bind_wrap (wpAny_mono h₁ (fun _ s₂ h₂ => ?_) fun _ _ x => x.elim)
    refine seg_bind_wrap (wpAny_mono h₂ (fun _ s₃ h₃ => ?_) fun _ _ x => x.elim)
    rw [Sem.bind_eq_wrap', Sem.wrap_wrap]
    rw [Sem.wrap_congr (execs body env) _ _ (K' := fun f => match f with
            | .next | .cont => .pure (.again (.forLoop target it body orelse env))
            | .brk => .pure (.done .next)
            | .ret v => .pure (.done (.ret v))) (H' := (fun e => (do noteFrame e env; theTreesLotGoes e : Sem Unit).wrap (fun _ => .raise e) .raise id id))
        (fun f => by cases f <;> rfl)
        (fun e => by first | exact Sem.bind_eq_wrap _ _ | (show (do noteFrame e env; theTreesLotGoes e : Sem Unit).bind (fun _ => .raise e) = _; rw [Sem.bind_eq_wrap]))]
    exact h₃

variable {K : Flow → Sem Fin} {H : Value → Sem Fin} {gd : Bool → Bool} {lv : List Value → List Value}
/-- a statement that yields nothing -/
theorem seg_stmt {st : Stmt} {rest : List Stmt}
    (h : wpAny (model PR w) (A.over c fs) (exec st env) (fun f s₁ => f = .next ∧ Seg (model PR w) A R Y n s₀ c ((execs rest env).wrap K H gd lv) fs s₁) NoE s) :
    Seg (model PR w) A R Y n s₀ c ((execs (st :: rest) env).wrap K H gd lv) fs s := by
  refine seg_execs_cons (seg_wrap (wpAny_mono h (fun f s₁ h₁ => ?_) fun _ _ x => x.elim))
  obtain ⟨rfl, h₁⟩ := h₁
  exact h₁
theorem seg_If {test : Expr} {body orelse rest : List Stmt} {pos : Pos}
    (h : wpAny (model PR w) (A.over c fs) (isTrue test env (eval test env)) (fun b s₁ => if b = true then Seg (model PR w) A R Y n s₀ c ((execs (body ++ rest) env).wrap K H gd lv) fs s₁ else Seg (model PR w) A R Y n s₀ c ((execs (orelse ++ rest) env).wrap K H gd lv) fs s₁) NoE s) :
    Seg (model PR w) A R Y n s₀ c ((execs (.If test body orelse pos :: rest) env).wrap K H gd lv) fs s := by
  have app : ∀ (b : List Stmt), (execs (b ++ rest) env).wrap K H gd lv = (execs b env).wrap (fun f => match f with | .next => (execs rest env).wrap K H gd lv | f => K f) H gd lv := by
    intro b
    induction b with
    | nil => rfl
    | cons st r ih =>
      rw [List.cons_append, execs_cons_wrap, execs_cons_wrap]
      refine Sem.wrap_congr _ _ _ (fun f => ?_) fun _ => rfl
      cases f <;> first | exact ih | rfl
  refine seg_execs_cons ?_
  rw [exec_If]
  refine seg_bind_wrap (wpAny_standAt (seg_bind_wrap (wpAny_mono h (fun b s₁ h₁ => ?_) fun _ _ x => x.elim)))
  cases b with
  | true => rw [if_pos rfl, app] at h₁; exact h₁
  | false => rw [if_neg Bool.false_ne_true, app] at h₁; exact h₁
end
end Mine
end

section
open PySem PySem.W PySem.Calls PyProof.Rows
set_option maxRecDepth 100000
set_option maxHeartbeats 400000
namespace Mine
def enumObj (it : Addr) (i : Int) (old : Value) : Obj := { cls := .type "enumerate", dict := none, data := .fields #[.none, .bool false, .ref it, rawInt i, .none, old], slots := #[] }
/-- the turning parts of enumerate over a text -/
def enumStrSt (e it : Addr) (x : Str) (t : Tok) (i : Nat) (il : Led) : Prop := ∃ old o, il = [(e, enumObj it i old), (it, o)] ∧ o.cls = .type "str_ascii_iterator" ∧ o.data = .fields #[.str x t, .int i 0]
section
variable {w : World} {A : Around} {env : Env} {e it d : Addr} {g₀ g : Heap} {E : Value → Shared → Prop} {s : Shared} {led : Led} {m : Str → Option Value}
theorem Fx.upd2 {a b : Addr} {oa ob oa' ob' : Obj} {h h' : Heap} {L : Addr} (F : Fx g L ((a, oa) :: (b, ob) :: led) h m) (hs : ∀ x o, x ≠ a → x ≠ b → h.get? x = some o → h'.get? x = some o) (ha : h'.get? a = some oa') (hb : h'.get? b = some ob') :
    Fx g L ((a, oa') :: (b, ob') :: led) h' m := by
  have D := F.at_ _ (.head _)
  have D2 := F.at_ _ (.tail _ (.head _))
  have n1 := List.nodup_cons.mp F.nd
  have n2 := List.nodup_cons.mp n1.2
  refine ⟨F.ns.at fun x q => hs _ x (Ne.symm D.2.1) (Ne.symm D2.2.1) q, fun y x q => hs y x (fun r => ?_) (fun r => ?_) (F.keep y x q), F.off, fun p hp => ?_, F.nd⟩
  · have := D.2.2
    rw [← (show y = a from r), q] at this; cases this
  · have := D2.2.2
    rw [← (show y = b from r), q] at this; cases this
  · rcases List.mem_cons.mp hp with rfl | hp
    · exact ⟨ha, D.2⟩
    · rcases List.mem_cons.mp hp with rfl | hp
      · exact ⟨hb, D2.2⟩
      · have P := F.at_ p (.tail _ (.tail _ hp))
        refine ⟨hs _ _ (fun q => n1.1 ?_) (fun q => n2.1 ?_) P.1, P.2⟩
        · exact List.mem_cons_of_mem _ (List.mem_map.mpr ⟨p, hp, q⟩)
        · exact List.mem_map.mpr ⟨p, hp, q⟩
theorem Source.enumStr {x : Str} {t : Tok} {xi xv : Str} {pi pv pt : Pos} {x1} (hh : A.handled = none) (hk : env.scope.kind = .function) (hxi : env.kindOf xi = some .local) (hxv : env.kindOf xv = some .local) :
    Source w A env (.Tuple [.Name xi pi, .Name xv pv] x1 pt) e g₀ x.cps.size (enumStrSt e it x t)
      (fun i _ m m' => ∃ c u tk, x.cps[i]? = some c ∧ m' = fun y => if y = xv then some (.str ⟨#[c]⟩ u) else if y = xi then some (.int i tk) else m y) where
  item := by
    rintro i il g led s m Q E K hlt ⟨old, o, rfl, hc, hdt⟩ hg F hK h
    have he : IsEnum s.heap e it i old := F.here
    have hi : s.heap.IsStrIter it "str_ascii_iterator" x t i := ⟨o, F.get (.tail _ (.head _)), hc, hdt⟩
    have hei : e ≠ it := fun q => (List.nodup_cons.mp F.nd).1 (by rw [q]; exact .head _)
    refine wpAny_pyNext_enum_itemD (Draws.strAscii (A := A.in1) hh it x t) he hi hlt hei (by simpa using hei) fun y h₁ tk ⟨c, u, hx, hy⟩ heo hit ht₁ hz₁ hk₁ => hK _ _ ?_
    subst hy
    obtain ⟨o₁, ho₁, hc₁, hd₁⟩ := hit
    have F₁ := F.upd2 hk₁ heo ho₁
    refine wpAny_letOwnedTupleGo_enum (s := { s with heap := h₁, toks := _ }) heo fun h₂ he₂ hs₂ => ?_
    have F₂ := F₁.upd hs₂ he₂
    have hiH : e < s.heap.objs.size := Heap.lt_size he
    have ht₂ : h₂.IsTuple s.heap.objs.size #[.int i tk, .str ⟨#[c]⟩ u] := ⟨_, (hs₂.2 _ (Nat.ne_of_gt hiH)).trans ht₁, rfl, _, rfl⟩
    refine wpAny_assign_Tuple (s := { s with heap := h₂, toks := _ }) hh ht₂ rfl rfl fun h₃ hx₃ => ?_
    have F₃ := F₂.ext (sub_of_size hx₃)
    show wpAny _ _ (do holding [.str ⟨#[c]⟩ u] (assign (.Name xi pi) env (.int i tk)); do holding [] (assign (.Name xv pv) env (.str ⟨#[c]⟩ u)); pure ()) _ _ _
    refine wpAny_bind (wpAny_holding (storeT (s := { s with heap := h₃, toks := _ }) F₃ hk hxi fun h₄ tk₄ F₄ => ?_))
    refine wpAny_bind (wpAny_holding (storeT (s := { s with heap := h₄, toks := tk₄ }) F₄ hk hxv fun h₅ tk₅ F₅ => wpAny_pure ?_))
    exact h h₅ tk₅ [(e, enumObj it ((i + 1 : Nat) : Int) (.str ⟨#[c]⟩ u)), (it, o₁)] _ g (fun _ _ q => q) ⟨_, _, rfl, hc₁, hd₁⟩ F₅ ⟨c, u, tk, hx, rfl⟩
  done := by
    rintro il g led s m E K ⟨old, o, rfl, hc, hdt⟩ hg F h
    have he : IsEnum s.heap e it x.cps.size old := F.here
    have hi : s.heap.IsStrIter it "str_ascii_iterator" x t x.cps.size := ⟨o, F.get (.tail _ (.head _)), hc, hdt⟩
    exact wpAny_pyNext_enum_endD (Draws.strAscii (A := A.in1) hh it x t) he hi fun h' hx => h h' s.toks (F.tail.out hx)
end

/-- the units of a text, a backslash with the sign behind it (the pure side of _iter_escaped_chars) -/
def escS : Bool → Nat → List Nat → List (Nat × List Nat)
  | false, _, [] => []
  | true, i, [] => [(i - 1, [92])]
  | true, i, c :: r => (i, [92, c]) :: escS false (i + 1) r
  | false, i, c :: r => if c = 92 then escS true (i + 1) r else (i, [c]) :: escS false (i + 1) r
/-- a unit, as the generator yields it -/
inductive UnitAt (h : Heap) (v : Value) (u : Nat × List Nat) : Prop
  | mk (t : Addr) (k0 k1 : Tok) (ev : v = .ref t) (ht : h.IsTuple t #[.int u.1 k0, .str ⟨u.2.toArray⟩ k1]) : UnitAt h v u
theorem UnitAt.sub {h h' : Heap} {v : Value} {u : Nat × List Nat} (x : UnitAt h v u) (hs : Sub h h') : UnitAt h' v u := let ⟨t, k0, k1, e, ht⟩ := x; ⟨t, k0, k1, e, IsTuple.sub ht hs⟩
end Mine
end

section
open PySem PySem.W PySem.Calls PyProof.Rows
set_option maxRecDepth 100000
set_option maxHeartbeats 400000
namespace Mine
abbrev Ghost (own : List Addr) (s₀ : Shared) (g : Heap) : Prop := ∀ b o, b ∉ own → s₀.heap.get? b = some o → g.get? b = some o
def SinceO (own : List Addr) (s₀ s : Shared) : Prop := ∃ h' tk, s = { s₀ with heap := h', toks := tk } ∧ ∀ b o, b ∉ own → s₀.heap.get? b = some o → h'.get? b = some o
theorem Fx.wake {g h h' : Heap} {C : Addr} {il : Led} {m : Str → Option Value} {own : List Addr} (F : Fx g C il h m) (hsub : ∀ b ∈ C :: il.map (·.1), b ∈ own) (hk : ∀ b ∈ own, ∀ o, h.get? b = some o → h'.get? b = some o) : Fx (hideAll h' own) C il h' m := by
  refine ⟨F.ns.at fun o e => hk _ (hsub _ (.head _)) o e, fun b o e => of_hideAll _ e, hideAll_none _ (hsub _ (.head _)), fun p hp => ⟨hk _ (hsub _ (.tail _ (List.mem_map_of_mem hp))) _ (F.at_ p hp).1, (F.at_ p hp).2.1, hideAll_none _ (hsub _ (.tail _ (List.mem_map_of_mem hp)))⟩, F.nd⟩

/-- what a generator of units tells at a yield -/
def gproto (own : List Addr) (U : List (Nat × List Nat)) : Protocol := fun m s₀ v s kap =>
  ((∃ u, U[U.length - 1 - m]? = some u ∧ UnitAt (freshOf s₀.heap s.heap) v u) ∧ ∀ b ∈ own, v ≠ .ref b) ∧ SinceO own s₀ s ∧
    ∀ s'' : Shared, (∀ b ∈ own, ∀ o, s.heap.get? b = some o → s''.heap.get? b = some o) → kap (.send .none) s''
def gend (own : List Addr) : GenEnd := fun n s₀ r s₁ => r = .ok (.ret .none) ∧ (n = 0 ∧ SinceO own s₀ s₁)

section
variable {w : World} {A : Around} {R : GenEnd} {Y : Protocol} {n : Nat} {s₀ : Shared} {c : Code} {fs : List Frame} {s : Shared} {env : Env}
variable {K : Flow → Sem Fin} {H : Value → Sem Fin} {gd : Bool → Bool} {lv : List Value → List Value}
theorem seg_For {target iter : Expr} {body rest : List Stmt} {pos : Pos}
    (h : wpAny (model PR w) (A.over c fs) (eval iter env) (fun x s₁ => wpAny (model PR w) (A.over c fs) (pyIter x) (fun it s₂ => ∀ (k : Result → Sem Fin) (p : Pos),
        (∀ {n' : Nat} {s₀' s' : Shared} {c' : Code}, Seg (model PR w) A R Y n' s₀' c ((execs rest env).wrap K H gd lv) fs s' → Seg (model PR w) A R Y n' s₀' c' (leafOf (.ok .next)) (.ret k none (gd false) (lv []) c p [] :: fs) s') →
        Seg (model PR w) A R Y n s₀ (.forLoop target it body [] env) ((model PR w).den (.forLoop target it body [] env)) (.ret k none (gd false) (lv []) c p [] :: fs) s₂) NoE s₁) NoE s)
    (hs : ∀ x, foldedSetIterable iter env x = pure x := by intro _; rfl) :
    Seg (model PR w) A R Y n s₀ c ((execs (.For target iter body [] pos :: rest) env).wrap K H gd lv) fs s := by
  refine seg_execs_cons ?_
  rw [exec_For]
  refine seg_bind_wrap (wpAny_standAt (seg_bind_wrap (wpAny_mono h (fun x s₁ h₁ => ?_) fun _ _ x => x.elim)))
  refine seg_bind_wrap (wpAny_of_eq (hs x) (seg_bind_wrap (wpAny_standAt (seg_bind_wrap (wpAny_holding (wpAny_mono h₁ (fun it s₂ h₂ => ?_) fun _ _ x => x.elim))))))
  refine seg_call (h := none) (g := gd false) (l := lv []) (c' := .forLoop target it body [] env) fun p => ?_
  exact h₂ _ p fun hseg => seg_leaf _ hseg

theorem seg_forS {target : Expr} {it : Addr} {body : List Stmt} {N : Nat} {St : Nat → Led → Prop} {B : Nat → Heap → (Str → Option Value) → (Str → Option Value) → Prop} {g₀ : Heap} (hg₀ : ∀ g, Sub g₀ g) {own : List Addr}
    (S : Source w (A.over (.forLoop target (.ref it) body [] env) fs) env target it g₀ N St B) (J : Nat → Nat → (Str → Option Value) → Prop) (Dn : Led → Prop)
    (hdone : ∀ (il : Led) g (s : Shared) m (K : Option Value → Shared → Prop), St N il → Fx g env.locals il s.heap m → (∀ h' tk il', Dn il' → Fx g env.locals il' h' m → K none { s with heap := h', toks := tk }) →
      wpAny (model PR w) (A.over (.forLoop target (.ref it) body [] env) fs) (pyNext (.ref it)) K NoE s)
    (hend : ∀ n s₀ h tk m g il, J N n m → Dn il → Ghost own s₀ g → Fx g env.locals il h m → Seg (model PR w) A R Y n s₀ (.forLoop target (.ref it) body [] env) (.pure (.again (.block [] env))) fs { s₀ with heap := h, toks := tk })
    (step : ∀ i, i < N → ∀ n s₀ h tk m₁ m₂ g il, J i n m₁ → B i g m₁ m₂ → St (i + 1) il → Ghost own s₀ g → Fx g env.locals il h m₂ →
      (∀ n' s₀' h' tk' m' g' il', J (i + 1) n' m' → St (i + 1) il' → Ghost own s₀' g' → Fx g' env.locals il' h' m' →
        Seg (model PR w) A R Y n' s₀' (.forLoop target (.ref it) body [] env) ((model PR w).den (.forLoop target (.ref it) body [] env)) fs { s₀' with heap := h', toks := tk' }) →
      Seg (model PR w) A R Y n s₀ (.forLoop target (.ref it) body [] env) ((execs body env).wrap (fun f => match f with
            | .next | .cont => .pure (.again (.forLoop target (.ref it) body [] env))
            | .brk => .pure (.done .next)
            | .ret v => .pure (.done (.ret v))) (fun e => (do noteFrame e env; theTreesLotGoes e : Sem Unit).wrap (fun _ => .raise e) .raise id id) id id) fs { s₀ with heap := h, toks := tk }) :
    ∀ k i, N - i = k → i ≤ N → ∀ n s₀ h tk m g il, J i n m → St i il → Ghost own s₀ g → Fx g env.locals il h m →
      Seg (model PR w) A R Y n s₀ (.forLoop target (.ref it) body [] env) ((model PR w).den (.forLoop target (.ref it) body [] env)) fs { s₀ with heap := h, toks := tk } := by
  intro k
  induction k with
  | zero =>
    intro i hk hi n s₀ h tk m g il hJ hst hg F
    have hin : i = N := by omega
    subst hin
    refine seg_forTurn ?_
    refine hdone il g { s₀ with heap := h, toks := tk } m _ hst F fun h' tk' il' hdn F' => ?_
    exact hend n s₀ h' tk' m g il' hJ hdn hg F'
  | succ k ih =>
    intro i hk hi n s₀ h tk m g il hJ hst hg F
    have hlt : i < N := by omega
    refine seg_forTurn ?_
    refine S.item i il g [] { s₀ with heap := h, toks := tk } m _ _ _ hlt hst (hg₀ g) (by rw [List.append_nil]; exact F) (fun v s₁ hx => hx) fun h' tk' il' m' g' hg' hst' F' hB => ?_
    rw [List.append_nil] at F'
    exact step i hlt n s₀ h' tk' m m' g' il' hJ hB hst' (fun b o hb e => hg' _ _ (hg b o hb e)) F' fun n' s₀' h'' tk'' m'' g'' il'' hJ'' hst'' hg'' F'' => ih (i + 1) (by omega) hlt n' s₀' h'' tk'' m'' g'' il'' hJ'' hst'' hg'' F''
end
end Mine
end

section
open PySem PySem.W PySem.Calls PyProof.Rows
set_option maxRecDepth 100000
set_option maxHeartbeats 400000
namespace Mine
abbrev unitsOf (x : Str) : List (Nat × List Nat) := escS false 0 x.cps.toList
/-- a generator of units stands at a, j of them handed out; own: what it alone turns -/
def GenSt (w : World) (A : Around) (a : Addr) (U : List (Nat × List Nat)) (j : Nat) (own : List Addr) (s : Shared) : Prop :=
  ∃ gno gs, s.heap.IsGen a gno ∧ s.gens[gno]? = some gs ∧ a ∉ own ∧
    ∀ (s'' : Shared), Wd w s''.heap → (∀ b ∈ own, ∀ o, s.heap.get? b = some o → s''.heap.get? b = some o) →
      ∃ own', (∀ b ∈ own', b ∈ own ∨ s''.heap.get? b = none) ∧ gs.Goes (model PR w) A (gend own') (gproto own' U) (U.length - j) (.send .none) s''

theorem Fx.new2 {g h h' : Heap} {L a b : Addr} {led : Led} {m : Str → Option Value} {oa ob : Obj} (F : Fx g L led h m) (hk : Sub h h') (ha : h.get? a = none) (hb : h.get? b = none) (hab : a ≠ b) (ha' : h'.get? a = some oa) (hb' : h'.get? b = some ob) :
    Fx g L ((a, oa) :: (b, ob) :: led) h' m := by
  have Fa := F.new hk ha ha'
  have Fb := F.new hk hb hb'
  refine ⟨Fa.ns, Fa.keep, Fa.off, fun p hp => ?_, ?_⟩
  · rcases List.mem_cons.mp hp with rfl | hp
    · exact Fa.at_ _ (.head _)
    · exact Fb.at_ _ hp
  · rw [List.map_cons, List.nodup_cons]
    refine ⟨fun hm => ?_, Fb.nd⟩
    rcases List.mem_cons.mp hm with q | q
    · exact hab q
    · exact (List.nodup_cons.mp Fa.nd).1 q
theorem stoZ {M : Model} {A : Around} {E : Value → Shared → Prop} {s : Shared} {env : Env} {g : Heap} {led : Led} {m : Str → Option Value} {x : Str} {v : Value} {Q : Unit → Shared → Prop} (F : Fx g env.locals led s.heap m)
    (h : ∀ h', h'.objs.size = s.heap.objs.size → Fx g env.locals led h' (fun y => if y = x then some v else m y) → Q () { s with heap := h', toks := s.toks + 1 })
    (hk : env.scope.kind = .function := by rfl) (hl : env.kindOf x = some .local := by rfl) :
    wpAny M A (storeName env x v) Q E s :=
  wpAny_storeName_local hl F.ns (fun h' hn hs => h h' hs.1 (F.store hn hs)) (by rw [hk]; rfl)
theorem Wd.hides {w : World} {h h0 : Heap} {cs : List Addr} (W : Wd w h) (W0 : Wd w h0) (hC : ∀ c ∈ cs, h0.get? c = none) : Wd w (hideAll h cs) := by
  have key : ∀ a o, h.get? a = some o → (∃ o', h0.get? a = some o') → (hideAll h cs).get? a = some o := fun a o e ⟨o', e'⟩ => hideAll_get _ e fun hm => by rw [hC a hm] at e'; cases e'
  obtain ⟨p, l, mg, mb, T⟩ := W.T
  obtain ⟨_, _, mg0, mb0, T0⟩ := W0.T
  have ex : ∀ {a m}, h0.Ns a m → ∃ o', h0.get? a = some o' := fun ⟨o, _, _, e, _⟩ => ⟨o, e⟩
  refine ⟨fun a o e => key a o (W.X a o e) ⟨o, W0.X a o e⟩, p, l, mg, mb, T.g.at fun o e => key _ o e (ex T0.g), T.b.at fun o e => key _ o e (ex T0.b), ?_, T.builtins, T.free⟩
  obtain ⟨mc, hn, hx⟩ := T.nolimit
  obtain ⟨mc0, hn0, _⟩ := T0.nolimit
  exact ⟨mc, hn.at fun o e => key _ o e (ex hn0), hx⟩
section
variable {w : World} {A : Around} {s : Shared} {Q E : Value → Shared → Prop}
theorem enterGen {name qual : Str} {params : Arguments} {body : List Stmt} {scope : Scope} {dV kV doc pm cdv ct oc : Value} {an od : Option Addr} {osl : Array (Option Value)} {f : Addr} {args : List Value} {binds : List (Str × Value)}
    (W : Wd w s.heap) (ho : (K0 w.params).lookup f = some ⟨oc, od, .func (fnOf name qual params body scope dV kV doc pm an cdv ct), osl⟩) (hcd : codeIn (K0 w.params) cdv qual = true) (hroom : A.depth < recursionLimit)
    (hbind : BindsTo s (fnOf name qual params body scope dV kV doc pm an cdv ct) ⟨args, []⟩ binds) (hloc : ∀ y ∈ binds, scope.names.lookup y.1 = some .local)
    (h : ∀ (s₂ : Shared) L a gno, Sub s.heap s₂.heap → s.heap.get? L = none → s.heap.get? a = none → a ≠ L → s₂.heap.Ns L (fun x => binds.reverse.lookup x) → s₂.heap.IsGen a gno → s₂.gens[gno]? = some (.fresh (.func body (envOf qual scope L f cdv))) → Rel s s₂ → Q (.ref a) s₂)
    (hco : scope.isCoroutine = false) (hgen : scope.isGenerator = true) (hk : scope.kind = .function)
    (hcell : ∀ x ∈ scope.names, x.2 ≠ .cell) : wpAny (model PR w) A (call (.ref f) args) Q E s := by
  refine wpAny_call (codeAny_call_generator (fd := fnOf name qual params body scope dV kV doc pm an cdv ct) hroom (W.X _ _ ho) rfl hco hgen rfl (codeRec_of W.X hcd) (hbind _ _ _ _ (wpAny_newFunctionEnv hcell hloc (fun h₁ hns hsb => ?_) hk)))
  have hs₁ : Sub s.heap h₁ := fun b o e => hsb.extBut b o (Nat.ne_of_lt (Heap.lt_size e)) (Heap.get?_push_of_some _ e)
  refine ⟨W.nolimit.keeps hs₁, ?_⟩
  have hL : @LT.lt Nat _ s.heap.objs.size h₁.objs.size := hns.lt
  refine h _ s.heap.objs.size h₁.objs.size s.gens.size (hs₁.trans (Sub.push _ _)) (get_size _) (none_of_sub hs₁ (get_size _)) (fun q => by rw [q] at hL; exact Nat.lt_irrefl _ hL) (hns.push _) ⟨_, _, _, Heap.get?_push_size _ rfl, rfl, rfl, rfl⟩ ?_ ⟨fun g => g.push rfl, rfl⟩
  show (s.gens.push (.fresh (.func body (envOf qual scope s.heap.objs.size f cdv))))[s.gens.size]? = _
  simp

theorem yield_unit {g h : Heap} {C : Addr} {il : Led} {m : Str → Option Value} {own : List Addr} {U : List (Nat × List Nat)} {n : Nat} {u : Nat × List Nat} {s₀ : Shared} {kap : Resume → Shared → Prop} {k0 k1 tk : Nat} (F : Fx g C il h m) (hsub : ∀ b ∈ C :: il.map (·.1), b ∈ own)
    (hsz : ∀ b ∈ own, b ≠ h.objs.size) (hg : Ghost own s₀ g)
    (hidx : U[U.length - 1 - n]? = some u) (hk : ∀ (s'' : Shared) g'', Ghost own s'' g'' → Fx g'' C il s''.heap m → kap (.send .none) s'') :
    gproto own U n s₀ (.ref h.objs.size) { s₀ with heap := h.push { cls := .type "tuple", data := .seq [.int u.1 k0, .str ⟨u.2.toArray⟩ k1].toArray }, toks := tk } kap := by
  have hnone : s₀.heap.get? h.objs.size = none := by
    cases q : s₀.heap.get? h.objs.size with
    | none => rfl
    | some o =>
      have hz := get_size h
      rw [F.keep _ _ (hg _ _ (fun hm => hsz _ hm rfl) q)] at hz; cases hz
  refine ⟨⟨⟨u, hidx, h.objs.size, k0, k1, rfl, ⟨_, freshOf_get (Heap.get?_push_size _ rfl) hnone, rfl, 0, rfl⟩⟩, fun b hb q => hsz b hb (by injection q with q; exact q.symm)⟩, ⟨_, _, rfl, fun b o hb e => Sub.push _ _ _ _ (F.keep _ _ (hg b o hb e))⟩, fun s'' hs => ?_⟩
  exact hk s'' _ (fun b o hb e => hideAll_get _ e hb) ((F.ext (Sub.push _ _)).wake hsub hs)
theorem drop_step {α : Type} {U r : List α} {k : Nat} {u : α} (hd : U.drop (U.length - (k + 1)) = u :: r) (hk : r.length = k) : U[U.length - 1 - k]? = some u ∧ U.drop (U.length - k) = r := by
  have hl := congrArg List.length hd
  rw [List.length_drop, List.length_cons] at hl
  have e1 : U.length - 1 - k = U.length - (k + 1) := by omega
  have e2 : U.length - k = U.length - (k + 1) + 1 := by omega
  constructor
  · rw [e1]
    have := congrArg (fun l => l[0]?) hd
    simpa using this
  · rw [e2, ← List.drop_drop, hd]; rfl
theorem escS_some (b : Bool) (i : Nat) (c : Nat) (r : List Nat) : escS b i (c :: r) = if b = true then (i, [92, c]) :: escS false (i + 1) r else if c = 92 then escS true (i + 1) r else (i, [c]) :: escS false (i + 1) r := by
  cases b <;> simp [escS]
theorem iter_call_ok (W : Wd w s.heap) (hd : A.depth + 1 < recursionLimit) (x : Str) (t : Tok) (ha : x.cps.all (· < 128) = true)
    (h : ∀ a own s', Sub s.heap s'.heap → Rel s s' → s.heap.get? a = none → (∀ b ∈ own, s.heap.get? b = none) → (∀ b ∈ own, s'.heap.get? b ≠ none) → (∀ A' : Around, A'.handled = none → GenSt w A' a (unitsOf x) 0 own s') → Q (.ref a) s') :
    wpAny (model PR w) A (call (.ref 70) [.str x t]) Q E s := by
  refine' enterGen (binds := [(Str.ofString "addr", .str x t)]) W ?k6 ?k7 ?kr ?k9 ?kB ?_ ?c2 ?c3 ?c4 ?c5
  (case kr => omega)
  (case k6 => k_is)
  (case k7 => k_is)
  (case k9 => exact BindsTo.of_eq rfl)
  (case kB => exact locs rfl)
  (case c2 => exact rfl)
  (case c3 => exact rfl)
  (case c4 => exact rfl)
  (case c5 => decide)
  intro s₂ C a gno hs hC han haC hns hgen hgs hrel
  refine h a [C] s₂ hs hrel han (fun b hb => by rw [List.mem_singleton.mp hb]; exact hC) (fun b hb => by obtain ⟨_, _, _, e, _⟩ := hns; rw [List.mem_singleton.mp hb, e]; exact fun q => (nomatch q)) fun A' hh' => ⟨gno, _, hgen, hgs, by simpa using haC, ?_⟩
  intro s' W' hk
  -- the first waking: the iterator and the enumerate come at the heap's end
  refine ⟨[C, s'.heap.objs.size + 1, s'.heap.objs.size], fun b hb => ?_, rfl, ?_⟩
  · rcases List.mem_cons.mp hb with rfl | hb
    · exact .inl (.head _)
    · right
      rcases List.mem_cons.mp hb with rfl | hb
      · cases q : s'.heap.get? (s'.heap.objs.size + 1) with
        | none => rfl
        | some o => exact absurd (Heap.lt_size q) (Nat.not_lt.mpr (Nat.le_succ _))
      · rw [List.mem_singleton.mp hb]; exact get_size _
  have F : Fx (hideAll s'.heap [C]) C [] s'.heap (fun y => List.lookup y [(Str.ofString "addr", Value.str x t)].reverse) :=
    ⟨hns.at fun o e => hk C (.head _) o e, fun b o e => of_hideAll _ e, hideAll_none _ (.head _), fun _ hp => (nomatch hp), .nil⟩
  have W₀ : Wd w (hideAll s'.heap [C]) := W'.hides W (fun c hc => by rw [List.mem_singleton.mp hc]; exact hC)
  refine seg_func ?_
  refine seg_stmt (wpAny_Assign_Name (wpAny_Constant_int (stoZ F fun h₁ z₁ F => ?_)))
  refine ⟨rfl, ?_⟩
  refine seg_stmt (wpAny_Assign_Name (wpAny_Constant_bool (stoZ F fun h₂ z₂ F => ?_)))
  refine ⟨rfl, ?_⟩
  refine seg_For ?_
  refine btype F W₀ (by k_is) (by boot_fast) (by decide) (wpAny_items_cons (nm F rfl (wpAny_items_nil ?_)))
  refine call_enumerate_str fun h₃ hen hit hsz hk₃ => ?_
  have z : h₂.objs.size = s'.heap.objs.size := z₂.trans z₁
  replace hen : IsEnum h₃ (h₂.objs.size + 1) h₂.objs.size 0 .none := hen
  replace hit : h₃.IsStrIter h₂.objs.size (strIterType x) x t 0 := hit
  obtain ⟨oi, hoi, hci, hdi⟩ := hit
  have hci : oi.cls = .type "str_ascii_iterator" := by rw [hci]; unfold strIterType; rw [ha]; rfl
  have hn1 : h₂.get? (h₂.objs.size + 1) = none := by
    cases q : h₂.get? (h₂.objs.size + 1) with
    | none => rfl
    | some o => exact absurd (Heap.lt_size q) (Nat.not_lt.mpr (Nat.le_succ _))
  have F₂ := F.new2 (a := h₂.objs.size + 1) (b := h₂.objs.size) hk₃ hn1 (get_size _) (Nat.succ_ne_self _) hen hoi
  rw [z] at hen hoi F₂ ⊢
  generalize hit : s'.heap.objs.size = it at hen hoi F₂ ⊢
  generalize he0 : it + 1 = e at hen F₂ ⊢
  have hst0 : enumStrSt e it x t 0 [(e, enumObj it 0 .none), (it, oi)] := ⟨.none, oi, rfl, hci, hdi⟩
  refine wpAny_pyIter_enum hen fun k p hk => ?_
  refine seg_forS (N := x.cps.size) (St := enumStrSt e it x t) (own := [C, e, it]) (g₀ := {}) (fun g b o e => by simp [Heap.get?] at e) (B := fun i _ m m' => ∃ c u tk, x.cps[i]? = some c ∧ m' = fun y => if y = Str.ofString "ch" then some (.str ⟨#[c]⟩ u) else if y = Str.ofString "pos" then some (.int i tk) else m y) ?_
    (fun i n m => ∃ b : Bool, m (Str.ofString "escape") = some (.bool b) ∧ n = (escS b i (x.cps.toList.drop i)).length ∧ (unitsOf x).drop ((unitsOf x).length - n) = escS b i (x.cps.toList.drop i) ∧ (b = true → ∃ u, m (Str.ofString "pos") = some (.int (i - 1 : Nat) u)))
    (fun il => ∃ o, il = [(e, o)]) ?_ ?_ ?_ x.cps.size 0 (Nat.sub_zero _) (Nat.zero_le _) _ s' h₃ _ _ _ _ ⟨false, rfl, by simp, by simp, by intro q; cases q⟩ hst0 ?_ F₂
  · exact Source.enumStr hh' rfl rfl rfl
  · rintro il g s m K ⟨old, o, rfl, hc, hdt⟩ F h
    have he : IsEnum s.heap e it x.cps.size old := F.here
    have hi : s.heap.IsStrIter it "str_ascii_iterator" x t x.cps.size := ⟨o, F.get (.tail _ (.head _)), hc, hdt⟩
    exact wpAny_pyNext_enum_endD (Draws.strAscii (A := Around.in1 _) (by exact hh') it x t) he hi fun h' hx => h h' s.toks _ ⟨_, rfl⟩ ((F.perm (List.Perm.swap _ _ _)).out hx)
  · rintro n s₀ h tk m g il ⟨b, hb, hn, hd, hp⟩ ⟨oe, rfl⟩ hg F
    have hsz : ∀ b ∈ [C, e, it], b ≠ h.objs.size := by
      have h1 : @LT.lt Nat _ C h.objs.size := F.ns.lt
      have h2 : @LT.lt Nat _ e h.objs.size := Heap.lt_size F.here
      intro b hb
      simp only [List.mem_cons, List.not_mem_nil, or_false] at hb
      rcases hb with rfl | rfl | rfl
      · exact Nat.ne_of_lt h1
      · exact Nat.ne_of_lt h2
      · refine Nat.ne_of_lt (Nat.lt_trans ?_ h2)
        rw [← he0]; exact Nat.lt_succ_self _
    refine seg_again rfl (hk (s₀' := s₀) (seg_If (wpAny_isTrue_value (nm F hb (wpAny_truthy_bool ?_)))))
    have hxs : x.cps.toList.drop x.cps.size = [] := by simp
    rw [hxs] at hn hd
    cases b with
    | true =>
      obtain ⟨u, hu⟩ := hp rfl
      refine ite_pos rfl ?_
      replace hn : n = 0 + 1 := hn
      subst hn
      refine seg_execs_cons (seg_Expr_Yield rfl rfl rfl (wpAny_Tuple (wpAny_items_cons (nm F hu (wpAny_items_cons (wpAny_Constant_str (wpAny_items_nil ⟨by show (2 : Nat) ≤ sizeLine; rw [sizeLine_eq]; omega, ?_⟩)))))))
      intro kap hkap
      refine yield_unit (u := (x.cps.size - 1, [92])) (n := 0) F (show ∀ b ∈ C :: ([(e, oe)] : Led).map (·.1), b ∈ [C, e, it] by simp) hsz hg ?_ fun s'' g'' hg'' F'' => hkap .none s'' ?_
      · have e1 := congrArg (fun l => l[0]?) hd
        simp only [List.getElem?_drop] at e1
        exact e1
      · exact seg_end (.ok (.ret .none)) ⟨rfl, rfl, s''.heap, s''.toks, rfl, fun b o hb e => e⟩
    | false =>
      refine ite_neg Bool.false_ne_true ?_
      replace hn : n = 0 := hn
      subst hn
      exact seg_end (.ok (.ret .none)) ⟨rfl, rfl, h, tk, rfl, fun b o hb e => F.keep _ _ (hg b o hb e)⟩
  · rintro i hlt n s₀ h tk m₁ m₂ g il ⟨b, hb, hn, hd, hp⟩ ⟨c, u, tkk, hc, rfl⟩ ⟨old, oo, rfl, hco, hdo⟩ hg F IH
    have hxs : x.cps.toList.drop i = c :: x.cps.toList.drop (i + 1) := by
      rw [← Array.getElem?_toList] at hc
      obtain ⟨h1, h2⟩ := List.getElem?_eq_some_iff.mp hc
      rw [List.drop_eq_getElem_cons h1, h2]
    rw [hxs] at hn hd
    have hsz : ∀ b ∈ [C, e, it], ∀ (h : Heap) (o1 o2 : Obj) g m, Fx g C [(e, o1), (it, o2)] h m → b ≠ h.objs.size := by
      intro b hb h o1 o2 g m F
      have h1 : @LT.lt Nat _ C h.objs.size := F.ns.lt
      have h2 : @LT.lt Nat _ e h.objs.size := Heap.lt_size F.here
      have h3 : @LT.lt Nat _ it h.objs.size := Heap.lt_size F.tail.here
      simp only [List.mem_cons, List.not_mem_nil, or_false] at hb
      rcases hb with rfl | rfl | rfl
      · exact Nat.ne_of_lt h1
      · exact Nat.ne_of_lt h2
      · exact Nat.ne_of_lt h3
    refine seg_If (wpAny_isTrue_value (nm (s := { s₀ with heap := h, toks := tk }) F hb (wpAny_truthy_bool ?_)))
    cases b with
    | true =>
      refine ite_pos rfl ?_
      replace hn : n = (escS false (i + 1) (x.cps.toList.drop (i + 1))).length + 1 := hn
      subst hn
      obtain ⟨hd1, hd2⟩ := drop_step hd rfl
      refine seg_execs_cons (seg_Expr_Yield rfl rfl rfl (wpAny_Tuple (wpAny_items_cons (nm (s := { s₀ with heap := h, toks := tk }) F rfl (wpAny_items_cons (wpAny_BinOp (wpAny_Constant_str (nm F rfl (add_str ?_)))))))))
      intro t' tk'
      refine wpAny_items_nil ⟨by show (2 : Nat) ≤ sizeLine; rw [sizeLine_eq]; omega, ?_⟩
      intro kap hkap
      refine yield_unit (u := (i, [92, c])) F (show ∀ b ∈ C :: ([(e, enumObj it ((i + 1 : Nat) : Int) old), (it, oo)] : Led).map (·.1), b ∈ [C, e, it] by simp) (fun b hb => hsz b hb _ _ _ _ _ F) hg hd1 fun s'' g'' hg'' F'' => hkap .none s'' ?_
      refine seg_stmt (wpAny_Assign_Name (wpAny_Constant_bool (sto (s := s'') F'' fun h₄ F₄ => ?_)))
      refine ⟨rfl, ?_⟩
      exact seg_again rfl (IH _ s'' h₄ _ _ g'' _ ⟨false, rfl, rfl, hd2, fun q => by cases q⟩ ⟨_, _, rfl, hco, hdo⟩ hg'' F₄)
    | false =>
      refine ite_neg Bool.false_ne_true ?_
      refine seg_If (wpAny_isTrue_Compare1 (nm (s := { s₀ with heap := h, toks := tk }) F rfl (wpAny_Constant_str (PyProof.Rows.eq_str (wpAny_truthy_bool ?_)))))
      by_cases hc92 : c = 92
      · subst hc92
        refine ite_pos (by decide) ?_
        refine seg_stmt (wpAny_Assign_Name (wpAny_Constant_bool (sto (s := { s₀ with heap := h, toks := _ }) F fun h₄ F₄ => ?_)))
        refine ⟨rfl, ?_⟩
        exact seg_again rfl (IH _ s₀ h₄ _ _ g _ ⟨true, rfl, hn, hd, fun _ => ⟨tkk, rfl⟩⟩ ⟨_, _, rfl, hco, hdo⟩ hg F₄)
      · have hne : ((⟨#[c]⟩ : Str) == Str.ofString "\\") = false := by
          refine beq_eq_false_iff_ne.mpr fun q => hc92 ?_
          have := congrArg (fun s : Str => s.cps[0]?) q
          exact Option.some.inj this
        refine ite_neg (by rw [hne]; exact Bool.false_ne_true) ?_
        have e2 : escS false i (c :: x.cps.toList.drop (i + 1)) = (i, [c]) :: escS false (i + 1) (x.cps.toList.drop (i + 1)) := by
          show (if c = 92 then _ else _) = _
          rw [if_neg hc92]
        rw [e2] at hn hd
        replace hn : n = (escS false (i + 1) (x.cps.toList.drop (i + 1))).length + 1 := hn
        subst hn
        obtain ⟨hd1, hd2⟩ := drop_step hd rfl
        refine seg_execs_cons (seg_Expr_Yield rfl rfl rfl (wpAny_Tuple (wpAny_items_cons (nm (s := { s₀ with heap := h, toks := _ }) F rfl (wpAny_items_cons (nm F rfl (wpAny_items_nil ⟨by show (2 : Nat) ≤ sizeLine; rw [sizeLine_eq]; omega, ?_⟩)))))))
        intro kap hkap
        refine yield_unit (u := (i, [c])) F (show ∀ b ∈ C :: ([(e, enumObj it ((i + 1 : Nat) : Int) old), (it, oo)] : Led).map (·.1), b ∈ [C, e, it] by simp) (fun b hb => hsz b hb _ _ _ _ _ F) hg hd1 fun s'' g'' hg'' F'' => hkap .none s'' ?_
        refine seg_again rfl (IH _ s'' s''.heap s''.toks _ g'' _ ?_ ⟨_, _, rfl, hco, hdo⟩ hg'' F'')
        exact ⟨false, hb, rfl, hd2, fun q => by cases q⟩
  · exact fun b o hb e => hideAll_get _ e fun hm => hb (by rw [List.mem_singleton.mp hm]; exact .head _)
end
end Mine
end

section
open PySem PySem.W PySem.Calls PyProof.Rows
set_option maxRecDepth 100000
set_option maxHeartbeats 400000
namespace Mine
section
variable {w : World} {A : Around} {s : Shared} {E : Value → Shared → Prop}
theorem next_gen {a : Addr} {g n : Nat} {gs : GenState} {P : Nat → Shared → Shared → Prop} {Y : Protocol} {Q : Option Value → Shared → Prop} (hh : A.handled = none)
    (hl : s.heap.NoLimit) (hroom : A.depth < recursionLimit) (hg : s.heap.IsGen a g) (hgs : s.gens[g]? = some gs)
    (hgo : gs.Goes (model PR w) A.in1 (fun n s₀ r s₁ => r = .ok (.ret .none) ∧ P n s₀ s₁) Y n (.send .none) (s.setGen g .running))
    (hY : ∀ v s₁ gs', gs'.bare = true → Y (n - 1) (s.setGen g .running) v s₁ (fun r' s'' => match n with
        | 0 => False
        | m + 1 => gs'.Goes (model PR w) A.in1 (fun n s₀ r s₁ => r = .ok (.ret .none) ∧ P n s₀ s₁) Y m r' s'') → Q (some v) (s₁.setGen g gs'))
    (hP : ∀ s₁, P n (s.setGen g .running) s₁ → ∀ h', Sub s₁.heap h' → Q none { s₁.setGen g .finished with heap := h' }) :
    wpAny (model PR w) A (pyNext (.ref a)) Q E s := by
  unfold pyNext
  refine wpAny_bind (wpAny_attempt (wpAny_callSpecial?_slot (name := Str.ofString "__next__") hg.typeIs slot_gen_next
    (wpAny_call_entry slot_gen_next hg.typeIs entry_gen_next ?_ (args_gen_next _))))
  show wpAny _ _ (Builtin.Generator.genWake (.ref a) (.send .none)) _ _ s
  unfold Builtin.Generator.genWake
  refine wpAny_bind (wpAny_holding (wpAny_genNumber hg (wpAny_bind (wpAny_genState hgs ?_))))
  have run : gs ≠ .running := fun q => by rw [q] at hgo; exact hgo
  have fin : gs ≠ .finished := fun q => by rw [q] at hgo; exact hgo
  cases gs with
  | running => exact absurd rfl run
  | finished => exact absurd rfl fin
  | _ =>
    refine wpAny_bind (wpAny_roomToWake hl hroom ?_)
    show wpAny _ A.in1 (.resume g (.send .none) [] _) _ _ s
    refine wpAny_resumeQ hgs hgo (fun x s₁ hx => ?_) (fun v s₁ gs' hb hv => wpAny_pure ⟨v, rfl, wpAny_pure (hY v s₁ gs' hb hv)⟩)
    obtain ⟨rfl, hp⟩ := hx
    show wpAny _ A.in1 (newExc (.type "StopIteration") [] >>= _) _ _ _
    refine wpAny_bind ?_
    simp only [newExc, newTuple]
    refine wpAny_bind (wpAny_newObj_type ?_ (by size_fits))
    refine wpAny_bind (m := firstArgMember _ _) (wpAny_of_eq (a := Value.none) (by simp only [firstArgMember]; rfl) ?_)
    refine wpAny_newObj_type ?_ (by size_fits)
    simp only [raiseNew]
    refine wpAny_bind (wpAny_bind (wpAny_handled ?_))
    rw [show A.in1.handled = none from hh]
    refine wpAny_throw (wpAny_bind (wpAny_isInstance (T := "StopIteration") (b := true) ⟨_, Heap.get?_push_size _ rfl, rfl⟩ isSubtype_stop ?_))
    exact wpAny_pure (hP s₁ hp _ fun b o hb => Heap.get?_push_of_some _ (Heap.get?_push_of_some _ hb))

theorem setGen_bare {s : Shared} {g : Nat} {x : GenState} (h : AllBare s.gens) (hx : x.bare = true) : AllBare (s.setGen g x).gens := by
  intro y hy
  have hy' : y ∈ s.gens.setIfInBounds g x := hy
  obtain ⟨i, hi, e⟩ := Array.mem_iff_getElem.mp hy'
  have hi' : i < s.gens.size := by simpa using hi
  rw [Array.getElem_setIfInBounds hi'] at e
  split at e
  · rw [← e]; exact hx
  · rw [← e]; exact h _ (Array.getElem_mem hi')

/-- the next unit of a generator of units -/
theorem gen_item {a : Addr} {U : List (Nat × List Nat)} {j : Nat} {own : List Addr} {K : Option Value → Shared → Prop} (G : GenSt w A.in1 a U j own s) (hj : j < U.length) (W : Wd w s.heap) (hh : A.handled = none) (hroom : A.depth < recursionLimit)
    (h : ∀ (s' : Shared) (own' : List Addr) v u, U[j]? = some u → UnitAt (freshOf s.heap s'.heap) v u → (∀ b ∈ own', v ≠ .ref b) → (∀ b ∈ own', b ∈ own ∨ s.heap.get? b = none) → (∀ b o, b ∉ own' → s.heap.get? b = some o → s'.heap.get? b = some o) → Rel s s' → GenSt w A.in1 a U (j + 1) own' s' → K (some v) s') :
    wpAny (model PR w) A (pyNext (.ref a)) K E s := by
  obtain ⟨gno, gs, hg, hgs, hao, hgo⟩ := G
  obtain ⟨own', hown, hgo⟩ := hgo (s.setGen gno .running) W (fun _ _ _ e => e)
  obtain ⟨n, hn⟩ : ∃ n, U.length - j = n + 1 := ⟨U.length - j - 1, by omega⟩
  rw [hn] at hgo
  have hao' : a ∉ own' := fun hm => by
    rcases hown a hm with q | q
    · exact hao q
    · obtain ⟨o, _, _, e, _⟩ := hg
      rw [show s.heap.get? a = none from q] at e; cases e
  refine next_gen hh W.nolimit hroom hg hgs hgo (fun v s₁ gs' hb hv => ?_) fun s₁ hp => absurd hp.1 (Nat.succ_ne_zero n)
  obtain ⟨⟨⟨u, hu, hU⟩, hvo⟩, ⟨h₁, tk₁, rfl, hk⟩, hkap⟩ := hv
  have hidx : U.length - 1 - (n + 1 - 1) = j := by omega
  rw [hidx] at hu
  refine h _ own' v u hu hU hvo hown hk ⟨fun x => setGen_bare (setGen_bare x rfl) hb, rfl⟩ ⟨gno, gs', ?_, ?_, hao', fun s'' W'' hk'' => ⟨own', fun b hb => .inl hb, ?_⟩⟩
  · obtain ⟨o, nm, qn, e, r⟩ := hg
    exact ⟨o, nm, qn, hk a o hao' e, r⟩
  · exact setGen_self (gs := .running) (setGen_self hgs)
  · have e : U.length - (j + 1) = n := by omega
    rw [e]
    exact hkap s'' hk''
/-- its end -/
theorem gen_done {a : Addr} {U : List (Nat × List Nat)} {own : List Addr} {K : Option Value → Shared → Prop} (G : GenSt w A.in1 a U U.length own s) (W : Wd w s.heap) (hh : A.handled = none) (hroom : A.depth < recursionLimit)
    (h : ∀ (s' : Shared) (own' : List Addr), (∀ b ∈ own', b ∈ own ∨ s.heap.get? b = none) → (∀ b o, b ∉ own' → s.heap.get? b = some o → s'.heap.get? b = some o) → Rel s s' → K none s') :
    wpAny (model PR w) A (pyNext (.ref a)) K E s := by
  obtain ⟨gno, gs, hg, hgs, hao, hgo⟩ := G
  obtain ⟨own', hown, hgo⟩ := hgo (s.setGen gno .running) W (fun _ _ _ e => e)
  rw [Nat.sub_self] at hgo
  refine next_gen (P := fun n s₀ s₁ => n = 0 ∧ SinceO own' s₀ s₁) hh W.nolimit hroom hg hgs hgo (fun v s₁ gs' hb hv => ?_) fun s₁ hp h' hk => ?_
  · exact (hv.2.2 s₁ fun _ _ _ e => e).elim
  · obtain ⟨_, h₁, tk₁, rfl, hk₁⟩ := hp
    exact h _ own' hown (fun b o hb e => hk b o (hk₁ b o hb e)) ⟨fun x => setGen_bare (setGen_bare x rfl) rfl, rfl⟩
end
end Mine
end

section
open PySem PySem.W PySem.Calls PyProof.Rows
set_option maxRecDepth 100000
set_option maxHeartbeats 400000
namespace Mine
theorem GenSt.keeps {w : World} {A : Around} {a : Addr} {U : List (Nat × List Nat)} {j : Nat} {own : List Addr} {s s' : Shared} (G : GenSt w A a U j own s) (hg : s'.gens = s.gens)
    (ha : ∀ o, s.heap.get? a = some o → s'.heap.get? a = some o) (ho : ∀ b ∈ own, ∀ o, s.heap.get? b = some o → s'.heap.get? b = some o) : GenSt w A a U j own s' := by
  obtain ⟨gno, gs, ⟨o, nm, qn, e, r⟩, hgs, hao, hgo⟩ := G
  exact ⟨gno, gs, ⟨o, nm, qn, ha o e, r⟩, hg ▸ hgs, hao, fun s'' W hk => hgo s'' W fun b hb o e => hk b hb o (ho b hb o e)⟩
theorem GenSt.isGen {w : World} {A : Around} {a : Addr} {U : List (Nat × List Nat)} {j : Nat} {own : List Addr} {s : Shared} (G : GenSt w A a U j own s) : ∃ gno, s.heap.IsGen a gno := let ⟨gno, _, h, _⟩ := G; ⟨gno, h⟩
theorem GenSt.notOwn {w : World} {A : Around} {a : Addr} {U : List (Nat × List Nat)} {j : Nat} {own : List Addr} {s : Shared} (G : GenSt w A a U j own s) : a ∉ own := let ⟨_, _, _, _, h, _⟩ := G; h
section
variable {w : World} {A : Around} {env : Env} {g : Heap} {E : Value → Shared → Prop} {s : Shared} {led : Led} {m : Str → Option Value}
theorem letGo_gen {elts : List Expr} {x1} {pos : Pos} {I : Addr} {gno : Nat} {v : Value} {Q : Unit → Shared → Prop} (hit : s.heap.IsGen I gno) (hQ : Q () s) (hv : ∃ T, v = .ref T) :
    wpAny (model PR w) A (letOwnedTupleGo (.Tuple elts x1 pos) (.ref I) v) Q E s := by
  obtain ⟨o, nm, qn, ho, hc, hd, _⟩ := hit
  obtain ⟨T, rfl⟩ := hv
  unfold letOwnedTupleGo
  refine wpAny_bind (wpAny_load ho ?_)
  rw [hc, hd]
  show wpAny _ A (if (["enumerate", "zip", "dict_itemiterator", "dict_reverseitemiterator", "odict_iterator", "itertools.zip_longest", "itertools.pairwise"].contains "generator" && _) = true then _ else _) Q E s
  rw [if_neg (by
    intro h
    rw [show (["enumerate", "zip", "dict_itemiterator", "dict_reverseitemiterator", "odict_iterator", "itertools.zip_longest", "itertools.pairwise"].contains "generator") = false from by decide, Bool.false_and] at h
    cases h)]
  exact wpAny_pure hQ
theorem Fx.over {h h' : Heap} {L : Addr} {own : List Addr} (F : Fx g L led h m) (hd : ∀ b ∈ own, g.get? b = none ∧ b ≠ L ∧ b ∉ led.map (·.1)) (hk : ∀ b o, b ∉ own → h.get? b = some o → h'.get? b = some o) : Fx g L led h' m := by
  refine ⟨F.ns.at fun o e => hk _ o (fun hm => (hd _ hm).2.1 rfl) e, fun b o e => hk b o (fun hm => by rw [(hd b hm).1] at e; cases e) (F.keep b o e), F.off, fun p hp => ⟨hk _ _ (fun hm => (hd _ hm).2.2 (List.mem_map_of_mem hp)) (F.at_ p hp).1, (F.at_ p hp).2⟩, F.nd⟩
theorem Fx.isSome {h : Heap} {L a : Addr} (F : Fx g L led h m) (ha : a ∈ led.map (·.1)) : h.get? a ≠ none := by
  obtain ⟨p, hp, rfl⟩ := List.mem_map.mp ha
  rw [(F.at_ p hp).1]; exact fun q => by cases q
theorem Fx.isSomeL {h : Heap} {L : Addr} (F : Fx g L led h m) : h.get? L ≠ none := by
  obtain ⟨o, _, _, e, _⟩ := F.ns
  rw [e]; exact fun q => by cases q

/-- a loop over a generator of units -/
theorem forG {a : Addr} {Us : List (Nat × List Nat)} {own : List Addr} {xk xv : Str} {pk pv pt pos : Pos} {x1} {Q : Flow → Shared → Prop} {body : List Stmt}
    (hh : A.handled = none) (W : Wd w g) (hroom : A.depth < recursionLimit)
    (I : Nat → (Str → Option Value) → Led → Prop)
    (step : ∀ i u m₁ led₁ G (s₁ : Shared) k0 k1, Us[i]? = some u → Sub g G → I i m₁ led₁ → Fx G env.locals led₁ s₁.heap (fun y => if y = xv then some (.str ⟨u.2.toArray⟩ k1) else if y = xk then some (.int u.1 k0) else m₁ y) → Rel s s₁ →
      wpAny (model PR w) A (execs body env) (fun f s₂ => match f with
        | .next | .cont => s₂.gens = s₁.gens ∧ s₂.os = s₁.os ∧ ∃ m₃ led₃, led₃.map (·.1) = led₁.map (·.1) ∧ Fx G env.locals led₃ s₂.heap m₃ ∧ I (i + 1) m₃ led₃
        | .brk => False
        | .ret v => Q (.ret v) s₂) (fun _ _ => False) s₁)
    (done : ∀ (s' : Shared) m' led', I Us.length m' led' → Fx g env.locals led' s'.heap m' → Rel s s' → Q .next s')
    (hg : GenSt w A.in1 a Us 0 own s) (F : Fx g env.locals led s.heap m) (hd : ∀ b ∈ own, g.get? b = none ∧ b ≠ env.locals ∧ b ∉ led.map (·.1)) (ha : a ≠ env.locals ∧ a ∉ led.map (·.1)) (h0 : I 0 m led)
    (hk : env.scope.kind = .function := by rfl) (hxk : env.kindOf xk = some .local := by rfl) (hxv : env.kindOf xv = some .local := by rfl) :
    codeAny (model PR w) A (.forLoop (.Tuple [.Name xk pk, .Name xv pv] x1 pt) (.ref a) body [] env) (fun r s' => match r with | .ok f => Q f s' | .error _ => False) s := by
  refine codeAny_forLoop_any (fun k s' => ∃ i led' m' own', k = Us.length + 1 - i ∧ i ≤ Us.length ∧ I i m' led' ∧ GenSt w A.in1 a Us i own' s' ∧ Fx g env.locals led' s'.heap m' ∧ (∀ b ∈ own', g.get? b = none ∧ b ≠ env.locals ∧ b ∉ led'.map (·.1)) ∧ (a ≠ env.locals ∧ a ∉ led'.map (·.1)) ∧ Rel s s') ?_ (Us.length + 1)
    ⟨0, led, m, own, rfl, Nat.zero_le _, h0, hg, F, hd, ha, Rel.refl s⟩
  rintro k s' ⟨i, led', m', own', rfl, hi, hI, hG, F, hd, ha, hr⟩
  rcases Nat.lt_or_ge i Us.length with hlt | hge
  · refine gen_item hG hlt (W.keeps F.toSub) hh hroom fun s₁ own₁ v u hu hU hvo hown hkp hr₁ hG₁ => ?_
    have hd₁ : ∀ b ∈ own₁, g.get? b = none ∧ b ≠ env.locals ∧ b ∉ led'.map (·.1) := by
      intro b hb
      rcases hown b hb with q | q
      · exact hd b q
      · refine ⟨none_of_sub F.toSub q, fun e => F.isSomeL (e ▸ q), fun hm => F.isSome hm q⟩
    have F₁ := F.over hd₁ hkp
    obtain ⟨t, k0, k1, rfl, ht⟩ := hU
    have ht₁ : s₁.heap.IsTuple t #[.int u.1 k0, .str ⟨u.2.toArray⟩ k1] := IsTuple.sub ht fun b o e => (freshOf_of e).1
    obtain ⟨gno, hgn⟩ := hG₁.isGen
    refine letGo_gen hgn ?_ ⟨t, rfl⟩
    refine wpAny_assign_Tuple hh ht₁ rfl rfl fun h₂ hx₂ => ?_
    have F₂ := F₁.ext (sub_of_size hx₂)
    have hG₂ : GenSt w A.in1 a Us (i + 1) own₁ { s₁ with heap := h₂ } := hG₁.keeps rfl (fun o e => sub_of_size hx₂ _ _ e) (fun b _ o e => sub_of_size hx₂ _ _ e)
    obtain ⟨G, FG, hgG, hGG⟩ := F₂.anew (List.Sublist.refl _)
    show wpAny _ _ (do holding [.str ⟨u.2.toArray⟩ k1] (assign (.Name xk pk) env (.int u.1 k0)); do holding [] (assign (.Name xv pv) env (.str ⟨u.2.toArray⟩ k1)); pure ()) _ _ _
    refine wpAny_bind (wpAny_holding (storeT (s := { s₁ with heap := h₂ }) FG hk hxk fun h₄ tk₄ F₄ => ?_))
    refine wpAny_bind (wpAny_holding (storeT (s := { s₁ with heap := h₄, toks := tk₄ }) F₄ hk hxv fun h₅ tk₅ F₅ => wpAny_pure ?_))
    have hr₂ : Rel s { s₁ with heap := h₅, toks := tk₅ } := ⟨fun x => hr₁.gens (hr.gens x), hr₁.os.trans hr.os⟩
    refine wpAny_mono (step i u m' led' G { s₁ with heap := h₅, toks := tk₅ } k0 k1 hu hgG hI F₅ hr₂) (fun f s₂ h₂' => ?_) fun _ _ x => x.elim
    have fin : (s₂.gens = s₁.gens ∧ s₂.os = s₁.os ∧ ∃ m₃ led₃, led₃.map (·.1) = led'.map (·.1) ∧ Fx G env.locals led₃ s₂.heap m₃ ∧ I (i + 1) m₃ led₃) →
        ∃ k' < Us.length + 1 - i, ∃ i led' m' own', k' = Us.length + 1 - i ∧ i ≤ Us.length ∧ I i m' led' ∧ GenSt w A.in1 a Us i own' s₂ ∧ Fx g env.locals led' s₂.heap m' ∧ (∀ b ∈ own', g.get? b = none ∧ b ≠ env.locals ∧ b ∉ led'.map (·.1)) ∧ (a ≠ env.locals ∧ a ∉ led'.map (·.1)) ∧ Rel s s₂ := by
      rintro ⟨e1, e2, m₃, led₃, e3, F₃, hI₃⟩
      have kp : ∀ b, b ≠ env.locals → b ∉ led'.map (·.1) → ∀ o, h₂.get? b = some o → s₂.heap.get? b = some o := fun b h1 h2 o e => F₃.keep b o (hGG b o e h1 fun p hp q => h2 (List.mem_map.mpr ⟨p, hp, q⟩))
      refine ⟨Us.length + 1 - (i + 1), by omega, i + 1, led₃, m₃, own₁, rfl, hlt, hI₃, ?_, ⟨F₃.ns, fun b o e => F₃.keep b o (hgG b o e), F.off, fun p hp => ?_, F₃.nd⟩, by rw [e3]; exact hd₁, by rw [e3]; exact ha, ⟨fun x => by rw [e1]; exact hr₂.gens x, e2.trans hr₂.os⟩⟩
      · exact hG₂.keeps e1 (fun o e => kp a ha.1 ha.2 o e) fun b hb o e => kp b (hd₁ b hb).2.1 (hd₁ b hb).2.2 o e
      · have P := F₃.at_ p hp
        exact ⟨P.1, P.2.1, none_of_sub hgG P.2.2⟩
    cases f with
    | next => exact fin h₂'
    | cont => exact fin h₂'
    | brk => exact h₂'.elim
    | ret v => exact h₂'
  · have hin : i = Us.length := Nat.le_antisymm hi hge
    subst hin
    refine gen_done hG (W.keeps F.toSub) hh hroom fun s₁ own₁ hown hkp hr₁ => wpAny_execs_nil (done s₁ m' led' hI (F.over (own := own₁) (fun b hb => ?_) hkp) (hr.trans hr₁))
    rcases hown b hb with q | q
    · exact hd b q
    · exact ⟨none_of_sub F.toSub q, fun e => F.isSomeL (e ▸ q), fun hm => F.isSome hm q⟩
end
end Mine
end

section
open PySem PySem.W PySem.Calls PyProof.Rows
set_option maxRecDepth 100000
set_option maxHeartbeats 400000
namespace Mine
theorem UnitAt.all {h h' : Heap} (hs : Sub h h') : ∀ {vs : List Value} {us : List (Nat × List Nat)}, All2 (UnitAt h) vs us → All2 (UnitAt h') vs us :=
  fun x => x.mono fun _ _ y => y.sub hs
/-- the state of a list that is filled from a generator of units -/
structure LG (w : World) (A : Around) (a : Addr) (U : List (Nat × List Nat)) (h0 : Heap) (S : Addr) (i : Nat) (acc : Array Value) (s : Shared) : Prop where
  ex : ∃ own g, GenSt w A a U i own s ∧ Wd w g ∧ Sub g s.heap ∧ (∀ b ∈ own, g.get? b = none) ∧ g.get? S = none ∧ S ∉ own ∧ Sub h0 g ∧ All2 (UnitAt (freshOf h0 g)) acc.toList (U.take i)
  ne : S ≠ a
  lst : ∃ c, s.heap.get? S = some { cls := .type "list", dict := none, data := .seq acc c, slots := #[] }
section
variable {w : World} {A : Around} {h0 : Heap} {a S : Addr} {U : List (Nat × List Nat)} {i : Nat} {acc : Array Value} {s s' : Shared}
/-- a turn of the list itself -/
theorem LG.turn {acc' : Array Value} {c' : Nat} (G : LG w A a U h0 S i acc s) (hg : s'.gens = s.gens) (hk : ∀ b o, b ≠ S → s.heap.get? b = some o → s'.heap.get? b = some o) (hS : s'.heap.get? S = some { cls := .type "list", dict := none, data := .seq acc' c', slots := #[] })
    (hacc : ∀ own g, GenSt w A a U i own s → Sub g s.heap → All2 (UnitAt (freshOf h0 g)) acc.toList (U.take i) → All2 (UnitAt (freshOf h0 g)) acc'.toList (U.take i)) : LG w A a U h0 S i acc' s' := by
  obtain ⟨own, g, hG, W, hsub, hown, hgS, hSo, hk0, hU⟩ := G.ex
  refine ⟨⟨own, g, hG.keeps hg (fun o e => hk a o (Ne.symm G.ne) e) (fun b hb o e => hk b o (fun q => hSo (q ▸ hb)) e), W, fun b o e => hk b o (fun q => by rw [q, hgS] at e; cases e) (hsub b o e), hown, hgS, hSo, hk0, hacc own g hG hsub hU⟩, G.ne, c', hS⟩
theorem extend_loop_gen {R : Result → Shared → Prop} (hh : A.handled = none) (hroom : A.depth < recursionLimit) (hn : U.length ≤ sizeLine) (res : Value)
    (hR : ∀ s' acc c, All2 (UnitAt (freshOf h0 s'.heap)) acc.toList U → Sub h0 s'.heap → s'.heap.get? S = some { cls := .type "list", dict := none, data := .seq acc c, slots := #[] } → Rel s s' → R (.ok (.ret res)) s') :
    ∀ (k i : Nat) (s' : Shared) (acc : Array Value), U.length - i = k → i ≤ U.length → LG w A.in1.in1 a U h0 S i acc s' → Rel s s' →
    codeAny (model PR w) A (.builtin "list.extend.loop" ⟨[.ref S, .ref a, res], []⟩) R s' := by
  intro k
  induction k with
  | zero =>
    intro i s₁ acc hk hi G hr
    have hin : i = U.length := by omega
    subst hin
    obtain ⟨own, g, hG, W, hsub, hown, hgS, hSo, hk0, hU⟩ := G.ex
    obtain ⟨c, hS⟩ := G.lst
    refine codeAny_builtin F.entry_extend_loop ?_
    rw [Around.under_plainId F.plain_extend_loop _]
    show wpAny _ A.in1 (pyNext (.ref a) >>= _) _ _ s₁
    refine wpAny_bind (gen_done hG (W.keeps hsub) hh hroom fun s₂ own₂ hown₂ hkp hr₂ => wpAny_pure ?_)
    have hg₂ : Sub g s₂.heap := fun b o e => hkp b o (fun hm => by
      rcases hown₂ b hm with q | q
      · rw [hown b q] at e; cases e
      · rw [hsub b o e] at q; cases q) (hsub b o e)
    refine hR s₂ acc c ?_ (hk0.trans hg₂) (hkp S _ (fun hm => ?_) hS) (hr.trans hr₂)
    · rw [List.take_of_length_le (Nat.le_refl _)] at hU
      exact UnitAt.all (freshOf_push hg₂) hU
    · rcases hown₂ S hm with q | q
      · exact hSo q
      · rw [hS] at q; cases q
  | succ k ih =>
    intro i s₁ acc hk hi G hr
    have hlt : i < U.length := by omega
    obtain ⟨own, g, hG, W, hsub, hown, hgS, hSo, hk0, hU⟩ := G.ex
    obtain ⟨c, hS⟩ := G.lst
    refine codeAny_builtin F.entry_extend_loop ?_
    rw [Around.under_plainId F.plain_extend_loop _]
    show wpAny _ A.in1 (pyNext (.ref a) >>= _) _ _ s₁
    refine wpAny_bind (gen_item hG hlt (W.keeps hsub) hh hroom fun s₂ own₂ v u hu hUv hvo hown₂ hkp hr₂ hG₂ => ?_)
    have hS2 : S ∉ own₂ := fun hm => by
      rcases hown₂ S hm with q | q
      · exact hSo q
      · rw [hS] at q; cases q
    have hg₂ : ∀ b o, g.get? b = some o → b ∉ own₂ := fun b o e hm => by
      rcases hown₂ b hm with q | q
      · rw [hown b q] at e; cases e
      · rw [hsub b o e] at q; cases q
    have hS' := hkp S _ hS2 hS
    have hacc : acc.size = i := by
      have := hU.length
      rw [List.length_take, Array.length_toList] at this
      omega
    have hgg : Sub g (hideAll s₂.heap (S :: own₂)) := fun b o e => hideAll_get _ (hkp b o (hg₂ b o e) (hsub b o e)) fun hm => by
      rcases List.mem_cons.mp hm with q | q
      · rw [q, hgS] at e; cases e
      · exact hg₂ b o e q
    have hUv' : UnitAt (freshOf h0 (hideAll s₂.heap (S :: own₂))) v u := by
      obtain ⟨t, k0, k1, rfl, ot, e1, e2⟩ := hUv
      obtain ⟨e3, e4⟩ := freshOf_of e1
      refine ⟨t, k0, k1, rfl, ot, freshOf_get (hideAll_get _ e3 fun hm => ?_) ?_, e2⟩
      · rcases List.mem_cons.mp hm with q | q
        · rw [q, hS] at e4; cases e4
        · exact hvo t q rfl
      · cases q : h0.get? t with
        | none => rfl
        | some o => rw [hsub _ _ (hk0 _ _ q)] at e4; cases e4
    show wpAny _ A.in1 (updateSeq S (·.push v) >>= _) _ _ _
    refine wpAny_bind ?_
    refine wpAny_updateSeq hS' rfl (wpAny_pure ⟨plainId_quiet F.plain_extend_loop _, ih (i + 1) _ (acc.push v) (by omega) hlt ?_ ((hr.trans hr₂).trans Rel.same)⟩)
      (by rw [hacc]; omega) (by show (acc.push v).size ≤ sizeLine + 1; rw [Array.size_push, hacc]; omega)
    have oth : ∀ b o, b ≠ S → s₂.heap.get? b = some o → (s₂.heap.update S (Obj.mapSeq (·.push v))).get? b = some o := fun b o hb e => (Heap.get?_update_other _ _ (Ne.symm hb)).trans e
    refine ⟨⟨own₂, hideAll s₂.heap (S :: own₂), hG₂.keeps rfl (fun o e => oth a o (Ne.symm G.ne) e) (fun b hb o e => oth b o (fun q => hS2 (q ▸ hb)) e), W.keeps hgg, fun b o e => ?_, fun b hb => hideAll_none _ (.tail _ hb), hideAll_none _ (.head _), hS2, hk0.trans hgg, ?_⟩, G.ne, _, Heap.get?_update_self _ hS' rfl⟩
    · refine oth b o (fun q => ?_) (of_hideAll _ e)
      rw [q, hideAll_none _ (.head _)] at e; cases e
    · rw [Array.toList_push, List.take_add_one, hu]
      exact (UnitAt.all (freshOf_push hgg) hU).append (.cons hUv' .nil)
end
section
variable {w : World} {A : Around} {h0 : Heap} {a : Addr} {own : List Addr} {U : List (Nat × List Nat)} {s : Shared} {Q E : Value → Shared → Prop}
/-- list of a generator of units -/
theorem call_list_units (hh : A.handled = none) (hroom : A.depth < recursionLimit) (hn : U.length ≤ sizeLine) (G : GenSt w A.in1.in1.in1 a U 0 own s) (W : Wd w h0) (hs : Sub h0 s.heap) (ho : ∀ b ∈ own, h0.get? b = none) (ho2 : ∀ b ∈ own, b ≠ s.heap.objs.size)
    (hQ : ∀ s' l (items : Array Value), All2 (UnitAt (freshOf h0 s'.heap)) items.toList U → Sub h0 s'.heap → s'.heap.IsList l items → h0.get? l = none → Rel s s' → Q (.ref l) s') :
    wpAny (model PR w) A (call (.type "list") [.ref a]) Q E s := by
  obtain ⟨gno, hgn⟩ := G.isGen
  obtain ⟨og, _, _, hog, _⟩ := id hgn
  have haS : s.heap.objs.size ≠ a := Nat.ne_of_gt (Heap.lt_size hog)
  generalize hSS : s.heap.objs.size = S at haS ho2
  refine callType_codes (Q₁ := fun obj s₁ => obj = .ref S ∧ s₁ = { s with heap := s.heap.push { cls := .type "list", data := .seq #[] } }) F.called_list (F.typeCall_list_1 _) F.entry_list_init
    (code_list_new _ ⟨by rw [hSS], rfl⟩) fun obj s₁ h₁ => ?_
  obtain ⟨rfl, rfl⟩ := h₁
  have hS : (s.heap.push { cls := .type "list", data := .seq #[] }).get? S = some { cls := .type "list", data := .seq #[] } := by rw [← hSS]; exact Heap.get?_push_size _ rfl
  have hh0S : h0.get? S = none := none_of_sub hs (by rw [← hSS]; exact get_size _)
  have G0 : LG w A.in1.in1.in1 a U h0 S 0 #[] { s with heap := s.heap.push { cls := .type "list", data := .seq #[] } } :=
    ⟨⟨own, h0, G.keeps rfl (fun o e => Sub.push _ _ _ _ e) (fun b _ o e => Sub.push _ _ _ _ e), W, hs.trans (Sub.push _ _), ho, hh0S, fun hm => ho2 S hm rfl, fun _ _ e => e, .nil⟩, haS, _, hS⟩
  refine ⟨⟨_, hS, rfl⟩, F.args_list_init_2 _ _, ?_⟩
  show wpAny _ A.in1.in1 (do let old ← Builtin.List.listItems (.ref S); Builtin.List.listUpdate (.ref S) (fun _ => #[]); letGo old.toList.reverse; Builtin.List.listExtendWith (.ref S) (.ref a) .none) _ _ _
  refine wpAny_bind ?_
  unfold Builtin.List.listItems
  refine wpAny_bind (wpAny_seqItems hS rfl (wpAny_pure ?_))
  show wpAny _ A.in1.in1 (updateSeq S (fun _ => #[]) >>= fun _ => letGo (#[] : Array Value).toList.reverse >>= fun _ => Builtin.List.listExtendWith (.ref S) (.ref a) .none) _ _ _
  refine wpAny_bind (wpAny_updateSeq hS rfl ?_)
  have hS₂ := Heap.get?_update_self (Obj.mapSeq (fun _ => (#[] : Array Value))) hS rfl
  refine wpAny_bind (wpAny_letGo ?_)
  have G1 := G0.turn (s' := { s with heap := (s.heap.push { cls := .type "list", data := .seq #[] }).update S (Obj.mapSeq (fun _ => (#[] : Array Value))) }) (acc' := #[]) rfl (fun b o hb e => (Heap.get?_update_other _ _ (Ne.symm hb)).trans e) hS₂ (fun _ _ _ _ x => x)
  have hgn1 : ((s.heap.push { cls := .type "list", data := .seq #[] }).update S (Obj.mapSeq (fun _ => (#[] : Array Value)))).IsGen a gno := by
    obtain ⟨o, nm, qn, e, r⟩ := hgn
    exact ⟨o, nm, qn, (Heap.get?_update_other _ _ haS).trans (Sub.push _ _ _ _ e), r⟩
  unfold Builtin.List.listExtendWith
  refine wpAny_bind (wpAny_typeOf (Heap.IsGen.typeIs hgn1) ?_)
  have h1 : Builtin.List.listSameRef (.ref S) (.ref a) = false := by simp [Builtin.List.listSameRef, haS]
  have h2 : (Value.type "generator" == Value.type "list") = false := by decide
  have h3 : (Value.type "generator" == Value.type "tuple") = false := by decide
  simp only [h1, h2, h3, Bool.or_false, Bool.false_eq_true, if_false]
  refine wpAny_bind (wpAny_pyIter_gen hgn1 ?_)
  refine wpAny_bind (wpAny_holding ?_)
  unfold Builtin.List.listLengthHint
  refine wpAny_bind (wpAny_specialOf (Heap.IsGen.typeIs hgn1) F.gen_no_len ?_)
  show wpAny _ A.in1.in1 (specialOf (Value.ref a) (Str.ofString "__length_hint__") >>= _) _ _ _
  refine wpAny_bind (wpAny_specialOf (Heap.IsGen.typeIs hgn1) F.gen_no_hint ?_)
  refine wpAny_pure ?_
  show wpAny _ A.in1.in1 (rule "list.extend.makes-room" >>= fun _ => Builtin.List.listTouch (.ref S) >>= fun _ =>
    again (.builtin "list.extend.loop" ⟨[.ref S, .ref a, .none], []⟩)) _ _ _
  refine wpAny_bind (wpAny_rule ?_)
  refine wpAny_bind ?_
  show wpAny _ A.in1.in1 (updateSeq S (·.push .none) >>= fun _ => updateSeq S (·.pop)) _ _ _
  refine wpAny_bind (wpAny_updateSeq hS₂ rfl ?_)
  have hS₃ := Heap.get?_update_self (Obj.mapSeq (·.push Value.none)) hS₂ rfl
  refine wpAny_updateSeq hS₃ rfl ?_
  have hS₄ := Heap.get?_update_self (Obj.mapSeq (·.pop)) hS₃ rfl
  refine wpAny_pure ⟨plainId_quiet F.plain_extend_loop _, extend_loop_gen (A := A.in1) (h0 := h0) hh hroom hn .none ?_ U.length 0 _ #[] rfl (Nat.zero_le _) (G1.turn rfl (fun b o hb e => (Heap.get?_update_other _ _ (Ne.symm hb)).trans ((Heap.get?_update_other _ _ (Ne.symm hb)).trans e)) hS₄ (fun _ _ _ _ x => x)) (Rel.refl _)⟩
  intro s' acc c hU hsub hS' hr
  exact ⟨rfl, hQ s' S acc hU hsub ⟨_, hS', rfl, _, rfl⟩ hh0S ⟨hr.gens, hr.os⟩⟩
end
end Mine
end

section
open PySem PySem.W PySem.Calls PyProof.Rows PySem.Builtin PySem.Builtin.Str
set_option maxRecDepth 100000
set_option maxHeartbeats 400000
namespace Mine
theorem slice_nat (x : Str) (a b : Nat) : Txt.slice x (some (a : Int)) (some (b : Int)) = ⟨((x.cps.toList.take b).drop a).toArray⟩ := by
  have hlen : x.length = x.cps.toList.length := by simp [Str.length]
  have key : ∀ a b : Nat, a ≤ b → b ≤ x.length → Txt.slice x (some (a : Int)) (some (b : Int)) = ⟨((x.cps.toList.take b).drop a).toArray⟩ := by
    intro a b hab hb
    have e := StrLaws.sliceText_nat x hab hb
    rw [List.drop_take]
    exact e
  have clamp : ∀ a b : Nat, strSliceIndices (some (a : Int)) (some (b : Int)) 1 x.length = strSliceIndices (some ((min a x.length : Nat) : Int)) (some ((min b x.length : Nat) : Int)) 1 x.length := by
    intro a b
    have h1 : ¬ ((a : Int) < 0) := by omega
    have h2 : ¬ ((b : Int) < 0) := by omega
    have h3 : ¬ (((min a x.length : Nat) : Int) < 0) := by omega
    have h4 : ¬ (((min b x.length : Nat) : Int) < 0) := by omega
    have e1 : max (0 : Int) (min (a : Int) (x.length : Int)) = max (0 : Int) (min ((min a x.length : Nat) : Int) (x.length : Int)) := by omega
    have e2 : max (0 : Int) (min (b : Int) (x.length : Int)) = max (0 : Int) (min ((min b x.length : Nat) : Int) (x.length : Int)) := by omega
    simp only [strSliceIndices, sliceRange, h1, h2, h3, h4, if_false, e1, e2, show ((1 : Int) > 0) = True from by simp, if_true]
  have cl2 : Txt.slice x (some (a : Int)) (some (b : Int)) = Txt.slice x (some ((min a x.length : Nat) : Int)) (some ((min b x.length : Nat) : Int)) := by
    unfold Txt.slice; rw [clamp]
  have tk : x.cps.toList.take b = x.cps.toList.take (min b x.length) := by
    rw [hlen, ← List.take_take, List.take_of_length_le (Nat.le_refl x.cps.toList.length)]
  by_cases hab : a ≤ b ∨ x.length ≤ b
  · rw [cl2, key _ _ (by omega) (by omega), tk]
    congr 2
    by_cases ha : a ≤ x.length
    · rw [Nat.min_eq_left ha]
    · rw [List.drop_eq_nil_of_le (i := a) (by rw [List.length_take]; omega), List.drop_eq_nil_of_le (by rw [List.length_take, ← hlen]; omega)]
  · have hba : b < a := by omega
    have : strSliceIndices (some (a : Int)) (some (b : Int)) 1 x.length = [] := by
      have h1 : ¬ ((a : Int) < 0) := by omega
      have h2 : ¬ ((b : Int) < 0) := by omega
      have e3 : ¬ (max (0 : Int) (min (a : Int) (x.length : Int)) < max (0 : Int) (min (b : Int) (x.length : Int))) := by omega
      simp only [strSliceIndices, sliceRange, h1, h2, if_false, e3, show ((1 : Int) > 0) = True from by simp, if_true]
      rfl
    unfold Txt.slice
    rw [this, List.drop_eq_nil_of_le (i := a) (by rw [List.length_take]; omega)]
    rw [if_neg]
    · rfl
    · have : x.length ≠ 0 := by omega
      simp; omega
theorem slice_nat_from (x : Str) (a : Nat) : Txt.slice x (some (a : Int)) none = ⟨(x.cps.toList.drop a).toArray⟩ := by
  have e : Txt.slice x (some (a : Int)) none = Txt.slice x (some (a : Int)) (some ((x.length : Nat) : Int)) := by
    unfold Txt.slice; rw [StrLaws.sliceIdx_none_hi]
  rw [e, slice_nat, List.take_of_length_le (by simp [Str.length])]

section
variable {w : World} {A : Around} {env : Env} {g : Heap} {Q E : Value → Shared → Prop} {s : Shared} {led : Led} {m : Str → Option Value}
/-- a call of a builtin's method -/
theorem mcall {o : Expr} {args : List Expr} {name : Str} {apos pos : Pos} {T id : String} {ov : Value} (pa : PlainAttrs T) (slot : Slot T name id) (ty : typeOf (.builtin id) = pure (.type "method_descriptor"))
    (hT : s.TypeIs ov T) (hd : ∀ a, ov = .ref a → ∃ ob, s.heap.get? a = some ob ∧ ob.dict = none)
    (ho : ∀ Q', Q' ov s → wpAny (model PR w) A (eval o env) Q' E s)
    (h : wpAny (model PR w) A (evalArgs (.builtin id) true (backTo pos (starEach args env)) []) (fun a s₁ => wpAny (model PR w) A (call (.builtin id) ([ov] ++ a.pos) a.kw) Q E s₁) E s)
    (hplain : (backTo pos (starEach args env)).any (·.1) = false := by rfl)
    (hbase : attributeBase o name env (eval o env) = eval o env := by rfl) (hline : (apos.endLine == pos.line) = true := by rfl)
    (hfew : ((backTo pos (starEach args env)).all (fun x => !x.1) && (backToKw pos (keywordEach [] env)).all (fun x => x.1.isSome)
      && decide (args.length + ([] : List Keyword).length + (if ([] : List Keyword).isEmpty then 0 else 1) < 30)) = true := by rfl) :
    wpAny (model PR w) A (eval (.Call (.Attribute o name apos) args [] pos) env) Q E s :=
  wpAny_Call_method_lateS hbase hfew hline (ho _ ⟨T, id, pa, slot, ty, hT, hd, callWith_builtin hplain h⟩)
theorem keptFx {L : Addr} : KeptH (fun h => Fx g L led h m) := fun h ob F => F.ext (Sub.push h ob)
def lstObj (items : Array Value) (n : Nat) : Obj := { cls := .type "list", data := .seq items n }
end
def StrV (v : Value) (y : List Nat) : Prop := ∃ t, v = .str ⟨y.toArray⟩ t
theorem StrV.are : ∀ {vs : List Value} {ys : List (List Nat)}, All2 StrV vs ys → StrsAre vs (ys.map fun y => ⟨y.toArray⟩)
  | _, _, .nil => .nil
  | _, _, .cons ⟨t, e⟩ r => by subst e; exact .cons _ t (StrV.are r)

/-- _strip_quoted_realnames, a unit -/
def qstep (x : List Nat) (st : Nat × Option Nat × List (List Nat)) (u : Nat × List Nat) : Nat × Option Nat × List (List Nat) :=
  if u.2 = [34] then match st.2.1 with
    | none => (st.1, some u.1, st.2.2)
    | some p => (u.1 + 1, none, if st.1 ≠ p then st.2.2 ++ [(x.take p).drop st.1] else st.2.2)
  else st
def qrun (x : List Nat) (us : List (Nat × List Nat)) : Nat × Option Nat × List (List Nat) := us.foldl (qstep x) (0, none, [])
def stripL (x : List Nat) : List Nat :=
  if 34 ∈ x then
    let st := qrun x (escS false 0 x)
    (st.2.2 ++ if st.1 < x.length then [x.drop st.1] else []).flatten
  else x
theorem qrun_succ {x : List Nat} {us : List (Nat × List Nat)} {i : Nat} {u : Nat × List Nat} (h : us[i]? = some u) : qrun x (us.take (i + 1)) = qstep x (qrun x (us.take i)) u := by
  unfold qrun
  rw [List.take_add_one, h, List.foldl_append]; rfl
theorem qstep_len {x : List Nat} {st : Nat × Option Nat × List (List Nat)} {u : Nat × List Nat} : (qstep x st u).2.2.length ≤ st.2.2.length + 1 := by
  unfold qstep
  split
  · split
    · exact Nat.le_succ _
    · simp only []
      split <;> simp
  · exact Nat.le_succ _
theorem qrun_len {x : List Nat} : ∀ (us : List (Nat × List Nat)) (i : Nat), (qrun x (us.take i)).2.2.length ≤ i
  | us, 0 => by simp [qrun]
  | us, i + 1 => by
    cases h : us[i]? with
    | none =>
      rw [List.take_add_one, h, Option.toList_none, List.append_nil]
      exact Nat.le_trans (qrun_len us i) (Nat.le_succ _)
    | some u =>
      rw [qrun_succ h]
      exact Nat.le_trans qstep_len (Nat.succ_le_succ (qrun_len us i))
theorem qrun_part {x : List Nat} : ∀ (us : List (Nat × List Nat)) (st : Nat × Option Nat × List (List Nat)), (∀ y ∈ st.2.2, y.length ≤ x.length) → ∀ y ∈ (us.foldl (qstep x) st).2.2, y.length ≤ x.length
  | [], _, h => h
  | u :: us, st, h => by
    refine qrun_part us (qstep x st u) ?_
    unfold qstep
    split
    · split
      · exact h
      · simp only []
        split
        · intro y hy
          rcases List.mem_append.mp hy with hy | hy
          · exact h y hy
          · rw [List.mem_singleton.mp hy, List.length_drop, List.length_take]; omega
        · exact h
    · exact h
theorem escS_len : ∀ (x : List Nat) (b : Bool) (i : Nat), (escS b i x).length ≤ x.length + (if b = true then 1 else 0)
  | [], true, _ => by simp [escS]
  | [], false, _ => by simp [escS]
  | c :: r, true, i => by
    have := escS_len r false (i + 1)
    simp only [escS, List.length_cons]
    simp at this ⊢; omega
  | c :: r, false, i => by
    have h1 := escS_len r false (i + 1)
    have h2 := escS_len r true (i + 1)
    simp only [escS]
    split
    · simp at h2 ⊢; omega
    · simp at h1 ⊢; omega
end Mine
end

section
open PySem PySem.W PySem.Calls PyProof.Rows PySem.Builtin PySem.Builtin.Str
set_option maxRecDepth 100000
set_option maxHeartbeats 400000
namespace Mine
local macro_rules | `(tactic| walk_at "my_enter") => `(tactic| (
  (case k6 => k_is); (case k7 => k_is); (case k9 => exact BindsTo.of_eq rfl); (case kB => exact locs rfl); (case c2 => exact rfl); (case c3 => exact rfl); (case c4 => exact rfl); (case c5 => decide)))
section
variable {w : World} {A : Around} {s : Shared} {Q E : Value → Shared → Prop}
theorem mcallS {env : Env} {o : Expr} {args : List Expr} {name : Str} {apos pos : Pos} {T id : String} (pa : PlainAttrs T) (slot : Slot T name id) (ty : typeOf (.builtin id) = pure (.type "method_descriptor"))
    (ho : wpAny (model PR w) A (eval o env) (fun ov s₁ => s₁.TypeIs ov T ∧ (∀ a, ov = .ref a → ∃ ob, s₁.heap.get? a = some ob ∧ ob.dict = none) ∧
      wpAny (model PR w) A (evalArgs (.builtin id) true (backTo pos (starEach args env)) []) (fun a s₁ => wpAny (model PR w) A (call (.builtin id) ([ov] ++ a.pos) a.kw) Q E s₁) E s₁) E s)
    (hplain : (backTo pos (starEach args env)).any (·.1) = false := by rfl)
    (hbase : attributeBase o name env (eval o env) = eval o env := by rfl) (hline : (apos.endLine == pos.line) = true := by rfl)
    (hfew : ((backTo pos (starEach args env)).all (fun x => !x.1) && (backToKw pos (keywordEach [] env)).all (fun x => x.1.isSome)
      && decide (args.length + ([] : List Keyword).length + (if ([] : List Keyword).isEmpty then 0 else 1) < 30)) = true := by rfl) :
    wpAny (model PR w) A (eval (.Call (.Attribute o name apos) args [] pos) env) Q E s :=
  wpAny_Call_method_lateS hbase hfew hline (wpAny_mono ho (fun ov s₁ h => ⟨T, id, pa, slot, ty, h.1, h.2.1, callWith_builtin hplain h.2.2⟩) fun _ _ x => x)
theorem join_flat (l : List (List Nat)) : Txt.join (Str.ofString "") (l.map fun y => (⟨y.toArray⟩ : Str)) = ⟨l.flatten.toArray⟩ := by
  show Builtin.Str.glued _ _ = _
  rw [StrLaws.glued_eq_join]
  induction l with
  | nil => rfl
  | cons y r ih =>
    cases r with
    | nil => simp [Str.join]
    | cons z r =>
      simp only [List.map_cons] at ih ⊢
      rw [PySem.Str.join, ih]
      · apply Str.ext'
        simp only [Str.cps_append, List.flatten_cons, show (Str.ofString "").cps = #[] from rfl]
        simp
      · simp
/-- the loop over the units of an ascii text -/
theorem for_units {g : Heap} {env : Env} {led : Led} {m : Str → Option Value} {x : Str} {t : Tok} {xk xv : Str} {pk pv pt p cp pos : Pos} {x1} {Q : Flow → Shared → Prop} {body : List Stmt} {arg : Expr}
    (hh : A.handled = none) (W : Wd w g) (hroom : A.depth + 1 < recursionLimit) (F : Fx g env.locals led s.heap m) (hasc : x.cps.all (· < 128) = true)
    (I : Nat → (Str → Option Value) → Led → Prop) (h0 : I 0 m led)
    (harg : ∀ Q', Q' (.str x t) s → wpAny (model PR w) A (eval arg env) Q' E s)
    (step : ∀ i u m₁ led₁ G (s₁ : Shared) k0 k1, (unitsOf x)[i]? = some u → Sub g G → I i m₁ led₁ → Fx G env.locals led₁ s₁.heap (fun y => if y = xv then some (.str ⟨u.2.toArray⟩ k1) else if y = xk then some (.int u.1 k0) else m₁ y) → Rel s s₁ →
      wpAny (model PR w) A (execs body env) (fun f s₂ => match f with
        | .next | .cont => s₂.gens = s₁.gens ∧ s₂.os = s₁.os ∧ ∃ m₃ led₃, led₃.map (·.1) = led₁.map (·.1) ∧ Fx G env.locals led₃ s₂.heap m₃ ∧ I (i + 1) m₃ led₃
        | .brk => False
        | .ret v => Q (.ret v) s₂) (fun _ _ => False) s₁)
    (done : ∀ (s' : Shared) m' led', I (unitsOf x).length m' led' → Fx g env.locals led' s'.heap m' → Rel s s' → Q .next s')
    (hg : env.globals = mainGlobals := by rfl) (hk : env.scope.kind = .function := by rfl) (hx : env.kindOf "_iter_escaped_chars" = some .globalImplicit := by rfl)
    (he : starEach (arg :: []) env = (false, eval arg env) :: starEach [] env := by rfl)
    (hkn : nsIn (K0 w.params) mainGlobals "_iter_escaped_chars" = some (some (.ref 70)) := by k_is) (hkp : keepIn (K0 w.params) (.ref 70) = true := by k_is)
    (hxk : env.kindOf xk = some .local := by rfl) (hxv : env.kindOf xv = some .local := by rfl)
    (hs : ∀ x, foldedSetIterable (.Call (.Name "_iter_escaped_chars" p) [arg] [] cp) env x = pure x := by intro _; rfl) :
    wpAny (model PR w) A (exec (.For (.Tuple [.Name xk pk, .Name xv pv] x1 pt) (.Call (.Name "_iter_escaped_chars" p) [arg] [] cp) body [] pos) env) Q E s := by
  refine wpAny_For ?_ hs
  refine fcall F W hkn hkp ?_ hg hk hx (by decide) he
  refine wpAny_items_cons (he := he) (harg _ (wpAny_items_nil ⟨F.toSub, ?_⟩))
  refine iter_call_ok (W.keeps F.toSub) hroom x t hasc fun a own s' hs' hr' ha hown _ hG => ?_
  have F' := F.ext hs'
  obtain ⟨gno, hgn⟩ := (hG A.in1 hh).isGen
  refine wpAny_pyIter_gen hgn ?_
  refine codeAny_mono (forG (pos := pos) (pk := pk) (pv := pv) (pt := pt) (x1 := x1) (xk := xk) (xv := xv) (Q := Q) (led := led) (m := m) hh W (by omega) I (fun i u m₁ led₁ G s₁ k0 k1 h1 h2 h3 h4 h5 => step i u m₁ led₁ G s₁ k0 k1 h1 h2 h3 h4 (hr'.trans h5)) (fun s₂ m' led' h1 h2 h3 => done s₂ m' led' h1 h2 (hr'.trans h3)) (hG A.in1 hh) F' (fun b hb => ?_) ⟨fun e => F.isSomeL (e ▸ ha), fun hm => F.isSome hm ha⟩ h0 hk hxk hxv)
    (fun r s' hx => by cases r with | ok f => exact hx | error e => exact hx.elim)
  have := hown b hb
  exact ⟨none_of_sub F.toSub this, fun e => F.isSomeL (e ▸ this), fun hm => F.isSome hm this⟩

theorem strip_ok (W : Wd w s.heap) (hd : A.depth + 2 < recursionLimit) (hh : A.handled = none) (x : Str) (t : Tok) (ha : x.cps.all (· < 128) = true) (hsz : x.length ≤ 2000)
    (h : ∀ s' t', Sub s.heap s'.heap → Rel s s' → Q (.str ⟨(stripL x.cps.toList).toArray⟩ t') s') :
    wpAny (model PR w) A (call (.ref 77) [.str x t]) Q E s := by
  refine' enterX (binds := [(Str.ofString "addr", .str x t)]) W (fun _ _ e => e) ?k6 ?k7 (by omega) ?k9 ?kB ?_ ?c2 ?c3 ?c4 ?c5
  walk_at "my_enter"
  intro h₁ L hL hs F
  refine wpAny_execs_cons (wpAny_If (wpAny_isTrue_Compare1 (wpAny_Constant_str (nm (s := { s with heap := h₁, toks := _ }) F rfl (PyProof.Rows.notIn_str (wpAny_truthy_bool ?_))))))
  have hocc : (!(!(Builtin.Str.occurrences x (Str.ofString "\"") 0 x.length 1).isEmpty)) = !decide (34 ∈ x.cps.toList) := by
    have := StrLaws.found_one x 34
    rw [show (Str.ofString "\"") = ⟨#[34]⟩ from rfl, this]
  rw [hocc]
  by_cases h34 : 34 ∈ x.cps.toList
  · refine ite_neg (by simp [h34]) (wpAny_execs_nil ?_)
    refine wpAny_execs_cons (wpAny_Assign_Name (wpAny_Constant_int (sto (s := { s with heap := h₁, toks := _ }) F fun h₂ F => ?_)))
    refine wpAny_execs_cons (wpAny_Assign_Name (wpAny_Constant_none (sto (s := { s with heap := h₂, toks := _ }) F fun h₂ F => ?_)))
    refine wpAny_execs_cons (wpAny_Assign_Name (wpAny_List (wpAny_items_nil ⟨by show (0 : Nat) ≤ sizeLine; rw [sizeLine_eq]; omega, ?_⟩)))
    refine sto (s := { s with heap := _, toks := _ }) (F.push (o := lstObj #[] 0)) fun h₃ F => ?_
    generalize h₂.objs.size = R at F ⊢
    refine wpAny_execs_cons ?_
    have hU : unitsOf x = escS false 0 x.cps.toList := rfl
    have hUlen : (unitsOf x).length ≤ 2000 := by
      have h1 := escS_len x.cps.toList false 0
      have h2 : x.length = x.cps.toList.length := by simp [Str.length]
      show (escS false 0 x.cps.toList).length ≤ 2000
      rw [if_neg Bool.false_ne_true] at h1; omega
    have hxlen : x.cps.toList.length ≤ 2000 := by rw [← show x.length = x.cps.toList.length by simp [Str.length]]; exact hsz
    refine for_units (s := { s with heap := h₃, toks := _ }) (x := x) (t := t) hh W (by show A.depth + 1 + 1 < recursionLimit; omega) F ha
      (fun i m led => ∃ items n k0, led = [(R, lstObj items n)] ∧ All2 StrV items.toList (qrun x.cps.toList ((unitsOf x).take i)).2.2 ∧ m (Str.ofString "addr") = some (.str x t) ∧ m (Str.ofString "start") = some (.int (qrun x.cps.toList ((unitsOf x).take i)).1 k0) ∧
        (match (qrun x.cps.toList ((unitsOf x).take i)).2.1 with | none => m (Str.ofString "open_pos") = some .none | some p => ∃ k1, m (Str.ofString "open_pos") = some (.int (p : Nat) k1)) ∧ m (Str.ofString "result") = some (.ref R))
      ⟨_, _, _, rfl, .nil, rfl, rfl, rfl, rfl⟩ (fun Q' hq => nm F rfl hq) ?_ ?_
    · rintro i u m₁ led₁ G s₁ k0 k1 hu hg ⟨items, n, k2, rfl, hit, hm1, hm2, hm3, hm4⟩ F hr
      have hs1 := qrun_succ (x := x.cps.toList) hu
      generalize qrun x.cps.toList ((unitsOf x).take (i + 1)) = st' at hs1 ⊢
      have hlen := qrun_len (x := x.cps.toList) (unitsOf x) i
      generalize qrun x.cps.toList ((unitsOf x).take i) = st at hs1 hlen hit hm2 hm3 ⊢
      obtain ⟨st1, op, res⟩ := st
      dsimp only at hit hm2 hm3 hlen
      refine wpAny_execs_cons (wpAny_If (wpAny_isTrue_Compare1 (nm (s := s₁) F rfl (wpAny_Constant_str (PyProof.Rows.eq_str (wpAny_truthy_bool ?_))))))
      by_cases hq : u.2 = [34]
      · refine ite_pos (by rw [hq]; rfl) ?_
        cases op with
        | none =>
          have e' : st' = (st1, some u.1, res) := by rw [hs1]; unfold qstep; rw [if_pos hq]
          subst e'
          refine wpAny_execs_cons (wpAny_If (wpAny_isTrue_Compare1 (nm (s := { s₁ with toks := _ }) F hm3 (wpAny_Constant_none (is_none (wpAny_truthy_bool (ite_pos rfl ?_)))))))
          refine wpAny_execs_cons (wpAny_Assign_Name (nm (s := { s₁ with toks := _ }) F rfl (sto (s := { s₁ with toks := _ }) F fun h₄ F => wpAny_execs_nil (wpAny_execs_nil (wpAny_execs_nil ?_)))))
          exact ⟨rfl, rfl, _, _, rfl, F, items, n, k2, rfl, hit, hm1, hm2, ⟨_, rfl⟩, hm4⟩
        | some p =>
          obtain ⟨k3, hm3⟩ := hm3
          have e' : st' = (u.1 + 1, none, if st1 ≠ p then res ++ [(x.cps.toList.take p).drop st1] else res) := by rw [hs1]; unfold qstep; rw [if_pos hq]
          subst e'
          refine wpAny_execs_cons (wpAny_If (wpAny_isTrue_Compare1 (nm (s := { s₁ with toks := _ }) F hm3 (wpAny_Constant_none (is_none (wpAny_truthy_bool (ite_neg (fun q => Bool.noConfusion (show false = true from q)) ?_)))))))
          refine wpAny_execs_cons (wpAny_mono (Q := fun f s₂ => f = .next ∧ s₂.gens = s₁.gens ∧ s₂.os = s₁.os ∧ ∃ items' n', Fx G L [(R, lstObj items' n')] s₂.heap (fun y => if y = Str.ofString "ch" then some (.str ⟨u.2.toArray⟩ k1) else if y = Str.ofString "pos" then some (.int u.1 k0) else m₁ y) ∧ All2 StrV items'.toList (if st1 ≠ p then res ++ [(x.cps.toList.take p).drop st1] else res)) ?_ (fun f s₂ h₂ => ?_) (fun _ _ x => x))
          · refine wpAny_If (wpAny_isTrue_Compare1 (nm (s := { s₁ with toks := _ }) F hm2 (nm F hm3 (PyProof.Rows.ne_int (wpAny_truthy_bool ?_)))))
            by_cases hne : st1 ≠ p
            · have hne' : ((st1 : Int) != (p : Int)) = true := by simp; omega
              refine ite_pos hne' ?_
              have hil := hit.length
              have hilt := (List.getElem?_eq_some_iff.mp hu).1
              rw [if_pos hne]
              refine wpAny_execs_cons (wpAny_Expr (mcall (s := { s₁ with toks := _ }) PySem.F.plainAttrs_list PySem.F.slot_list_append PySem.F.type_list_append (T := "list") (ov := .ref R) ⟨_, F.here, rfl⟩ (fun a e => by injection e with e; subst e; exact ⟨_, F.here, rfl⟩) (fun Q' hq => nm F hm4 hq) ?_))
              refine evalArgs_plain (wpAny_items_cons (Subscript_Slice ?_))
              refine nm (s := { s₁ with toks := _ }) F hm1 (wpAny_Slice (wpAny_evalPart_some ?_))
              refine nm (s := { s₁ with toks := _ }) F hm2 (wpAny_evalPart_some ?_)
              refine nm (s := { s₁ with toks := _ }) F hm3 (wpAny_evalPart_none ?_)
              refine SBH.sliceItem_ss (s := { s₁ with toks := _ }) keptFx F (fun h₄ t' k F => ?_) (by rw [sizeLine_eq]; omega)
              refine wpAny_items_nil ?_
              refine append_at (s := { s₁ with heap := h₄, toks := k }) F.here (fun h₅ hs₅ ho₅ => ?_) (by rw [sizeLine_eq, ← Array.length_toList]; omega)
              have F := F.upd hs₅ ho₅
              refine wpAny_execs_nil ⟨rfl, rfl, rfl, _, _, F, ?_⟩
              rw [Array.toList_push]
              exact hit.append (.cons ⟨t', by rw [slice_nat]⟩ .nil)
            · have hne' : ¬ ((st1 : Int) != (p : Int)) = true := by simp; omega
              refine ite_neg hne' (wpAny_execs_nil ⟨rfl, rfl, rfl, _, _, F, ?_⟩)
              rw [if_neg hne]
              exact hit
          · obtain ⟨rfl, e1, e2, items', n', F, hit'⟩ := h₂
            refine wpAny_execs_cons (wpAny_Assign_Name (wpAny_BinOp (nm F rfl (wpAny_Constant_int (add_int (sto (s := { s₂ with toks := _ }) F fun h₄ F => ?_))))))
            refine wpAny_execs_cons (wpAny_Assign_Name (wpAny_Constant_none (sto (s := { s₂ with heap := h₄, toks := _ }) F fun h₄ F => wpAny_execs_nil (wpAny_execs_nil (wpAny_execs_nil ?_)))))
            exact ⟨e1, e2, _, [(R, lstObj items' n')], rfl, F, items', n', _, rfl, hit', hm1, rfl, rfl, hm4⟩
      · refine ite_neg (fun q => hq (by have := eq_of_beq q; have := congrArg (fun z : Str => z.cps.toList) this; exact this)) (wpAny_execs_nil (wpAny_execs_nil ?_))
        have e' : st' = (st1, op, res) := by rw [hs1]; unfold qstep; rw [if_neg hq]
        subst e'
        exact ⟨rfl, rfl, _, _, rfl, F, items, n, k2, rfl, hit, hm1, hm2, hm3, hm4⟩
    · rintro s' m' led' ⟨items, n, k2, rfl, hit, hm1, hm2, hm3, hm4⟩ F hr
      rw [List.take_of_length_le (Nat.le_refl _)] at hit hm2 hm3
      have hlen := qrun_len (x := x.cps.toList) (unitsOf x) (unitsOf x).length
      have hpart := qrun_part (x := x.cps.toList) (unitsOf x) (0, none, []) (by intro y hy; cases hy)
      rw [List.take_of_length_le (Nat.le_refl _)] at hlen
      have hst : stripL x.cps.toList = ((qrun x.cps.toList (unitsOf x)).2.2 ++ if (qrun x.cps.toList (unitsOf x)).1 < x.cps.toList.length then [x.cps.toList.drop (qrun x.cps.toList (unitsOf x)).1] else []).flatten := by
        unfold stripL; rw [if_pos h34]
      change ∀ y ∈ (qrun x.cps.toList (unitsOf x)).2.2, _ at hpart
      generalize qrun x.cps.toList (unitsOf x) = st at hst hlen hit hm2 hm3 hpart
      obtain ⟨st1, op, res⟩ := st
      dsimp only at hit hm2 hm3 hlen hst hpart
      have hlx : x.length = x.cps.toList.length := by simp [Str.length]
      have hil := hit.length
      refine wpAny_execs_cons (wpAny_mono (Q := fun f s₂ => f = .next ∧ Rel s s₂ ∧ ∃ items' n', Fx s.heap L [(R, lstObj items' n')] s₂.heap m' ∧ All2 StrV items'.toList (res ++ if st1 < x.cps.toList.length then [x.cps.toList.drop st1] else [])) ?_ (fun f s₂ h₂ => ?_) (fun _ _ x => x))
      · refine wpAny_If (wpAny_isTrue_Compare1 (nm (s := s') F hm2 ?_))
        refine bcall F W (by k_is) (by boot_fast) (by decide) (wpAny_items_cons (nm F hm1 (wpAny_items_nil ?_)))
        refine PyProof.Rows.len_str (by omega) (lt_int (wpAny_truthy_bool ?_))
        by_cases hlt : st1 < x.cps.toList.length
        · refine ite_pos (by rw [hlx]; simp; simpa using hlt) ?_
          rw [if_pos hlt]
          refine wpAny_execs_cons (wpAny_Expr (mcall (s := { s' with toks := _ }) PySem.F.plainAttrs_list PySem.F.slot_list_append PySem.F.type_list_append (T := "list") (ov := .ref R) ⟨_, F.here, rfl⟩ (fun a e => by injection e with e; subst e; exact ⟨_, F.here, rfl⟩) (fun Q' hq => nm F hm4 hq) ?_))
          refine evalArgs_plain (wpAny_items_cons (Subscript_Slice ?_))
          refine nm (s := { s' with toks := _ }) F hm1 (wpAny_Slice (wpAny_evalPart_some ?_))
          refine nm (s := { s' with toks := _ }) F hm2 (wpAny_evalPart_none (wpAny_evalPart_none ?_))
          refine SBH.sliceItem_sn (s := { s' with toks := _ }) keptFx F (fun h₄ t' k F => ?_) (by rw [sizeLine_eq]; omega)
          refine wpAny_items_nil ?_
          refine append_at (s := { s' with heap := h₄, toks := k }) F.here (fun h₅ hs₅ ho₅ => ?_) (by rw [sizeLine_eq, ← Array.length_toList]; omega)
          have F := F.upd hs₅ ho₅
          refine wpAny_execs_nil ⟨rfl, ⟨hr.gens, hr.os⟩, _, _, F, ?_⟩
          rw [Array.toList_push]
          exact hit.append (.cons ⟨t', by rw [slice_nat_from]⟩ .nil)
        · refine ite_neg (by rw [hlx]; simp; simpa using hlt) (wpAny_execs_nil ⟨rfl, ⟨hr.gens, hr.os⟩, _, _, F, ?_⟩)
          rw [if_neg hlt, List.append_nil]
          exact hit
      · obtain ⟨rfl, hr₂, items', n', F, hit'⟩ := h₂
        refine wpAny_execs_cons (wpAny_Return_some (mcallS PySem.F.plainAttrs_str PySem.F.slot_str_join PySem.F.type_str_join (wpAny_Constant_str ⟨typeIs_str _ _ _, fun a e => (nomatch e), ?_⟩)))
        refine evalArgs_plain (wpAny_items_cons (nm (s := { s₂ with toks := _ }) F hm4 (wpAny_items_nil ?_)))
        have hbig : ∀ (l : List (List Nat)), (∀ y ∈ l, y.length ≤ 2000) → l.length ≤ 2001 → ((l.map fun y => (⟨y.toArray⟩ : Str)).map (·.length)).sum ≤ 2001 * 2000 := by
          intro l hl h2
          have := StrLaws.sumLen_le (B := 2000) (l.map fun y => (⟨y.toArray⟩ : Str)) (by
            intro y hy
            obtain ⟨z, hz, rfl⟩ := List.mem_map.mp hy
            have := hl z hz
            simp [Str.length]; exact this)
          rw [List.length_map] at this
          exact Nat.le_trans this (Nat.mul_le_mul_right _ h2)
        have hall : ∀ y ∈ (res ++ if st1 < x.cps.toList.length then [x.cps.toList.drop st1] else []), y.length ≤ 2000 := by
          intro y hy
          rcases List.mem_append.mp hy with hy | hy
          · exact Nat.le_trans (hpart y hy) hxlen
          · split at hy
            · rw [List.mem_singleton.mp hy, List.length_drop]; omega
            · cases hy
        have hlen2 : (res ++ if st1 < x.cps.toList.length then [x.cps.toList.drop st1] else []).length ≤ 2001 := by
          rw [List.length_append]
          split
          · simp only [List.length_singleton]; omega
          · simp only [List.length_nil]; omega
        refine join_list (s := { s₂ with toks := _ }) ⟨_, F.here, rfl, _, rfl⟩ (StrV.are hit') ?_ fun t' k => ?_
        · have := hbig _ hall hlen2
          have e0 : (Str.ofString "").length = 0 := rfl
          rw [e0, Nat.mul_zero, Nat.add_zero]; omega
        · have e1 : Txt.join (Str.ofString "") ((res ++ if st1 < x.cps.toList.length then [x.cps.toList.drop st1] else []).map fun y => (⟨y.toArray⟩ : Str)) = ⟨(stripL x.cps.toList).toArray⟩ := by
            rw [hst]
            exact join_flat _
          rw [e1]
          exact h _ _ F.toSub ⟨hr₂.gens, hr₂.os⟩
  · refine ite_pos (by simp [h34]) (wpAny_execs_cons (wpAny_Return_some (nm (s := { s with heap := h₁, toks := _ }) F rfl ?_)))
    have e : (⟨(stripL x.cps.toList).toArray⟩ : Str) = x := by unfold stripL; rw [if_neg h34]
    rw [e] at h
    exact h _ _ hs Rel.same
end
end Mine
end

section
open PySem PySem.W PySem.Calls PyProof.Rows PySem.Builtin PySem.Builtin.Str
set_option maxRecDepth 100000
set_option maxHeartbeats 400000
namespace Mine
local macro_rules | `(tactic| walk_at "my_enter") => `(tactic| (
  (case k6 => k_is); (case k7 => k_is); (case k9 => exact BindsTo.of_eq rfl); (case kB => exact locs rfl); (case c2 => exact rfl); (case c3 => exact rfl); (case c4 => exact rfl); (case c5 => decide)))
/-- _check_parenthesis, a unit -/
def pstep (o : Option Int) (u : Nat × List Nat) : Option Int :=
  o.bind fun n => if u.2 = [40] then some (n + 1) else if u.2 = [41] then (if n - 1 < 0 then none else some (n - 1)) else some n
def prun (us : List (Nat × List Nat)) : Option Int := us.foldl pstep (some 0)
def checkL (x : List Nat) : Bool := prun (escS false 0 (stripL x)) == some 0
theorem prun_succ {us : List (Nat × List Nat)} {i : Nat} {u : Nat × List Nat} (h : us[i]? = some u) : prun (us.take (i + 1)) = pstep (prun (us.take i)) u := by
  unfold prun
  rw [List.take_add_one, h, List.foldl_append]; rfl
theorem pstep_none : ∀ us : List (Nat × List Nat), us.foldl pstep none = none
  | [] => rfl
  | _ :: us => pstep_none us
theorem prun_none {us : List (Nat × List Nat)} {i : Nat} (h : prun (us.take i) = none) : prun us = none := by
  unfold prun at *
  rw [← List.take_append_drop i us, List.foldl_append, h, pstep_none]
theorem qrun_mem {x : List Nat} : ∀ (us : List (Nat × List Nat)) (st : Nat × Option Nat × List (List Nat)), (∀ y ∈ st.2.2, ∀ c ∈ y, c ∈ x) → ∀ y ∈ (us.foldl (qstep x) st).2.2, ∀ c ∈ y, c ∈ x
  | [], _, h => h
  | u :: us, st, h => by
    refine qrun_mem us (qstep x st u) ?_
    unfold qstep
    split
    · split
      · exact h
      · simp only []
        split
        · intro y hy
          rcases List.mem_append.mp hy with hy | hy
          · exact h y hy
          · rw [List.mem_singleton.mp hy]
            exact fun c hc => List.mem_of_mem_take (List.mem_of_mem_drop hc)
        · exact h
    · exact h
theorem stripL_mem {x : List Nat} : ∀ c ∈ stripL x, c ∈ x := by
  unfold stripL
  split
  · intro c hc
    obtain ⟨y, hy, hcy⟩ := List.mem_flatten.mp hc
    rcases List.mem_append.mp hy with hy | hy
    · exact qrun_mem _ _ (by intro y hy; cases hy) y hy c hcy
    · split at hy
      · rw [List.mem_singleton.mp hy] at hcy; exact List.mem_of_mem_drop hcy
      · cases hy
  · exact fun c h => h
theorem ascii_strip {x : Str} (ha : x.cps.all (· < 128) = true) : (⟨(stripL x.cps.toList).toArray⟩ : Str).cps.all (· < 128) = true := by
  simp only [Array.all_eq_true', decide_eq_true_eq] at *
  intro c hc
  exact ha c (Array.mem_toList_iff.mp (stripL_mem c (by simpa using hc)))
section
variable {w : World} {A : Around} {s : Shared} {Q E : Value → Shared → Prop}
theorem check_ok (W : Wd w s.heap) (hd : A.depth + 3 < recursionLimit) (hh : A.handled = none) (x : Str) (t : Tok) (ha : x.cps.all (· < 128) = true) (hsz : x.length ≤ 2000)
    (h : ∀ s', Sub s.heap s'.heap → Rel s s' → Q (.bool (checkL x.cps.toList)) s') :
    wpAny (model PR w) A (call (.ref 84) [.str x t]) Q E s := by
  refine' enterX (binds := [(Str.ofString "addr", .str x t)]) W (fun _ _ e => e) ?k6 ?k7 (by omega) ?k9 ?kB ?_ ?c2 ?c3 ?c4 ?c5
  walk_at "my_enter"
  intro h₁ L hL hs F
  refine wpAny_execs_cons (wpAny_Assign_Name (fcall (s := { s with heap := h₁, toks := _ }) F W (by k_is) (by k_is) ?_))
  refine wpAny_items_cons (nm (s := { s with heap := h₁, toks := _ }) F rfl (wpAny_items_nil ⟨F.toSub, ?_⟩))
  refine strip_ok (s := { s with heap := h₁, toks := _ }) (W.keeps F.toSub) (deeper_ok (n := 2) hd) hh x t ha hsz fun s' t' hs' hr' => ?_
  have F := F.ext hs'
  have ha' := ascii_strip ha
  have hU : checkL x.cps.toList = (prun (unitsOf (⟨(stripL x.cps.toList).toArray⟩ : Str)) == some 0) := rfl
  rw [hU] at h
  generalize (⟨(stripL x.cps.toList).toArray⟩ : Str) = y at ha' h ⊢
  refine sto (s := s') F fun h₂ F => ?_
  refine wpAny_execs_cons (wpAny_Assign_Name (wpAny_Constant_int (sto (s := { s' with heap := h₂, toks := _ }) F fun h₂ F => ?_)))
  refine wpAny_execs_cons ?_
  refine for_units (s := { s' with heap := h₂, toks := _ }) (x := y) (t := t') hh W (by show A.depth + 1 + 1 < recursionLimit; omega) F ha'
    (fun i m led => led = [] ∧ ∃ n k0, prun ((unitsOf y).take i) = some n ∧ m (Str.ofString "opens") = some (.int n k0)) ⟨rfl, 0, _, rfl, rfl⟩ (fun Q' hq => nm (s := { s' with heap := h₂, toks := _ }) F rfl hq) ?_ ?_
  · rintro i u m₁ led₁ G s₁ k0 k1 hu hg ⟨rfl, n, k2, hn, hm⟩ F hr
    have hs1 := prun_succ hu
    rw [hn] at hs1
    refine wpAny_execs_cons (wpAny_If (wpAny_isTrue_Compare1 (nm (s := s₁) F rfl (wpAny_Constant_str (PyProof.Rows.eq_str (wpAny_truthy_bool ?_))))))
    have ne : ∀ c, u.2 ≠ [c] → ∀ z : Str, z = ⟨#[c]⟩ → ¬ ((⟨u.2.toArray⟩ : Str) == z) = true := fun c hc z hz q => hc (by have := eq_of_beq q; rw [hz] at this; exact congrArg (fun z : Str => z.cps.toList) this)
    by_cases h40 : u.2 = [40]
    · refine ite_pos (by rw [h40]; rfl) ?_
      refine wpAny_execs_cons (wpAny_AugAssign_Name (ldm (s := { s₁ with toks := _ }) F hm (wpAny_Constant_int ?_)))
      refine iadd_int (sto (s := { s₁ with toks := _ }) F fun h₄ F => wpAny_execs_nil (wpAny_execs_nil ?_))
      exact ⟨rfl, rfl, _, [], rfl, F, rfl, n + 1, _, by rw [hs1]; simp [pstep, h40], rfl⟩
    · refine ite_neg (ne 40 h40 _ rfl) ?_
      refine wpAny_execs_cons (wpAny_If (wpAny_isTrue_Compare1 (nm (s := { s₁ with toks := _ }) F rfl (wpAny_Constant_str (PyProof.Rows.eq_str (wpAny_truthy_bool ?_))))))
      by_cases h41 : u.2 = [41]
      · refine ite_pos (by rw [h41]; rfl) ?_
        refine wpAny_execs_cons (wpAny_AugAssign_Name (ldm (s := { s₁ with toks := _ }) F hm (wpAny_Constant_int ?_)))
        refine isub_int (sto (s := { s₁ with toks := _ }) F fun h₄ F => ?_)
        refine wpAny_execs_cons (wpAny_If (wpAny_isTrue_Compare1 (nm (s := { s₁ with heap := h₄, toks := _ }) F rfl (wpAny_Constant_int (lt_int (wpAny_truthy_bool ?_))))))
        by_cases hlt : n - 1 < 0
        · refine ite_pos (decide_eq_true hlt) (wpAny_execs_cons (wpAny_Return_some (wpAny_Constant_bool ?_)))
          have e0 : prun (unitsOf y) = none := prun_none (i := i + 1) (by rw [hs1]; simp [pstep, h41, hlt])
          rw [e0] at h
          exact h _ (hg.trans F.toSub) ⟨fun x => hr.gens (hr'.gens x), hr.os.trans hr'.os⟩
        · refine ite_neg (by rw [decide_eq_false hlt]; exact Bool.false_ne_true) (wpAny_execs_nil (wpAny_execs_nil (wpAny_execs_nil (wpAny_execs_nil ?_))))
          exact ⟨rfl, rfl, _, [], rfl, F, rfl, n - 1, _, by rw [hs1]; simp [pstep, h41, hlt], rfl⟩
      · refine ite_neg (ne 41 h41 _ rfl) (wpAny_execs_nil (wpAny_execs_nil (wpAny_execs_nil ?_)))
        exact ⟨rfl, rfl, _, [], rfl, F, rfl, n, _, by rw [hs1]; simp [pstep, h40, h41], hm⟩
  · rintro s'' m' led' ⟨rfl, n, k0, hn, hm⟩ F hr
    rw [List.take_of_length_le (Nat.le_refl _)] at hn
    rw [hn] at h
    refine wpAny_execs_cons (wpAny_Return_some (wpAny_Compare1 (nm (s := s'') F hm (wpAny_Constant_int (eq_int ?_)))))
    have e : ((some n : Option Int) == some 0) = (n == 0) := rfl
    rw [e] at h
    exact h _ F.toSub ⟨fun x => hr.gens (hr'.gens x), hr.os.trans hr'.os⟩
end
end Mine
end

section
open PySem PySem.W PySem.Calls PyProof.Rows
set_option maxRecDepth 100000
set_option maxHeartbeats 400000
namespace Mine
abbrev testsS (ifs : List Expr) (env : Env) : Sem Bool := forIn ifs true fun c r => if r = true then do let ok ← isTrue c env (eval c env); pure (ForInStep.yield ok) else pure (ForInStep.yield r)
section
variable {w : World} {A : Around} {E : Value → Shared → Prop} {s : Shared} {env : Env} {target iter : Expr} {ifs : List Expr} {scope : Scope} {pos : Pos} {I D C : Addr} {cl : List (Str × Addr)} {g₀ G : Heap} {N : Nat} {St : Nat → Led → Prop} {B : Nat → Heap → (Str → Option Value) → (Str → Option Value) → Prop} {il : Led} {m : Str → Option Value} {R : Result → Shared → Prop}
theorem compLoopL {elt : Expr} (S : Source w A (compEnvC scope cl C env) target I g₀ N St B) (P : Nat → Array Value → Prop)
    (hN : N ≤ 1000) (hPs : ∀ i xs, P i xs → xs.size ≤ i)
    (step : ∀ i m₁ m₂ G₂ il₂ items n (s₁ : Shared), i < N → Sub G G₂ → P i items → B i G₂ m₁ m₂ → Fx G₂ C (il₂ ++ [(D, lstObj items n)]) s₁.heap m₂ → Rel s s₁ →
      wpAny (model PR w) A (testsS ifs (compEnvC scope cl C env)) (fun ok s₂ => if ok = true then wpAny (model PR w) A (eval elt (compEnvC scope cl C env)) (fun v s₃ => Rel s₁ s₃ ∧ ∃ m₃, Fx G₂ C (il₂ ++ [(D, lstObj items n)]) s₃.heap m₃ ∧ P (i + 1) (items.push v)) (fun _ _ => False) s₂
        else Rel s₁ s₂ ∧ ∃ m₃, Fx G₂ C (il₂ ++ [(D, lstObj items n)]) s₂.heap m₃ ∧ P (i + 1) items) (fun _ _ => False) s₁)
    (done : ∀ (s' : Shared) m' G' items n, Sub G G' → P N items → Fx G' C [(D, lstObj items n)] s'.heap m' → Rel s s' → R (.ok .next) s')
    (F : Fx G C (il ++ [(D, lstObj #[] 0)]) s.heap m) (hg₀ : Sub g₀ G) (hst : St 0 il) (h0 : P 0 #[]) :
    codeAny (model PR w) A (.compLoop (.ListComp elt [⟨target, iter, ifs, 0⟩] scope pos) 0 (.ref I) (.ref D) (compEnvC scope cl C env)) R s := by
  refine codeAny_loop rfl (fun k s' => ∃ i il' m' G' items n, k = N + 1 - i ∧ i ≤ N ∧ St i il' ∧ Sub G G' ∧ P i items ∧ Fx G' C (il' ++ [(D, lstObj items n)]) s'.heap m' ∧ Rel s s') (fun k s' hI => ?_) (N + 1)
    ⟨0, il, m, G, #[], 0, rfl, Nat.zero_le _, hst, fun _ _ e => e, h0, F, Rel.refl s⟩
  obtain ⟨i, il', m', G', items, n, rfl, hi, hst', hG, hP, F', hr⟩ := hI
  show wpAny _ A ((compTurn (.ListComp elt [⟨target, iter, ifs, 0⟩] scope pos) 0 (.ref I) (.ref D) (compEnvC scope cl C env)).onRaise (fun x => do noteFrame x (compEnvC scope cl C env); theTreesLotGoes x)) _ _ s'
  refine wpAny_noted ?_
  rw [compTurn_list]
  refine wpAny_bind (wpAny_standAt (wpAny_bind ?_))
  rcases Nat.lt_or_ge i N with hlt | hge
  · refine S.item i il' G' [(D, lstObj items n)] s' m' _ _ _ hlt hst' (hg₀.trans hG) F' (fun v s₁ hx => wpAny_bind (wpAny_mono hx (fun _ s₂ h₂ => wpAny_bind h₂) fun _ _ e => e)) fun h₁ tk il₁ m₁ g₁ hg₁ hst₁ F₁ hB => ?_
    have fin : ∀ (s₃ : Shared) its nn m₃, Rel { s' with heap := h₁, toks := tk } s₃ → Fx g₁ C (il₁ ++ [(D, lstObj its nn)]) s₃.heap m₃ → P (i + 1) its →
        ∃ k' < N + 1 - i, ∃ i il' m' G' items n, k' = N + 1 - i ∧ i ≤ N ∧ St i il' ∧ Sub G G' ∧ P i items ∧ Fx G' C (il' ++ [(D, lstObj items n)]) s₃.heap m' ∧ Rel s s₃ :=
      fun s₃ its nn m₃ h1 h2 h3 => ⟨N + 1 - (i + 1), by omega, i + 1, il₁, m₃, g₁, its, nn, rfl, hlt, hst₁, hG.trans hg₁, h3, h2, (hr.trans Rel.same).trans h1⟩
    refine wpAny_bind (wpAny_mono (step i m' m₁ g₁ il₁ items n _ hlt (hG.trans hg₁) hP hB F₁ (hr.trans Rel.same)) (fun ok s₂ h₂ => ?_) fun _ _ x => x.elim)
    cases ok with
    | false =>
      rw [if_neg Bool.false_ne_true] at h₂
      obtain ⟨hr₂, m₃, F₃, hP₃⟩ := h₂
      exact wpAny_pure ⟨rfl, fin s₂ items n m₃ hr₂ F₃ hP₃⟩
    | true =>
      rw [if_pos rfl] at h₂
      refine wpAny_bind (wpAny_bind (wpAny_mono h₂ (fun v s₃ h₃ => ?_) fun _ _ x => x.elim))
      obtain ⟨hr₃, m₃, F₃, hP₃⟩ := h₃
      have F₄ := F₃.perm (List.perm_append_comm (l₁ := [(D, lstObj items n)]) (l₂ := il₁))
      refine wpAny_bind (append_at (s := s₃) F₄.here (fun h₄ hs₄ ho₄ => ?_) (by have := hPs _ _ hP; rw [sizeLine_eq]; omega))
      have F₅ := (F₄.upd hs₄ ho₄).perm (List.perm_append_comm (l₁ := il₁) (l₂ := [(D, lstObj (items.push v) (n + 1))]))
      exact wpAny_pure (wpAny_pure ⟨rfl, fin _ _ _ m₃ ⟨hr₃.gens, hr₃.os⟩ F₅ hP₃⟩)
  · have hin : i = N := Nat.le_antisymm hi hge
    subst hin
    exact S.done il' G' [(D, lstObj items n)] s' m' _ _ hst' (hg₀.trans hG) F' fun h₁ tk F₁ => wpAny_pure (done _ m' G' items n hG hP F₁ (hr.trans Rel.same))

/-- the block of a list comprehension, from its iterator on -/
abbrev BlockL (w : World) (A : Around) (E : Value → Shared → Prop) (env : Env) (elt target iter : Expr) (ifs : List Expr) (scope : Scope) (pos : Pos) (cl : List (Str × Addr)) (use : Option (Value → Sem Unit)) (Q : Value → Shared → Prop) (it : Value) (s₂ : Shared) : Prop :=
  wpAny (model PR w) A (newList []) (fun acc s₃ => wpAny (model PR w) A (newFunctionEnv scope env.globals cl [] env.qual none .none (some env)) (fun cenv s₄ =>
      codeAny (model PR w) A (.compStart (.ListComp elt [⟨target, iter, ifs, 0⟩] scope pos) 0 it acc { cenv with scope := relabel scope env }) (compPost (model PR w) A E use Q acc cenv.locals) s₄) E s₃) E s₂
/-- what is left of a comprehension, once its loop is over -/
theorem compEnd {g₂ G' h h' h₂ : Heap} {L : Addr} {led₂ : Led} {m₂ mC : Str → Option Value} {o : Obj} (F₂ : Fx g₂ L (il ++ led₂) h₂ m₂) (hG : ∀ b o, h₂.get? b = some o → (∀ p ∈ il, p.1 ≠ b) → G'.get? b = some o) (hC : h₂.get? C = none)
    (hD : h₂.get? D = none) (F : Fx G' C [(D, o)] h mC) (hs : Heap.SameBut C h h') : Fx g₂ L ((D, o) :: led₂) h' m₂ := by
  have key : ∀ b x, h₂.get? b = some x → (∀ p ∈ il, p.1 ≠ b) → h'.get? b = some x := fun b x e hn => hs.extBut b x (fun q => by rw [q, hC] at e; cases e) (F.keep b x (hG b x e hn))
  have DD := F.at_ _ (.head _)
  have nil : ∀ p ∈ il, p.1 ≠ L ∧ g₂.get? p.1 = none := fun p hp => (F₂.at_ p (List.mem_append_left _ hp)).2
  have hnd := F₂.nd
  rw [List.map_append, List.nodup_append] at hnd
  refine ⟨F₂.ns.at fun x e => key _ x e fun p hp => (nil p hp).1, fun b x e => key b x (F₂.keep b x e) (fun p hp q => by rw [← q, (nil p hp).2] at e; cases e), F₂.off, fun p hp => ?_, ?_⟩
  · rcases List.mem_cons.mp hp with rfl | hp
    · refine ⟨hs.extBut _ _ DD.2.1 DD.1, fun q => F₂.isSomeL ?_, none_of_sub F₂.toSub hD⟩
      rw [← q]; exact hD
    · have P := F₂.at_ p (List.mem_append_right _ hp)
      exact ⟨key _ _ P.1 fun q hq e => hnd.2.2 _ (List.mem_map_of_mem hq) _ (List.mem_map_of_mem hp) e, P.2⟩
  · rw [List.map_cons, List.nodup_cons]
    refine ⟨fun hm => ?_, hnd.2.1⟩
    exact F₂.isSome (a := D) (by rw [List.map_append]; exact List.mem_append_right _ hm) hD
theorem Fx.notIn {g h : Heap} {L : Addr} {led : Led} {m : Str → Option Value} {p q : Addr × Obj} (F : Fx g L (p :: led) h m) (hq : q ∈ led) : p.1 ≠ q.1 := fun e => (List.nodup_cons.mp F.nd).1 (List.mem_map.mpr ⟨q, hq, e.symm⟩)
/-- the comprehension's own frame -/
theorem compOpen {g₂ h₂ h₃ h₁ : Heap} {L : Addr} {led₂ : Led} {m₂ mC : Str → Option Value} {o : Obj} (F₂ : Fx g₂ L (il ++ led₂) h₂ m₂) (h23 : Sub h₂ h₃) (hD2 : h₂.get? D = none) (hD3 : h₃.get? D = some o) (hC3 : h₃.get? C = none) (hn : h₁.Ns C mC)
    (h31 : Sub h₃ h₁) : ∃ G, Fx G C (il ++ [(D, o)]) h₁ mC ∧ Sub g₂ G ∧ (∀ p ∈ led₂, G.get? p.1 = some p.2) ∧ (∀ b x, h₂.get? b = some x → (∀ p ∈ il, p.1 ≠ b) → G.get? b = some x) := by
  have hCD : C ≠ D := fun e => by rw [e, hD3] at hC3; cases hC3
  have hC2 : h₂.get? C = none := none_of_sub h23 hC3
  have hnd := F₂.nd
  rw [List.map_append, List.nodup_append] at hnd
  have inG : ∀ b x, h₂.get? b = some x → (∀ p ∈ il, p.1 ≠ b) → (hideAll h₁ (C :: D :: il.map (·.1))).get? b = some x := by
    intro b x e hn
    refine hideAll_get _ (h31 _ _ (h23 _ _ e)) fun hm => ?_
    rcases List.mem_cons.mp hm with q | hm
    · rw [q, hC2] at e; cases e
    · rcases List.mem_cons.mp hm with q | hm
      · rw [q, hD2] at e; cases e
      · obtain ⟨p, hp, q⟩ := List.mem_map.mp hm
        exact hn p hp q
  refine ⟨hideAll h₁ (C :: D :: il.map (·.1)), ⟨hn, fun b x e => of_hideAll _ e, hideAll_none _ (.head _), fun p hp => ?_, ?_⟩, fun b x e => ?_, fun p hp => ?_, inG⟩
  · rcases List.mem_append.mp hp with hp | hp
    · have P := F₂.at_ p (List.mem_append_left _ hp)
      exact ⟨h31 _ _ (h23 _ _ P.1), (fun q => by have := P.1; rw [q, hC2] at this; cases this), hideAll_none _ (.tail _ (.tail _ (List.mem_map_of_mem hp)))⟩
    · rw [List.mem_singleton.mp hp]
      exact ⟨h31 _ _ hD3, Ne.symm hCD, hideAll_none _ (.tail _ (.head _))⟩
  · rw [List.map_append, List.nodup_append]
    refine ⟨hnd.1, by simp, fun a ha b hb q => ?_⟩
    rw [List.map_cons, List.map_nil, List.mem_singleton] at hb
    obtain ⟨p, hp, e⟩ := List.mem_map.mp ha
    have P := (F₂.at_ p (List.mem_append_left _ hp)).1
    rw [e, q, hb, hD2] at P; cases P
  · refine inG b x (F₂.keep b x e) fun p hp q => ?_
    have := (F₂.at_ p (List.mem_append_left _ hp)).2.2
    rw [q, e] at this; cases this
  · exact inG _ _ (F₂.at_ p (List.mem_append_right _ hp)).1 fun q hq e => hnd.2.2 _ (List.mem_map_of_mem hq) _ (List.mem_map_of_mem hp) e
section
variable {elt : Expr} {Q : Value → Shared → Prop} {s₂ : Shared} {g₂ : Heap} {led₂ : Led} {m₂ : Str → Option Value}
theorem blockL {use : Option (Value → Sem Unit)} (P : Nat → Array Value → Prop) (F₂ : Fx g₂ env.locals (il ++ led₂) s₂.heap m₂) (S : ∀ C, Source w A (compEnvC scope cl C env) target I g₂ N St B)
    (self : ∀ (s' : Shared) G C led' m', Fx G C (il ++ led') s'.heap m' → ∀ Q' E', Q' (.ref I) s' → wpAny (model PR w) A (pyIter (.ref I)) Q' E' s')
    (hst : St 0 il) (h0 : P 0 #[]) (hN : N ≤ 1000) (hPs : ∀ i xs, P i xs → xs.size ≤ i)
    (step : ∀ C D i m₁ m₃ G₂ il₂ items n (s₁ : Shared), i < N → Sub g₂ G₂ → (∀ p ∈ led₂, G₂.get? p.1 = some p.2) → P i items → B i G₂ m₁ m₃ → Fx G₂ C (il₂ ++ [(D, lstObj items n)]) s₁.heap m₃ → Rel s₂ s₁ →
      wpAny (model PR w) A (testsS ifs (compEnvC scope cl C env)) (fun ok s₄ => if ok = true then wpAny (model PR w) A (eval elt (compEnvC scope cl C env)) (fun v s₃ => Rel s₁ s₃ ∧ ∃ m₃, Fx G₂ C (il₂ ++ [(D, lstObj items n)]) s₃.heap m₃ ∧ P (i + 1) (items.push v)) (fun _ _ => False) s₄
        else Rel s₁ s₄ ∧ ∃ m₃, Fx G₂ C (il₂ ++ [(D, lstObj items n)]) s₄.heap m₃ ∧ P (i + 1) items) (fun _ _ => False) s₁)
    (done : ∀ (s' : Shared) C D items n mC, s₂.heap.get? D = none → s₂.heap.get? C = none → D ≠ C → P N items → s'.heap.Ns C mC → (∀ h', Heap.SameBut C s'.heap h' → Fx g₂ env.locals ((D, lstObj items n) :: led₂) h' m₂) → C ≠ env.locals → Rel s₂ s' → compPost (model PR w) A E use Q (.ref D) C (.ok .next) s')
    (hcell : ∀ y ∈ scope.names, y.2 ≠ .cell) (hkind : scope.kind = .function) :
    BlockL w A E env elt target iter ifs scope pos cl use Q (.ref I) s₂ := by
  refine wpAny_newObj_type (wpAny_newFunctionEnv hcell (by intro y hy; simp at hy) (fun h₁ hns₁ hsb₁ => ?_) hkind)
  dsimp only at hns₁ hsb₁ ⊢
  have hD3 : (s₂.heap.push (lstObj #[] 0)).get? s₂.heap.objs.size = some (lstObj #[] 0) := Heap.get?_push_size _ rfl
  have hC3 : (s₂.heap.push (lstObj #[] 0)).get? (s₂.heap.push (lstObj #[] 0)).objs.size = none := get_size _
  have h31 : Sub (s₂.heap.push (lstObj #[] 0)) h₁ := fun b o e => hsb₁.extBut b o (Nat.ne_of_lt (Heap.lt_size e)) (Heap.get?_push_of_some _ e)
  obtain ⟨G, FG, hgG, hled, hin⟩ := compOpen F₂ (Sub.push _ (lstObj #[] 0)) (get_size _) hD3 hC3 hns₁ h31
  have hC2 := none_of_sub (Sub.push _ (lstObj #[] 0)) hC3
  have hCL : (s₂.heap.push (lstObj #[] 0)).objs.size ≠ env.locals := fun q => F₂.isSomeL (q ▸ hC2)
  have loop := compLoopL (s := { s₂ with heap := h₁, toks := s₂.toks + ([] : List (Str × Value)).length }) (cl := cl) (scope := scope) (pos := pos) (iter := iter) (ifs := ifs) (elt := elt) (target := target) (R := compPost (model PR w) A E use Q (.ref s₂.heap.objs.size) (s₂.heap.push (lstObj #[] 0)).objs.size) (S _) P hN hPs
    (fun i m₁ m₃ G₂ il₂ items n s₁ h1 h2 h3 h4 h5 h6 => step _ _ i m₁ m₃ G₂ il₂ items n s₁ h1 (hgG.trans h2) (fun p hp => h2 _ _ (hled p hp)) h3 h4 h5 ⟨h6.gens, h6.os⟩)
    (fun s' m' G' items n h1 h2 h3 h4 => done s' _ _ items n m' (get_size _) hC2 (h3.at_ _ (.head _)).2.1 h2 h3.ns (fun h' hs' => compEnd F₂ (fun b x e hn => h1 _ _ (hin b x e hn)) hC2 (get_size _) h3 hs') hCL ⟨h4.gens, h4.os⟩)
    FG hgG hst h0
  exact codeAny_compStart_list loop (self _ _ _ _ _ FG _ _ loop)
end
end
end Mine
end

section
open PySem PySem.W PySem.Calls PyProof.Rows
set_option maxRecDepth 100000
set_option maxHeartbeats 400000
namespace Mine
inductive Net
  | wire (r : Fin 6) (k : Fin 15)
  | ser (a b : Net)
  | par (a b : Net)
def sgn (k : Fin 15) : Nat := [44, 58, 59, 45, 42, 47, 38, 60, 62, 46, 37, 126, 94, 64, 33].getD k.val 0
def wid (k : Fin 15) : Int := [12, 11, 13, 15, 16, 17, 19, 20, 21, 23, 24, 31, 32, 49, 54].getD k.val 0
def rid (r : Fin 6) : List (List Nat) := if r = 2 then [[92, 41]] else if r = 4 then [[92, 124]] else []
/-- the units of a net's stripped text -/
def T : Net → List (List Nat)
  | .wire r k => rid r ++ [[sgn k]]
  | .ser a b => [40] :: T a ++ [43] :: T b ++ [[41]]
  | .par a b => [40] :: T a ++ [124] :: T b ++ [[41]]
def unitsAll : List (List Nat) := [[40], [41], [43], [124], [92, 41], [92, 124], [44], [58], [59], [45], [42], [47], [38], [60], [62], [46], [37], [126], [94], [64], [33]]
def tokN (u : List Nat) : Option Int :=
  if u = [40] then some 7 else if u = [41] then some 8 else if u = [43] then some 14 else if u = [124] then some 18
  else match [44, 58, 59, 45, 42, 47, 38, 60, 62, 46, 37, 126, 94, 64, 33].zip [12, 11, 13, 15, 16, 17, 19, 20, 21, 23, 24, 31, 32, 49, 54] |>.find? (fun p => [p.1] = u) with
    | some p => some (p.2 : Int)
    | none => none
theorem T_all : ∀ (n : Net), ∀ u ∈ T n, u ∈ unitsAll
  | .wire r k => by revert r k; decide
  | .ser a b => by
    intro u hu
    simp only [T, List.cons_append, List.append_assoc, List.mem_cons, List.mem_append, List.not_mem_nil, or_false] at hu
    rcases hu with rfl | h | rfl | h | rfl
    · decide
    · exact T_all a u h
    · decide
    · exact T_all b u h
    · decide
  | .par a b => by
    intro u hu
    simp only [T, List.cons_append, List.append_assoc, List.mem_cons, List.mem_append, List.not_mem_nil, or_false] at hu
    rcases hu with rfl | h | rfl | h | rfl
    · decide
    · exact T_all a u h
    · decide
    · exact T_all b u h
    · decide
def nw : Net → Nat
  | .wire _ _ => 1
  | .ser a b => nw a + nw b
  | .par a b => nw a + nw b
def dep : Net → Nat
  | .wire _ _ => 0
  | .ser a b => dep a + dep b + 1
  | .par a b => dep a + dep b + 1
theorem dep_nw : ∀ n : Net, dep n + 1 ≤ nw n
  | .wire _ _ => Nat.le_refl _
  | .ser a b => by have := dep_nw a; have := dep_nw b; simp only [dep, nw]; omega
  | .par a b => by have := dep_nw a; have := dep_nw b; simp only [dep, nw]; omega
theorem T_len : ∀ n : Net, (T n).length + 3 ≤ 5 * nw n
  | .wire r k => by revert r k; decide
  | .ser a b => by have := T_len a; have := T_len b; have := dep_nw a; have := dep_nw b; simp [T, nw]; omega
  | .par a b => by have := T_len a; have := T_len b; have := dep_nw a; have := dep_nw b; simp [T, nw]; omega
abbrev Prof := List (Int × Ent)
def book (p : Prof) (node beyond wd : Int) : Prof :=
  put p node (match at? p node with | some e => ⟨wd + e.wid, addC e.cs [(beyond, wd)]⟩ | none => ⟨wd + 0, addC [] [(beyond, wd)]⟩)
def layN : Net → List Nat → Int → Int → Prof → Prof
  | .wire _ k, _, l, r, p => book (book p l r (wid k)) r l (wid k)
  | .ser a b, ps, l, r, p => layN b ((ps.drop (2 + (T a).length)).take (T b).length) (ps.getD (1 + (T a).length) 0 : Nat) r (layN a ((ps.drop 1).take (T a).length) l (ps.getD (1 + (T a).length) 0 : Nat) p)
  | .par a b, ps, l, r, p => layN b ((ps.drop (2 + (T a).length)).take (T b).length) l r (layN a ((ps.drop 1).take (T a).length) l r p)
def Bnd (K : Nat) (p : Prof) : Prop := p.length ≤ K ∧ ∀ x ∈ p, x.2.cs.length ≤ K
theorem mem_put {β : Type} {kvs : List (Int × β)} {k : Int} {v : β} {x : Int × β} (h : x ∈ put kvs k v) : x ∈ kvs ∨ x.2 = v := by
  unfold put at h
  split at h
  · obtain ⟨y, hy, rfl⟩ := List.mem_map.mp h
    split
    · exact .inr rfl
    · exact .inl hy
  · rcases List.mem_append.mp h with h | h
    · exact .inl h
    · rw [List.mem_singleton.mp h]; exact .inr rfl
theorem at_mem {β : Type} {kvs : List (Int × β)} {k : Int} {v : β} (h : at? kvs k = some v) : (k, v) ∈ kvs := by
  unfold at? at h
  obtain ⟨p, hp, rfl⟩ := Option.map_eq_some_iff.mp h
  have h1 := List.find?_some hp
  have h2 := List.mem_of_find?_eq_some hp
  have : p.1 = k := by simpa using h1
  rw [← this]; exact h2
theorem Bnd.book {K : Nat} {p : Prof} (h : Bnd K p) (node beyond wd : Int) : Bnd (K + 1) (book p node beyond wd) := by
  refine ⟨Nat.le_trans (put_length _ _ _) (Nat.succ_le_succ h.1), fun x hx => ?_⟩
  rcases mem_put hx with hx | hx
  · exact Nat.le_succ_of_le (h.2 x hx)
  · rw [hx]
    split
    · rename_i e he
      have h1 := h.2 _ (at_mem he)
      have h2 := addC_length [(beyond, wd)] e.cs
      simp at h1 h2 ⊢; omega
    · have h2 := addC_length [(beyond, wd)] []
      simp at h2 ⊢; omega
theorem Bnd.lay : ∀ (n : Net) (ps : List Nat) (l r : Int) (K : Nat) (p : Prof), Bnd K p → Bnd (K + 2 * nw n) (layN n ps l r p)
  | .wire _ k, _, l, r, K, p, h => (h.book l r (wid k)).book r l (wid k)
  | .ser a b, ps, l, r, K, p, h => by
    have h1 := Bnd.lay a ((ps.drop 1).take (T a).length) l (ps.getD (1 + (T a).length) 0 : Nat) K p h
    have h2 := Bnd.lay b ((ps.drop (2 + (T a).length)).take (T b).length) (ps.getD (1 + (T a).length) 0 : Nat) r _ _ h1
    have e : K + 2 * nw (.ser a b) = K + 2 * nw a + 2 * nw b := by simp only [nw]; omega
    rw [e]; exact h2
  | .par a b, ps, l, r, K, p, h => by
    have h1 := Bnd.lay a ((ps.drop 1).take (T a).length) l r K p h
    have h2 := Bnd.lay b ((ps.drop (2 + (T a).length)).take (T b).length) l r _ _ h1
    have e : K + 2 * nw (.par a b) = K + 2 * nw a + 2 * nw b := by simp only [nw]; omega
    rw [e]; exact h2
theorem Bnd.mono {K K' : Nat} {p : Prof} (h : Bnd K p) (hk : K ≤ K') : Bnd K' p := ⟨Nat.le_trans h.1 hk, fun x hx => Nat.le_trans (h.2 x hx) hk⟩
end Mine
end

section
open PySem PySem.W PySem.Calls PyProof.Rows
set_option maxRecDepth 100000
set_option maxHeartbeats 400000
namespace Mine
section
variable {w : World} {A : Around} {E : Value → Shared → Prop} {s : Shared} {env : Env} {g g₀ : Heap} {L l : Addr} {led : Led} {m : Str → Option Value} {items : Array Value}
theorem sliceL {vl vu : Value} {lo hi : Option Int} {Q : Value → Shared → Prop} (F : Fx g L led s.heap m) (hl : g.IsList l items) (pl : IsPart vl lo) (pu : IsPart vu hi) (hsz : items.size ≤ 1000)
    (h : ∀ h' R, Sub s.heap h' → s.heap.get? R = none → Fx g L ((R, lstObj (slicePick items lo hi none) 0) :: led) h' m → Q (.ref R) { s with heap := h' }) :
    ItemOn (model PR w) A E (.ref l) (.ref s.heap.objs.size) Q { s with heap := s.heap.push { cls := .type "slice", data := .fields #[vl, vu, .none] } } := by
  have hl' : (s.heap.push { cls := .type "slice", data := .fields #[vl, vu, .none] }).IsList l items := hl.at fun o e => Sub.push _ _ _ _ (F.keep _ _ e)
  refine ⟨"list", _, slot_list_getitem.lookup, hl'.typeIs, wpAny_getItem_list_slice hl' (Heap.IsSliceOf.new _ _ _ _) pl pu .none (by decide) ?_ (by rw [sizeLine_eq]; omega)⟩
  refine h _ _ ((Sub.push _ _).trans (Sub.push _ _)) (none_of_sub (Sub.push s.heap { cls := .type "slice", data := .fields #[vl, vu, .none] }) (get_size _)) ?_
  exact (F.ext (Sub.push _ _)).push
theorem dget2 {K : Type} [DecidableEq K] {knd : KeyKind PR w K} {o e₁ e₂ : Expr} {apos pos : Pos} {d : Addr} {f : K → Option Value} {Q : Value → Shared → Prop} (hd : (d == sysModules) = false) (hm : s.heap.MapOf knd d f)
    (ho : ∀ Q', Q' (.ref d) s → wpAny (model PR w) A (eval o env) Q' E s)
    (h : wpAny (model PR w) A (eval e₁ env) (fun key s₁ => wpAny (model PR w) A (eval e₂ env) (fun dflt s₂ => ∃ k f, knd.is k key = true ∧ s₂.heap.MapOf knd d f ∧ Q ((f k).getD dflt) { s₂ with toks := s₂.toks + 1 }) E s₁) E s)
    (hbase : attributeBase o "get" env (eval o env) = eval o env := by rfl) (hs : starEach [e₁, e₂] env = [(false, eval e₁ env), (false, eval e₂ env)] := by rfl) (hline : (apos.endLine == pos.line) = true := by rfl) :
    wpAny (model PR w) A (eval (.Call (.Attribute o "get" apos) [e₁, e₂] [] pos) env) Q E s :=
  Call_method2 hbase hs hline (ho _ ⟨"dict", "dict.get", PySem.F.plainAttrs_dict, PySem.F.slot_dict_get, PySem.F.type_dict_get, hm.typeIs, hm.noDict, wpAny_dict_get2 hd h⟩)

theorem tok_aux {es : Array DictEntry} {n : Nat} (W : Wd w g) (hl : (K0 w.params).lookup 85 = some ⟨.type "dict", none, .dict es n, #[]⟩) (hk : KeysLit w.params es.toList)
    (hr : ∀ u ∈ unitsAll, ∃ r, nsIn (K0 w.params) 85 ⟨u.toArray⟩ = some r ∧ (match tokN u with | some i => ∃ t, r = some (.int i t) | none => r = none)) :
    ∃ f, (∀ h, Sub g h → h.MapOf (strKind PR w) 85 f) ∧ ∀ u ∈ unitsAll, (match tokN u with | some i => ∃ t, f ⟨u.toArray⟩ = some (.int i t) | none => f ⟨u.toArray⟩ = none) := by
  refine ⟨fun k => findBy Value.isStrOf es k, fun h hs => mapOf_K (W.X.keeps hs) hl hk, fun u hu => ?_⟩
  obtain ⟨r, h1, h2⟩ := hr u hu
  dsimp only
  rw [find_K hl h1]; exact h2
/-- what the table of signs tells -/
theorem tok_map (W : Wd w g) : ∃ f, (∀ h, Sub g h → h.MapOf (strKind PR w) 85 f) ∧ ∀ u ∈ unitsAll, (match tokN u with | some i => ∃ t, f ⟨u.toArray⟩ = some (.int i t) | none => f ⟨u.toArray⟩ = none) := by
  refine' tok_aux W ?l ?k ?r
  (case l => k_is)
  (case k => k_keys)
  intro u hu
  simp only [unitsAll, List.mem_cons, List.not_mem_nil, or_false] at hu
  have mk : ∀ (u : List Nat) r, nsIn (K0 w.params) 85 ⟨u.toArray⟩ = some r → (match tokN u with | some i => ∃ t, r = some (.int i t) | none => r = none) → ∃ r, nsIn (K0 w.params) 85 ⟨u.toArray⟩ = some r ∧ (match tokN u with | some i => ∃ t, r = some (.int i t) | none => r = none) := fun u r h1 h2 => ⟨r, h1, h2⟩
  rcases hu with rfl | rfl | rfl | rfl | rfl | rfl | rfl | rfl | rfl | rfl | rfl | rfl | rfl | rfl | rfl | rfl | rfl | rfl | rfl | rfl | rfl
  all_goals first
    | exact ⟨some _, rfl, _, rfl⟩
    | exact ⟨none, rfl, rfl⟩
end
end Mine
end

section
open PySem PySem.W PySem.Calls PyProof.Rows
set_option maxRecDepth 100000
set_option maxHeartbeats 400000
namespace Mine
section
variable {w : World} {A : Around} {E : Value → Shared → Prop} {s : Shared} {env : Env} {g g₀ : Heap} {L l e it : Addr} {led : Led} {m : Str → Option Value} {items : Array Value}
/-- enumerate over a list of pairs, with a nested target -/
theorem Source.enumU {P : Nat → Value → Value → Prop} {xi xp xu : Str} {pi pp pu pt pt2 : Pos} {x1 x2} (hh : A.handled = none) (hl : g₀.IsList l items) (hp : ∀ i v, items[i]? = some v → ∃ t a b, v = .ref t ∧ g₀.IsTuple t #[a, b] ∧ P i a b)
    (hk : env.scope.kind = .function) (hxi : env.kindOf xi = some .local) (hxp : env.kindOf xp = some .local) (hxu : env.kindOf xu = some .local) :
    Source w A env (.Tuple [.Name xi pi, .Tuple [.Name xp pp, .Name xu pu] x2 pt2] x1 pt) e g₀ items.size (fun i il => ∃ old o, il = [(e, enumObj it i old), (it, o)] ∧ o.cls = .type "list_iterator" ∧ o.data = .fields #[.ref l, .int i 0])
      (fun i _ m m' => ∃ a b tk, P i a b ∧ m' = fun y => if y = xu then some b else if y = xp then some a else if y = xi then some (.int i tk) else m y) where
  item := by
    rintro i il g led s m Q E K hlt ⟨old, o, rfl, hc, hdt⟩ hg F hK h
    have he : IsEnum s.heap e it i old := F.here
    have hi : s.heap.IsListIter it l i := ⟨o, F.get (.tail _ (.head _)), hc, hdt⟩
    have hm : s.heap.IsList l items := hl.at fun o e => F.keep _ _ (hg _ _ e)
    have hei : e ≠ it := fun q => (List.nodup_cons.mp F.nd).1 (by rw [q]; exact .head _)
    obtain ⟨ol, hol, _⟩ := id hl
    have hel : ∀ p ∈ (e, enumObj it i old) :: (it, o) :: led, p.1 ≠ l := fun p hp q => by have := (F.at_ p hp).2.2; rw [q, hg _ _ hol] at this; cases this
    have hle : e ≠ l := hel _ (.head _)
    have hlit : l ≠ it := Ne.symm (hel _ (.tail _ (.head _)))
    obtain ⟨v, hx⟩ : ∃ v, items[i]? = some v := ⟨items[i], by simp [hlt]⟩
    obtain ⟨t, a, b, rfl, ht, hP⟩ := hp i v hx
    refine wpAny_pyNext_enum_itemD (Draws.list (A := A.in1) hh it l hlit items) he ⟨hi, hm⟩ hlt hei (by simp [hei, hle]) fun y h₁ tk hy heo hit ht₁ hz₁ hk₁ => hK _ _ ?_
    have hy' : items[i]? = some y := hy
    rw [hx] at hy'
    cases hy'
    obtain ⟨⟨o₁, ho₁, hc₁, hd₁⟩, _⟩ := hit
    have F₁ := F.upd2 hk₁ heo ho₁
    refine wpAny_letOwnedTupleGo_enum (s := { s with heap := h₁, toks := _ }) heo fun h₂ he₂ hs₂ => ?_
    have F₂ := F₁.upd hs₂ he₂
    have hiH : e < s.heap.objs.size := Heap.lt_size he
    have ht₂ : h₂.IsTuple s.heap.objs.size #[.int i tk, .ref t] := ⟨_, (hs₂.2 _ (Nat.ne_of_gt hiH)).trans ht₁, rfl, _, rfl⟩
    refine wpAny_assign_Tuple (s := { s with heap := h₂, toks := _ }) hh ht₂ rfl rfl fun h₃ hx₃ => ?_
    have F₃ := F₂.ext (sub_of_size hx₃)
    show wpAny _ _ (do holding [.ref t] (assign (.Name xi pi) env (.int i tk)); do holding [] (assign (.Tuple [.Name xp pp, .Name xu pu] x2 pt2) env (.ref t)); pure ()) _ _ _
    refine wpAny_bind (wpAny_holding (storeT (s := { s with heap := h₃, toks := _ }) F₃ hk hxi fun h₄ tk₄ F₄ => ?_))
    have ht₄ : h₄.IsTuple t #[a, b] := IsTuple.sub ht fun _ _ e => F₄.keep _ _ (hg _ _ e)
    refine wpAny_bind (wpAny_holding (wpAny_assign_Tuple (s := { s with heap := h₄, toks := tk₄ }) hh ht₄ rfl rfl fun h₅ hx₅ => ?_))
    have F₅ := F₄.ext (sub_of_size hx₅)
    show wpAny _ _ (do holding [b] (assign (.Name xp pp) env a); do holding [] (assign (.Name xu pu) env b); pure ()) _ _ _
    refine wpAny_bind (wpAny_holding (storeT (s := { s with heap := h₅, toks := tk₄ }) F₅ hk hxp fun h₆ tk₆ F₆ => ?_))
    refine wpAny_bind (wpAny_holding (storeT (s := { s with heap := h₆, toks := tk₆ }) F₆ hk hxu fun h₇ tk₇ F₇ => wpAny_pure (wpAny_pure ?_)))
    exact h h₇ tk₇ [(e, enumObj it ((i + 1 : Nat) : Int) (.ref t)), (it, o₁)] _ g (fun _ _ q => q) ⟨_, _, rfl, hc₁, hd₁⟩ F₇ ⟨a, b, tk, hP, rfl⟩
  done := by
    rintro il g led s m E K ⟨old, o, rfl, hc, hdt⟩ hg F h
    have he : IsEnum s.heap e it items.size old := F.here
    have hi : s.heap.IsListIter it l items.size := ⟨o, F.get (.tail _ (.head _)), hc, hdt⟩
    have hm : s.heap.IsList l items := hl.at fun o e => F.keep _ _ (hg _ _ e)
    obtain ⟨ol, hol, _⟩ := id hl
    have hlit : l ≠ it := fun q => by have := (F.at_ _ (.tail _ (.head _))).2.2; rw [← q, hg _ _ hol] at this; cases this
    exact wpAny_pyNext_enum_endD (Draws.list (A := A.in1) hh it l hlit items) he ⟨hi, hm⟩ fun h' hx => h h' s.toks (F.tail.out hx)

/-- for i, (a, b) in enumerate(list of pairs) -/
theorem for_enumU {P : Nat → Value → Value → Prop} {xi xp xu : Str} {pi pp pu pt pt2 p cp pos : Pos} {x1 x2} {arg : Expr} {Q : Flow → Shared → Prop} {body : List Stmt} (U : Nat → (Str → Option Value) → Heap → Led → Prop) (hh : A.handled = none)
    (F : Fx g env.locals led s.heap m) (W : Wd w g) (hl : g.IsList l items) (hp : ∀ i v, items[i]? = some v → ∃ t a b, v = .ref t ∧ g.IsTuple t #[a, b] ∧ P i a b)
    (harg : ∀ Q', Q' (.ref l) s → wpAny (model PR w) A (eval arg env) Q' E s)
    (h0 : U 0 m g led) (hmono : ∀ i m g g' led, Sub g g' → U i m g led → U i m g' led)
    (step : ∀ i a b tk m₁ g₂ il₂ led₁ (s₁ : Shared), i < items.size → P i a b → Sub g g₂ → U i m₁ g₂ led₁ → Fx g₂ env.locals (il₂ ++ led₁) s₁.heap (fun y => if y = xu then some b else if y = xp then some a else if y = xi then some (.int i tk) else m₁ y) → Rel s s₁ →
      wpAny (model PR w) A (execs body env) (TurnEnd U Q env.locals i g₂ il₂ s₁) (fun _ _ => False) s₁)
    (done : ∀ (s' : Shared) m' g' led', Sub g g' → U items.size m' g' led' → Fx g' env.locals led' s'.heap m' → Rel s s' → Q .next s')
    (hg : env.globals = mainGlobals := by rfl) (hb : env.builtins = builtinsNs := by rfl) (hk : env.scope.kind = .function := by rfl) (hx : env.kindOf "enumerate" = some .globalImplicit := by rfl)
    (he : starEach (arg :: []) env = (false, eval arg env) :: starEach [] env := by rfl)
    (hkn : nsIn (K0 w.params) mainGlobals "enumerate" = some none := by k_is) (hbt : bootBuiltins "enumerate" = some (.type "enumerate") := by boot_fast)
    (hxi : env.kindOf xi = some .local := by rfl) (hxp : env.kindOf xp = some .local := by rfl) (hxu : env.kindOf xu = some .local := by rfl)
    (hs : ∀ x, foldedSetIterable (.Call (.Name "enumerate" p) [arg] [] cp) env x = pure x := by intro _; rfl) :
    wpAny (model PR w) A (exec (.For (.Tuple [.Name xi pi, .Tuple [.Name xp pp, .Name xu pu] x2 pt2] x1 pt) (.Call (.Name "enumerate" p) [arg] [] cp) body [] pos) env) Q E s := by
  refine wpAny_For ?_ hs
  refine btype F W hkn hbt (by decide) ?_ hg hb hk hx (by decide) he
  refine wpAny_items_cons (he := he) (harg _ (wpAny_items_nil ?_))
  refine call_enumerate_list (hl.at fun o e => F.keep _ _ e) fun h₃ hen hit hsz hk₃ => ?_
  obtain ⟨oi, hoi, hci, hdi⟩ := hit
  have hn1 : s.heap.get? (s.heap.objs.size + 1) = none := by
    cases q : s.heap.get? (s.heap.objs.size + 1) with
    | none => rfl
    | some o => exact absurd (Heap.lt_size q) (Nat.not_lt.mpr (Nat.le_succ _))
  have F₂ := F.new2 (a := s.heap.objs.size + 1) (b := s.heap.objs.size) hk₃ hn1 (get_size _) (Nat.succ_ne_self _) hen hoi
  refine wpAny_pyIter_enum hen ?_
  refine codeAny_mono (forS (Source.enumU (P := P) (it := s.heap.objs.size) (pi := pi) (pp := pp) (pu := pu) (pt := pt) (pt2 := pt2) (x1 := x1) (x2 := x2) hh hl hp hk hxi hxp hxu) U (Q := Q) (il := [_, _]) (led := led) F₂ (fun _ _ e => e) ⟨.none, oi, rfl, hci, hdi⟩ h0 hmono (fun i m₁ m₂ g₂ il₂ led₁ s₁ hlt hg₂ hU hB F₃ hr => ?_)
    fun s' m' g' led' hg hU F' hr => done s' m' g' led' hg hU F' ⟨hr.gens, hr.os⟩) (fun r s' hx => by cases r with | ok f => exact hx | error e => exact hx.elim)
  obtain ⟨a, b, tk, hP, rfl⟩ := hB
  exact step i a b tk m₁ g₂ il₂ led₁ s₁ hlt hP hg₂ hU F₃ ⟨hr.gens, hr.os⟩
end
end Mine
end

section
open PySem PySem.W PySem.Calls PyProof.Rows
set_option maxRecDepth 100000
set_option maxHeartbeats 400000
namespace Mine
def pU (o : Option Int) (u : List Nat) : Option Int :=
  o.bind fun n => if u = [40] then some (n + 1) else if u = [41] then (if n - 1 < 0 then none else some (n - 1)) else some n
theorem prun_map (us : List (Nat × List Nat)) : prun us = (us.map (·.2)).foldl pU (some 0) := by
  unfold prun
  rw [List.foldl_map]; rfl
def WFu (u : List Nat) : Prop := (∃ c, c ≠ 92 ∧ u = [c]) ∨ ∃ c, u = [92, c]
theorem escS_flat : ∀ (us : List (List Nat)) (i : Nat), (∀ u ∈ us, WFu u) → (escS false i us.flatten).map (·.2) = us
  | [], _, _ => rfl
  | u :: us, i, h => by
    have hr := fun j => escS_flat us j fun v hv => h v (.tail _ hv)
    rcases h u (.head _) with ⟨c, hc, rfl⟩ | ⟨c, rfl⟩
    · rw [List.flatten_cons]
      show (escS false i (c :: us.flatten)).map _ = _
      rw [escS, if_neg hc, List.map_cons, hr]
    · rw [List.flatten_cons]
      show (escS false i (92 :: c :: us.flatten)).map _ = _
      rw [escS, if_pos rfl, escS, List.map_cons, hr]
theorem unitsAll_wf : ∀ u ∈ unitsAll, WFu u := by
  intro u hu
  simp only [unitsAll, List.mem_cons, List.not_mem_nil, or_false] at hu
  rcases hu with rfl | rfl | rfl | rfl | rfl | rfl | rfl | rfl | rfl | rfl | rfl | rfl | rfl | rfl | rfl | rfl | rfl | rfl | rfl | rfl | rfl
  all_goals first | exact .inl ⟨_, by decide, rfl⟩ | exact .inr ⟨_, rfl⟩
theorem unitsAll_34 : ∀ u ∈ unitsAll, 34 ∉ u ∧ ∀ c ∈ u, c < 128 := by decide
theorem strip_plain {us : List (List Nat)} (h : ∀ u ∈ us, u ∈ unitsAll) : stripL us.flatten = us.flatten := by
  unfold stripL
  rw [if_neg]
  intro hm
  obtain ⟨u, hu, h34⟩ := List.mem_flatten.mp hm
  exact (unitsAll_34 u (h u hu)).1 h34
theorem check_plain {us : List (List Nat)} (h : ∀ u ∈ us, u ∈ unitsAll) : checkL us.flatten = (us.foldl pU (some 0) == some 0) := by
  unfold checkL
  rw [strip_plain h, prun_map, escS_flat us 0 fun u hu => unitsAll_wf u (h u hu)]
theorem pU_no {u : List Nat} {k : Int} (h1 : u ≠ [40]) (h2 : u ≠ [41]) : pU (some k) u = some k := by
  show (if u = [40] then _ else if u = [41] then _ else some k) = _
  rw [if_neg h1, if_neg h2]
theorem pU_open (k : Int) : pU (some k) [40] = some (k + 1) := rfl
theorem pU_close {k : Int} (h : 0 ≤ k) : pU (some (k + 1)) [41] = some k := by
  show (if k + 1 - 1 < 0 then none else some (k + 1 - 1)) = _
  rw [if_neg (by omega)]
  congr 1; omega
theorem f_open (l : List (List Nat)) (k : Int) : ([40] :: l).foldl pU (some k) = l.foldl pU (some (k + 1)) := rfl
theorem f_pass {op : List Nat} (l : List (List Nat)) (k : Int) (h1 : op ≠ [40]) (h2 : op ≠ [41]) : (op :: l).foldl pU (some k) = l.foldl pU (some k) := by rw [List.foldl_cons, pU_no h1 h2]
theorem f_close {k : Int} (h : 0 ≤ k) : [[41]].foldl pU (some (k + 1)) = some k := pU_close h
theorem wire_fold (r : Fin 6) (k : Fin 15) : ∀ u ∈ T (.wire r k), u ≠ [40] ∧ u ≠ [41] ∧ u ≠ [43] ∧ u ≠ [124] := by revert r k; decide
theorem fold_no : ∀ (us : List (List Nat)) (k : Int), (∀ u ∈ us, u ≠ [40] ∧ u ≠ [41]) → us.foldl pU (some k) = some k
  | [], _, _ => rfl
  | u :: us, k, h => by
    rw [List.foldl_cons, pU_no (h u (.head _)).1 (h u (.head _)).2]
    exact fold_no us k fun v hv => h v (.tail _ hv)
theorem foldT : ∀ (n : Net) (k : Int), 0 ≤ k → (T n).foldl pU (some k) = some k
  | .wire r j, k, _ => fold_no _ k fun u hu => ⟨(wire_fold r j u hu).1, (wire_fold r j u hu).2.1⟩
  | .ser a b, k, hk => by
    show (([40] :: T a ++ [43] :: T b ++ [[41]]).foldl pU (some k)) = _
    rw [List.foldl_append, List.foldl_append, f_open, foldT a (k + 1) (by omega), f_pass _ _ (by decide) (by decide), foldT b (k + 1) (by omega)]
    exact f_close hk
  | .par a b, k, hk => by
    show (([40] :: T a ++ [124] :: T b ++ [[41]]).foldl pU (some k)) = _
    rw [List.foldl_append, List.foldl_append, f_open, foldT a (k + 1) (by omega), f_pass _ _ (by decide) (by decide), foldT b (k + 1) (by omega)]
    exact f_close hk
theorem foldOp_bin {ta tb : List (List Nat)} {op : List Nat} (hop : op = [43] ∨ op = [124]) (ha : ∀ k : Int, 0 ≤ k → ta.foldl pU (some k) = some k)
    (ia : ∀ (p : Nat) (u : List Nat) (k : Int), 0 ≤ k → ta[p]? = some u → (u = [43] ∨ u = [124]) → ∃ j, (ta.take p).foldl pU (some k) = some j ∧ k + 1 ≤ j)
    (ib : ∀ (p : Nat) (u : List Nat) (k : Int), 0 ≤ k → tb[p]? = some u → (u = [43] ∨ u = [124]) → ∃ j, (tb.take p).foldl pU (some k) = some j ∧ k + 1 ≤ j)
    (p : Nat) (u : List Nat) (k : Int) (hk : 0 ≤ k) (hu : ([40] :: ta ++ op :: tb ++ [[41]])[p]? = some u) (huo : u = [43] ∨ u = [124]) :
    ∃ j, (([40] :: ta ++ op :: tb ++ [[41]]).take p).foldl pU (some k) = some j ∧ k + 1 ≤ j := by
  have hop' : op ≠ [40] ∧ op ≠ [41] := by rcases hop with rfl | rfl <;> decide
  match p with
  | 0 =>
    simp at hu
    subst hu
    rcases huo with h | h <;> cases h
  | p + 1 =>
    rw [List.cons_append, List.cons_append, List.getElem?_cons_succ] at hu
    rw [List.cons_append, List.cons_append, List.take_succ_cons, List.foldl_cons, pU_open]
    rcases Nat.lt_trichotomy p ta.length with h | h | h
    · rw [List.append_assoc, List.getElem?_append_left h] at hu
      rw [List.append_assoc, List.take_append_of_le_length (Nat.le_of_lt h)]
      obtain ⟨j, h1, h2⟩ := ia p u (k + 1) (by omega) hu huo
      exact ⟨j, h1, by omega⟩
    · subst h
      rw [List.append_assoc, List.take_append_of_le_length (Nat.le_refl _), List.take_length, ha _ (by omega)]
      exact ⟨_, rfl, Int.le_refl _⟩
    · obtain ⟨q, rfl⟩ : ∃ q, p = ta.length + (q + 1) := ⟨p - ta.length - 1, by omega⟩
      rw [List.append_assoc, List.getElem?_append_right (by omega), show ta.length + (q + 1) - ta.length = q + 1 by omega, List.cons_append, List.getElem?_cons_succ] at hu
      rw [List.append_assoc, List.take_append, List.foldl_append, List.take_of_length_le (by omega), ha _ (by omega), show ta.length + (q + 1) - ta.length = q + 1 by omega, List.cons_append, List.take_succ_cons, List.foldl_cons, pU_no hop'.1 hop'.2]
      rcases Nat.lt_or_ge q tb.length with h2 | h2
      · rw [List.getElem?_append_left h2] at hu
        rw [List.take_append_of_le_length (Nat.le_of_lt h2)]
        obtain ⟨j, h3, h4⟩ := ib q u (k + 1) (by omega) hu huo
        exact ⟨j, h3, by omega⟩
      · rw [List.getElem?_append_right h2] at hu
        have hq : q - tb.length = 0 := by
          have := (List.getElem?_eq_some_iff.mp hu).1
          simp at this; omega
        rw [hq] at hu
        simp at hu
        subst hu
        rcases huo with h | h <;> cases h
theorem foldOp : ∀ (n : Net) (p : Nat) (u : List Nat) (k : Int), 0 ≤ k → (T n)[p]? = some u → (u = [43] ∨ u = [124]) → ∃ j, ((T n).take p).foldl pU (some k) = some j ∧ k + 1 ≤ j
  | .wire r j, p, u, k, hk, hu, huo => by
    have hm := List.mem_of_getElem? hu
    have := wire_fold r j u hm
    rcases huo with h | h
    · exact absurd h this.2.2.1
    · exact absurd h this.2.2.2
  | .ser a b, p, u, k, hk, hu, huo => foldOp_bin (.inl rfl) (foldT a) (fun p u k h1 h2 h3 => foldOp a p u k h1 h2 h3) (fun p u k h1 h2 h3 => foldOp b p u k h1 h2 h3) p u k hk hu huo
  | .par a b, p, u, k, hk, hu, huo => foldOp_bin (.inr rfl) (foldT a) (fun p u k h1 h2 h3 => foldOp a p u k h1 h2 h3) (fun p u k h1 h2 h3 => foldOp b p u k h1 h2 h3) p u k hk hu huo
theorem tok_op {u : List Nat} (hu : u ∈ unitsAll) : (tokN u = some 14 → u = [43]) ∧ (tokN u = some 18 → u = [124]) := by
  revert u; decide
/-- how far _law_lay scans -/
def lim : Net → Nat
  | .wire r k => (T (.wire r k)).length
  | .ser a _ => 1 + (T a).length
  | .par a _ => 1 + (T a).length
theorem scan_no {n : Net} {i : Nat} {u : List Nat} (hi : i < lim n) (hu : (T n)[i]? = some u) (hop : u = [43] ∨ u = [124]) : checkL (((T n).take i).flatten ++ [41]) = false := by
  have e : ((T n).take i).flatten ++ [41] = ((T n).take i ++ [[41]]).flatten := by simp
  have hall : ∀ v ∈ (T n).take i ++ [[41]], v ∈ unitsAll := by
    intro v hv
    rcases List.mem_append.mp hv with hv | hv
    · exact T_all n v (List.mem_of_mem_take hv)
    · rw [List.mem_singleton.mp hv]; decide
  rw [e, check_plain hall, List.foldl_append]
  have bin : ∀ (a : Net) (op : List Nat) (tb : List (List Nat)), ([40] :: T a ++ op :: tb ++ [[41]])[i]? = some u → i < 1 + (T a).length → ([[41]].foldl pU ((([40] :: T a ++ op :: tb ++ [[41]]).take i).foldl pU (some 0)) == some 0) = false := by
    intro a op tb hu hi
    match i, hi with
    | 0, _ =>
      simp at hu
      subst hu
      rcases hop with h | h <;> cases h
    | i + 1, hi =>
      have hi' : i < (T a).length := by omega
      rw [List.cons_append, List.cons_append, List.getElem?_cons_succ, List.append_assoc, List.getElem?_append_left hi'] at hu
      rw [List.cons_append, List.cons_append, List.take_succ_cons, f_open, List.append_assoc, List.take_append_of_le_length (Nat.le_of_lt hi')]
      obtain ⟨j, h1, h2⟩ := foldOp a i u (0 + 1) (by omega) hu hop
      rw [h1, show j = (j - 1) + 1 by omega, f_close (by omega)]
      refine beq_eq_false_iff_ne.mpr fun q => ?_
      injection q with q
      omega
  cases n with
  | wire r k =>
    have := wire_fold r k u (List.mem_of_getElem? hu)
    rcases hop with h | h
    · exact absurd h this.2.2.1
    · exact absurd h this.2.2.2
  | ser a b => exact bin a _ _ hu hi
  | par a b => exact bin a _ _ hu hi
theorem scan_yes (a : Net) (op : List Nat) (tb : List (List Nat)) : checkL ((([40] :: T a ++ op :: tb ++ [[41]]).take (1 + (T a).length)).flatten ++ [41]) = true := by
  have e0 : ([40] :: T a ++ op :: tb ++ [[41]]).take (1 + (T a).length) = [40] :: T a := by
    rw [Nat.add_comm, List.cons_append, List.cons_append, List.take_succ_cons, List.append_assoc, List.take_append_of_le_length (Nat.le_refl _), List.take_length]
  have e : ([40] :: T a).flatten ++ [41] = ([40] :: T a ++ [[41]]).flatten := by simp
  rw [e0, e, check_plain, List.foldl_append, f_open, foldT a _ (by omega), f_close (by omega)]
  · rfl
  · intro v hv
    rcases List.mem_append.mp hv with hv | hv
    · rcases List.mem_cons.mp hv with rfl | hv
      · decide
      · exact T_all a v hv
    · rw [List.mem_singleton.mp hv]; decide
end Mine
end

section
open PySem PySem.W PySem.Calls PyProof.Rows PySem.Builtin PySem.Builtin.Str
set_option maxRecDepth 100000
set_option maxHeartbeats 4000000
namespace Mine
local macro_rules | `(tactic| walk_at "my_enter") => `(tactic| (
  (case k6 => k_is); (case k7 => k_is); (case k9 => exact BindsTo.of_eq rfl); (case kB => exact locs rfl); (case c2 => exact rfl); (case c3 => exact rfl); (case c4 => exact rfl); (case c5 => decide)))
def dictObj0 : Obj := { cls := .type "dict", data := .dict #[] }
section
variable {w : World} {A : Around} {E : Value → Shared → Prop} {s : Shared} {env : Env} {g g₀ : Heap} {L l e it : Addr} {led : Led} {m : Str → Option Value} {items : Array Value}
theorem Fx.addLed {h : Heap} {P : Addr} {o : Obj} (F : Fx g L led h m) (hP : h.get? P = some o) (hL : P ≠ L) (hg : g.get? P = none) (hl : P ∉ led.map (·.1)) : Fx g L ((P, o) :: led) h m :=
  ⟨F.ns, F.keep, F.off, fun p hp => by
    rcases List.mem_cons.mp hp with rfl | hp
    · exact ⟨hP, hL, hg⟩
    · exact F.at_ p hp, List.nodup_cons.mpr ⟨hl, F.nd⟩⟩
theorem empty_dict : dictObj0.IsDictOf (intKind PR w) [] := ⟨#[], 0, ⟨rfl, rfl, rfl⟩, rfl, fun _ he => by simp at he, .nil, .nil⟩
theorem dict1 {ke ve : Expr} {pos : Pos} {Q : Value → Shared → Prop} (F : Fx g L led s.heap m)
    (h : Fx g L ((s.heap.objs.size, dictObj0) :: led) (s.heap.push dictObj0) m → wpAny (model PR w) A (eval ke env) (fun kv s₁ => wpAny (model PR w) A (eval ve env) (fun vv s₂ => ∃ k t m', kv = .int k t ∧ Fx g L ((s.heap.objs.size, dictObj0) :: led) s₂.heap m' ∧
      (∀ h' o', Fx g L ((s.heap.objs.size, o') :: led) h' m' → o'.IsDictOf (intKind PR w) [(k, vv)] → Q (.ref s.heap.objs.size) { s₂ with heap := h', toks := s₂.toks + 1 })) E s₁) E { s with heap := s.heap.push dictObj0 }) :
    wpAny (model PR w) A (eval (.Dict [some ke] [ve] pos) env) Q E s := by
  refine wpAny_Dict_pairs (knd := intKind PR w) (pairs := [(eval ke env, do let x ← eval ve env; standAt pos; pure x)]) rfl (by simp) (by simp) ?_
  refine evalPairs_cons (wpAny_mono (h F.push) (fun kv s₁ h₁ => wpAny_bind (wpAny_mono h₁ (fun vv s₂ h₂ => wpAny_bind (wpAny_standAt (wpAny_pure (evalPairs_nil ?_)))) fun _ _ x => x)) fun _ _ x => x)
  obtain ⟨k, t, m', rfl, F', h'⟩ := h₂
  refine ⟨[(k, vv)], ⟨by show Value.isInt k (.int k t) = true; simp [Value.isInt], rfl, trivial⟩, Heap.dictOf_iff.mpr ⟨_, F'.here, empty_dict⟩, fun hh hd hs => ?_⟩
  obtain ⟨o', ho', hdo⟩ := Heap.dictOf_iff.mp hd
  exact h' hh o' (F'.upd hs ho') (by simpa [merged, stored] using hdo)
theorem item_neg1 {value slice : Expr} {u : Tok} {x : Value} {Q : Value → Shared → Prop} (hl : s.heap.IsList l items) (h1 : 1 ≤ items.size) (hx : items[items.size - 1]? = some x) (h : Q x s)
    (hs : subscripted slice false (.ref l) (.int (-1) u) = operate [.ref l, .int (-1) u] (getItem (.ref l) (.int (-1) u)) := by with_unfolding_all rfl) :
    wpAny (model PR w) A (subscriptTail value slice (.ref l) (.int (-1) u)) Q E s :=
  tail_any hl.typeIs slot_list_getitem.lookup (wpAny_getItem_list_neg hl (by decide) (by omega) (by decide) (by rw [show ((-1 : Int) + items.size).toNat = items.size - 1 by omega]; exact hx) h) hs
end
theorem for_start {w : World} {A : Around} {E : Value → Shared → Prop} {s : Shared} {env : Env} {target iter : Expr} {body : List Stmt} {pos : Pos} {Q : Flow → Shared → Prop}
    (h : ∀ R : Result → Shared → Prop, (∀ f s', Q f s' → R (.ok f) s') → wpAny (model PR w) A (eval iter env) (fun x s₀ => wpAny (model PR w) A (pyIter x) (fun it s₁ => codeAny (model PR w) A (.forLoop target it body [] env) R s₁) E s₀) E s)
    (hs : ∀ x, foldedSetIterable iter env x = pure x := by intro _; rfl) : wpAny (model PR w) A (exec (.For target iter body [] pos) env) Q E s := by
  refine wpAny_For (wpAny_mono (h (fun r s' => ∃ f, r = .ok f ∧ Q f s') fun f s' q => ⟨f, rfl, q⟩) (fun x s₀ h₀ => wpAny_mono h₀ (fun it s₁ h₁ => codeAny_mono h₁ fun r s' hx => ?_) fun _ _ e => e) fun _ _ e => e) hs
  obtain ⟨f, rfl, q⟩ := hx
  exact q
theorem forSR {w : World} {A : Around} {env : Env} {target : Expr} {it : Addr} {g₀ g : Heap} {n : Nat} {St : Nat → Led → Prop} {B : Nat → Heap → (Str → Option Value) → (Str → Option Value) → Prop} {s : Shared} {il led : Led} {m : Str → Option Value}
    (S : Source w A env target it g₀ n St B) (U : Nat → (Str → Option Value) → Heap → Led → Prop) {R : Result → Shared → Prop} {body : List Stmt}
    (F : Fx g env.locals (il ++ led) s.heap m) (h0g : Sub g₀ g) (hst : St 0 il) (h0 : U 0 m g led)
    (hmono : ∀ i m g g' led, Sub g g' → U i m g led → U i m g' led)
    (step : ∀ i m₁ m₂ g₂ il₂ led₁ (s₁ : Shared), i < n → Sub g g₂ → U i m₁ g₂ led₁ → B i g₂ m₁ m₂ → Fx g₂ env.locals (il₂ ++ led₁) s₁.heap m₂ → Rel s s₁ →
      wpAny (model PR w) A (execs body env) (TurnEnd U (fun f s' => R (.ok f) s') env.locals i g₂ il₂ s₁) (fun _ _ => False) s₁)
    (done : ∀ (s' : Shared) m' g' led', Sub g g' → U n m' g' led' → Fx g' env.locals led' s'.heap m' → Rel s s' → R (.ok .next) s') :
    codeAny (model PR w) A (.forLoop target (.ref it) body [] env) R s :=
  codeAny_mono (forS (Q := fun f s' => R (.ok f) s') S U F h0g hst h0 hmono step done) (fun r s' hx => by cases r with | ok f => exact hx | error e => exact hx.elim)
theorem eval_listcomp {w : World} {A : Around} {E : Value → Shared → Prop} {s : Shared} {env : Env} {elt target iter : Expr} {ifs : List Expr} {scope : Scope} {pos : Pos} {cl : List (Str × Addr)} {Q : Value → Shared → Prop}
    (h : wpAny (model PR w) A (eval iter env) (fun x s₁ => wpAny (model PR w) A (pyIter x) (fun it s₂ => BlockL w A E env elt target iter ifs scope pos cl none Q it s₂) E s₁) E s)
    (hclos : closureFor scope env = pure cl) (hkind : scope.kind = .function := by rfl) (hnames : ∀ x ∈ scope.names, x.2 = .local → scope.names.lookup x.1 = some .local := by decide)
    (hs : ∀ x, foldedSetIterable iter env x = pure x := by intro _; rfl) :
    wpAny (model PR w) A (eval (.ListComp elt [⟨target, iter, ifs, 0⟩] scope pos) env) Q E s := by
  rw [eval_ListComp]
  exact wpAny_comprehension_free (use := none) rfl hs hclos hkind hnames h
theorem at_lim {n : Net} {i : Nat} (hi : i = lim n) (hlt : i < (T n).length) : (∃ a b, n = .ser a b ∧ (T n)[i]? = some [43]) ∨ ∃ a b, n = .par a b ∧ (T n)[i]? = some [124] := by
  have bin : ∀ (ta tb : List (List Nat)) (op : List Nat), ([40] :: ta ++ op :: tb ++ [[41]])[1 + ta.length]? = some op := by
    intro ta tb op
    rw [Nat.add_comm, List.cons_append, List.cons_append, List.getElem?_cons_succ, List.append_assoc, List.getElem?_append_right (Nat.le_refl _), Nat.sub_self]; rfl
  cases n with
  | wire r k => exact absurd hlt (by rw [hi]; exact Nat.lt_irrefl _)
  | ser a b => subst hi; exact .inl ⟨a, b, rfl, bin _ _ _⟩
  | par a b => subst hi; exact .inr ⟨a, b, rfl, bin _ _ _⟩
/-- two parts of a heap, put together -/
theorem uni2 {g gf h : Heap} (hg : Sub g h) (hf : Sub gf h) : ∃ g', Sub g g' ∧ Sub gf g' ∧ Sub g' h ∧ ∀ b x, g'.get? b = some x → g.get? b = some x ∨ gf.get? b = some x := by
  refine ⟨hideAll h ((List.range h.objs.size).filter fun b => (g.get? b).isNone && (gf.get? b).isNone), fun b o e => hideAll_get _ (hg _ _ e) fun hm => ?_, fun b o e => hideAll_get _ (hf _ _ e) fun hm => ?_, fun b o e => of_hideAll _ e, fun b x e => ?_⟩
  · have := (List.mem_filter.mp hm).2
    rw [e] at this; simp at this
  · have := (List.mem_filter.mp hm).2
    rw [e] at this; simp at this
  · have e' := of_hideAll _ e
    cases q : g.get? b with
    | some o => left; rw [hg _ _ q] at e'; exact e'
    | none =>
      cases q' : gf.get? b with
      | some o => right; rw [hf _ _ q'] at e'; exact e'
      | none =>
        rw [hideAll_none _ (List.mem_filter.mpr ⟨List.mem_range.mpr (Heap.lt_size e'), by rw [q, q']; rfl⟩)] at e; cases e
theorem freshOf_subR {h h' : Heap} : Sub (freshOf h h') h' := fun _ _ e => (freshOf_of e).1
/-- what _law_lay does with a net -/
def LayP (w : World) (n : Net) : Prop := ∀ (A : Around) (s : Shared) (Q E : Value → Shared → Prop) (g : Heap) (P lu : Addr) (items : Array Value) (us : List (Nat × List Nat)) (l r : Int) (tl tr : Tok) (o : Obj) (kvs : List (Int × Value)) (prof : Prof) (K : Nat),
  A.handled = none → A.depth + 8 + dep n < recursionLimit → Wd w g → Sub g s.heap → s.heap.get? P = some o → g.get? P = none → sysModules < P → o.IsDictOf (intKind PR w) kvs → Kvs (EntAt w g) kvs prof →
  g.IsList lu items → All2 (UnitAt g) items.toList us → us.map (·.2) = T n → Bnd K prof → K + 2 * nw n ≤ 900 → nw n ≤ 100 →
  (∀ s' g' o' kvs', Sub g g' → Sub g' s'.heap → (∀ b x, g'.get? b = some x → g.get? b = some x ∨ s.heap.get? b = none) → s'.heap.get? P = some o' → o'.IsDictOf (intKind PR w) kvs' → Kvs (EntAt w g') kvs' (layN n (us.map (·.1)) l r prof) →
    (∀ b x, b ≠ P → s.heap.get? b = some x → s'.heap.get? b = some x) → Rel s s' → Q .none s') →
  wpAny (model PR w) A (call (.ref 97) [.ref P, .ref lu, .int l tl, .int r tr]) Q E s
theorem lay_sub {w : World} {n : Net} (IH : LayP w n) {A : Around} {s : Shared} {Q E : Value → Shared → Prop} {g₃ gp h₈ : Heap} {L R P : Addr} {its : Array Value} {X : Led} {m : Str → Option Value} {us : List (Nat × List Nat)} {l r : Int} {tl tr : Tok} {o : Obj} {kvs : List (Int × Value)} {prof : Prof} (K : Nat)
    (hh : A.handled = none) (hd : A.depth + 8 + dep n < recursionLimit) (F : Fx g₃ L ((R, lstObj its 0) :: X ++ [(P, o)]) s.heap m) (hs₉ : Sub h₈ s.heap) (hR₁ : h₈.get? R = none) (hgs₈ : Sub gp h₈) (Wp : Wd w gp) (hgpP : gp.get? P = none) (hP₈ : h₈.get? P = some o)
    (lowP : sysModules < P) (ho : o.IsDictOf (intKind PR w) kvs) (hk : Kvs (EntAt w gp) kvs prof) (hits : All2 (UnitAt gp) its.toList us) (hT : us.map (·.2) = T n) (bnd : Bnd K prof) (hK : K + 2 * nw n ≤ 900) (hn : nw n ≤ 100)
    (h : ∀ s' g' o' kvs', Sub gp g' → Sub g' s'.heap → (∀ b x, g'.get? b = some x → gp.get? b = some x ∨ h₈.get? b = none) → g'.get? P = none → s'.heap.get? P = some o' → o'.IsDictOf (intKind PR w) kvs' → Kvs (EntAt w g') kvs' (layN n (us.map (·.1)) l r prof) →
      (∀ b x, b ≠ P → s.heap.get? b = some x → s'.heap.get? b = some x) → Fx g₃ L ((R, lstObj its 0) :: X ++ [(P, o')]) s'.heap m → Rel s s' → Q .none s') :
    wpAny (model PR w) A (call (.ref 97) [.ref P, .ref R, .int l tl, .int r tr]) Q E s := by
  obtain ⟨gq, hpq, hfq, hqs, hor⟩ := uni2 (g := gp) (gf := freshOf h₈ s.heap) (hgs₈.trans hs₉) freshOf_subR
  have F' := F.perm (List.perm_append_comm (l₁ := [(P, o)]) (l₂ := (R, lstObj its 0) :: X))
  have hP9 : s.heap.get? P = some o := F'.here
  have hR9 : s.heap.get? R = some (lstObj its 0) := F.get (.head _)
  have hor' : ∀ b x, gq.get? b = some x → gp.get? b = some x ∨ h₈.get? b = none := fun b x e => (hor b x e).imp id fun e' => (freshOf_of e').2
  have hnP : ∀ g' : Heap, (∀ b x, g'.get? b = some x → gp.get? b = some x ∨ h₈.get? b = none) → g'.get? P = none := by
    intro g' hg'
    cases q : g'.get? P with
    | none => rfl
    | some x =>
      rcases hg' _ _ q with e | e
      · rw [hgpP] at e; cases e
      · rw [hP₈] at e; cases e
  refine IH A s Q E gq P R its us l r tl tr o kvs prof K hh hd (Wp.keeps hpq) hqs hP9 (hnP _ hor') lowP ho (hk.mono fun a b x => ⟨x.1, x.2.sub hpq⟩) ⟨_, hfq _ _ (freshOf_get hR9 hR₁), rfl, _, rfl⟩ (UnitAt.all hpq hits) hT bnd hK hn fun s' g' o' kvs' h1 h2 h3 h4 h5 h6 h7 h8 => ?_
  have h3' : ∀ b x, g'.get? b = some x → gp.get? b = some x ∨ h₈.get? b = none := fun b x e => by
    rcases h3 b x e with q | q
    · exact hor' b x q
    · exact .inr (none_of_sub hs₉ q)
  exact h s' g' o' kvs' (hpq.trans h1) h2 h3' (hnP _ h3') h4 h5 h6 h7 ((F'.updE h7 h4).perm (List.perm_append_comm (l₁ := (R, lstObj its 0) :: X) (l₂ := [(P, o')]))) h8
theorem wire_last (rr : Fin 6) (k : Fin 15) : 1 ≤ (T (.wire rr k)).length ∧ (T (.wire rr k))[(T (.wire rr k)).length - 1]? = some [sgn k] ∧ [sgn k] ∈ unitsAll ∧ tokN [sgn k] = some (wid k) := by
  revert rr k; decide
/-- the profile, while a wire is booked -/
def bk (prof : Prof) (l r wd : Int) : Nat → Prof
  | 0 => prof
  | 1 => book prof l r wd
  | _ => book (book prof l r wd) r l wd
theorem sub_ser (a b : Net) (op : List Nat) : (([40] :: T a ++ op :: T b ++ [[41]]).drop 1).take (T a).length = T a ∧ (([40] :: T a ++ op :: T b ++ [[41]]).drop (2 + (T a).length)).take (T b).length = T b := by
  constructor
  · simp
  · rw [show 2 + (T a).length = (T a).length + 1 + 1 by omega, List.cons_append, List.cons_append, List.drop_succ_cons, List.append_assoc, List.drop_append]
    simp
    rw [List.drop_eq_nil_of_le (by omega)]; simp
theorem lay_step {w : World} (n : Net) (IH : ∀ a b, n = .ser a b ∨ n = .par a b → LayP w a ∧ LayP w b) : LayP w n := by
  intro A s Q E gp P lu items us l r tl tr o kvs prof K hh hd W hs hP hgP lowP ho hk hl hu hT bnd hK hn100 h
  have hG0 : ∀ b x, b ≠ P → s.heap.get? b = some x → (hideAll s.heap [P]).get? b = some x := fun b x hb e => hideAll_get _ e (by simpa using hb)
  have hG0s : Sub (hideAll s.heap [P]) s.heap := fun b x e => of_hideAll _ e
  have hG0P : (hideAll s.heap [P]).get? P = none := hideAll_none _ (.head _)
  have hgG : Sub gp (hideAll s.heap [P]) := fun b x e => hG0 b x (fun q => by rw [q, hgP] at e; cases e) (hs _ _ e)
  generalize hideAll s.heap [P] = g at hG0 hG0s hG0P hgG
  have Wp := W
  have hsp := hs
  have hgpP := hgP
  replace W := W.keeps hgG
  replace hs := hG0s
  replace hgP := hG0P
  have hlp := hl
  have hup := hu
  replace hl : g.IsList lu items := hl.at fun o e => hgG _ _ e
  replace hu : All2 (UnitAt g) items.toList us := UnitAt.all hgG hu
  obtain ⟨tf, htf, htok⟩ := tok_map W
  refine' enterX (binds := [(Str.ofString "profile", .ref P), (Str.ofString "units", .ref lu), (Str.ofString "left", .int l tl), (Str.ofString "right", .int r tr)]) W hs ?k6 ?k7 (by omega) ?k9 ?kB ?_ ?c2 ?c3 ?c4 ?c5
  walk_at "my_enter"
  intro h₁ L hL hs₁ F
  have hPL : P ≠ L := fun q => by rw [q, hL, get_size] at hP; cases hP
  have F := F.addLed (hs₁ _ _ hP) hPL hgP (by simp)
  have hlen : items.size = (T n).length := by
    have := hu.length
    rw [← hT, List.length_map, ← this, Array.length_toList]
  have hTl := T_len n
  refine wpAny_execs_cons ?_
  refine for_enumU (P := fun i a b => ∃ u k0 k1, us[i]? = some u ∧ a = .int u.1 k0 ∧ b = .str ⟨u.2.toArray⟩ k1) (fun i m g' led => led = [(P, o)] ∧ i ≤ lim n ∧ Sub g g' ∧ m (Str.ofString "profile") = some (.ref P) ∧ m (Str.ofString "units") = some (.ref lu) ∧ m (Str.ofString "left") = some (.int l tl) ∧ m (Str.ofString "right") = some (.int r tr))
    hh F W hl ?_ (fun Q' hq => nm (s := { s with heap := h₁, toks := _ }) F rfl hq) ⟨rfl, Nat.zero_le _, fun _ _ e => e, rfl, rfl, rfl, rfl⟩ (fun i m g g' led hs hU => ⟨hU.1, hU.2.1, hU.2.2.1.trans hs, hU.2.2.2⟩) ?_ ?_
  · intro i v hv
    rw [← Array.getElem?_toList] at hv
    obtain ⟨u, hu1, t, k0, k1, rfl, ht⟩ := hu.get hv
    exact ⟨t, _, _, rfl, ht, u, k0, k1, hu1, rfl, rfl⟩
  · rintro i a b tk m₁ g₂ il₂ led₁ s₁ hlt ⟨u, k0, k1, hui, rfl, rfl⟩ hg₂ ⟨rfl, hi, hs₂, hm1, hm2, hm3, hm4⟩ F hr
    have hTi : (T n)[i]? = some u.2 := by rw [← hT, List.getElem?_map, hui]; rfl
    have huA := T_all n u.2 (List.mem_of_getElem? hTi)
    have htk := htok u.2 huA
    have hmap := htf
    refine wpAny_execs_cons (wpAny_Assign_Name ?_)
    refine dget2 (knd := strKind PR w) (f := tf) (d := 85) (by decide) (htf _ (hg₂.trans F.toSub)) (fun Q' hq => glb F (W.keeps hg₂) (by k_is) hq) ?_
    refine nm F rfl (wpAny_Constant_int ⟨⟨u.2.toArray⟩, tf, strKind_is _ _ _ _, htf _ (hg₂.trans F.toSub), ?_⟩)
    have hnum : ∃ t, (tf ⟨u.2.toArray⟩).getD (.int 0 s₁.toks) = .int ((tokN u.2).getD 0) t := by
      cases hq : tokN u.2 with
      | none => rw [hq] at htk; rw [htk]; exact ⟨_, rfl⟩
      | some z => rw [hq] at htk; obtain ⟨t, ht⟩ := htk; rw [ht]; exact ⟨_, rfl⟩
    obtain ⟨tn, hnum⟩ := hnum
    rw [hnum]
    refine sto (s := { s₁ with toks := _ }) F fun h₃ F => ?_
    have next : ∀ (s₄ : Shared) g₄ m₄, Sub g₂ g₄ → Fx g₄ L (il₂ ++ [(P, o)]) s₄.heap m₄ → Rel s₁ s₄ → i < lim n → m₄ (Str.ofString "profile") = some (.ref P) → m₄ (Str.ofString "units") = some (.ref lu) → m₄ (Str.ofString "left") = some (.int l tl) → m₄ (Str.ofString "right") = some (.int r tr) →
        Rel s₁ s₄ ∧ ∃ m₃ g₃ led₃, Sub g₂ g₃ ∧ Fx g₃ L (il₂ ++ led₃) s₄.heap m₃ ∧ led₃ = [(P, o)] ∧ i + 1 ≤ lim n ∧ Sub g g₃ ∧ m₃ (Str.ofString "profile") = some (.ref P) ∧ m₃ (Str.ofString "units") = some (.ref lu) ∧ m₃ (Str.ofString "left") = some (.int l tl) ∧ m₃ (Str.ofString "right") = some (.int r tr) :=
      fun s₄ g₄ m₄ h1 h2 h3 h4 h5 h6 h7 h8 => ⟨h3, m₄, g₄, _, h1, h2, rfl, h4, hg₂.trans h1, h5, h6, h7, h8⟩
    refine wpAny_execs_cons (wpAny_If (isTrue_and (wpAny_isTrue_Compare1 (nm (s := { s₁ with heap := h₃, toks := _ }) F rfl ?_))))
    refine wpAny_Tuple (wpAny_items_cons (wpAny_Constant_int (wpAny_items_cons (wpAny_Constant_int (wpAny_items_nil ⟨by show (2 : Nat) ≤ sizeLine; rw [sizeLine_eq]; omega, ?_⟩)))))
    refine in_tuple_ints (ns := [14, 18]) ⟨_, Heap.get?_push_size _ rfl, rfl, 0, rfl⟩ (.cons _ _ (.cons _ _ .nil)) (wpAny_truthy_bool ?_)
    have F := F.ext (Sub.push h₃ { cls := .type "tuple", data := .seq [Value.int 14 (s₁.toks + 1 + 1 + 1), Value.int 18 (s₁.toks + 1 + 1 + 1 + 1)].toArray })
    by_cases hop : tokN u.2 = some 14 ∨ tokN u.2 = some 18
    · have hop' : u.2 = [43] ∨ u.2 = [124] := hop.imp (tok_op huA).1 (tok_op huA).2
      have hany : (([14, 18] : List Int).any fun x => x == (tokN u.2).getD 0) = true := by rcases hop with q | q <;> rw [q] <;> rfl
      rw [hany]
      refine (if_pos rfl).mpr ?_
      have hl₂ : g₂.IsList lu items := hl.at fun o e => hg₂ _ _ e
      have hisz : items.size ≤ 1000 := by rw [hlen]; omega
      refine isTrue_and (wpAny_isTrue_value (fcall (s := { s₁ with heap := _, toks := _ }) F (W.keeps hg₂) (by k_is) (by k_is) ?_))
      refine wpAny_items_cons (wpAny_BinOp (mcallS PySem.F.plainAttrs_str PySem.F.slot_str_join PySem.F.type_str_join (wpAny_Constant_str ⟨typeIs_str _ _ _, fun a e => (nomatch e), ?_⟩)))
      refine evalArgs_plain (wpAny_items_cons (eval_listcomp (cl := []) ?lc ?cf))
      (case cf => exact closureFor_none (by decide))
      refine Subscript_Slice ?_
      refine nm (s := { s₁ with heap := _, toks := _ }) F hm2 (wpAny_Slice (wpAny_evalPart_none (wpAny_evalPart_some ?_)))
      refine nm (s := { s₁ with heap := _, toks := _ }) F rfl (wpAny_evalPart_none ?_)
      refine sliceL (s := { s₁ with heap := _, toks := _ }) F hl₂ .none (.int _ _) hisz fun h₅ R hs₅ hR F => ?_
      obtain ⟨g₃, F, hg₃, hR3⟩ := F.still
      rw [slicePick_upto'] at hR3
      refine wpAny_pyIter_list ⟨_, F.keep _ _ hR3, rfl, _, rfl⟩ ?_
      have F := F.push (o := listItObj R 0)
      have htake : ∀ (j : Nat) (v : Value), (items.toList.take i).toArray[j]? = some v → ∃ t a b, v = .ref t ∧ g₃.IsTuple t #[a, b] ∧ ∃ k, StrV b k ∧ ((T n).take i)[j]? = some k := by
        intro j v hv
        rw [List.getElem?_toArray] at hv
        obtain ⟨u', hu', t, k0, k1, rfl, ht⟩ := (hu.take i).get hv
        refine ⟨t, _, _, rfl, IsTuple.sub ht (hg₂.trans hg₃), u'.2, ⟨_, rfl⟩, ?_⟩
        rw [← hT, ← List.map_take, List.getElem?_map, hu']; rfl
      refine blockL (s₂ := { s₁ with heap := _, toks := _ }) (il := [_]) (led₂ := il₂ ++ [(P, o)]) (N := (items.toList.take i).toArray.size) (g₂ := g₃) (St := fun i il => ∃ o : Obj, il = [(_, o)] ∧ o.cls = .type "list_iterator" ∧ o.data = .fields #[.ref R, .int i 0])
        (fun j xs => All2 StrV xs.toList (((T n).take i).take j)) F (fun C => Source.pairs (P := fun j _ b => ∃ k, StrV b k ∧ ((T n).take i)[j]? = some k) hh ⟨_, hR3, rfl, _, rfl⟩ htake rfl rfl rfl)
        (fun s' G C led' m' F' Q' E' hq => wpAny_pyIter_listiter ⟨_, F'.here, rfl, rfl⟩ hq) ⟨_, rfl, rfl, rfl⟩ .nil ?_ ?_ ?_ ?_ (by decide) rfl
      · have : (items.toList.take i).toArray.size ≤ items.size := by simp; omega
        omega
      · intro j xs hx
        have := hx.length
        rw [Array.length_toList, List.length_take] at this
        omega
      · rintro C D j m₅ m₆ G₂ il₅ its nn s₅ hj hgG hled hP ⟨a, b, ⟨k, hk, hkj⟩, rfl⟩ F₅ hr₅
        refine wpAny_tests_nil ((if_pos rfl).mpr ?_)
        refine nm F₅ rfl ⟨Rel.refl _, _, F₅, ?_⟩
        rw [Array.toList_push, List.take_add_one, hkj]
        exact hP.append (.cons hk .nil)
      · intro s₆ C D its nn mC hD hCn hDC hPa hnC hFx hCL hr₆
        refine ⟨mC, hnC, fun h₇ hs₇ => ?_⟩
        have F₇ := hFx h₇ hs₇
        have hsz : (items.toList.take i).toArray.size = i := by simp; omega
        rw [hsz, List.take_take, Nat.min_self] at hPa
        refine wpAny_items_nil ?_
        have hTk : ∀ u ∈ (T n).take i, u ∈ unitsAll := fun u hu => T_all n u (List.mem_of_mem_take hu)
        have hul : ∀ u ∈ unitsAll, u.length ≤ 2 := by decide
        have hsum : (((T n).take i).map List.length).sum ≤ 2 * i := by
          have : ∀ (l : List (List Nat)), (∀ u ∈ l, u ∈ unitsAll) → (l.map List.length).sum ≤ 2 * l.length := by
            intro l hl
            induction l with
            | nil => exact Nat.le_refl _
            | cons u r ih =>
              have h1 := hul u (hl u (.head _))
              have h2 := ih fun v hv => hl v (.tail _ hv)
              simp only [List.map_cons, List.sum_cons, List.length_cons]; omega
          have := this _ hTk
          rw [List.length_take] at this; omega
        refine join_list (s := { s₆ with heap := h₇ }) ⟨_, F₇.here, rfl, _, rfl⟩ (StrV.are hPa) ?_ fun t' k => ?_
        · rw [List.map_map, List.length_map, show (Str.ofString "").length = 0 from rfl, Nat.mul_zero, Nat.add_zero]
          have : (((T n).take i).map ((fun x => x.length) ∘ fun y => (⟨y.toArray⟩ : Str))) = ((T n).take i).map List.length := by
            refine List.map_congr_left fun y _ => ?_
            simp [Str.length]
          rw [this]; omega
        · rw [join_flat]
          have hflen : (((T n).take i).flatten).length ≤ 2 * i := by rw [List.length_flatten]; exact hsum
          have hstr : (⟨((T n).take i).flatten.toArray⟩ : Str) ++ Str.ofString ")" = ⟨(((T n).take i).flatten ++ [41]).toArray⟩ := by
            apply Str.ext'
            rw [Str.cps_append]
            show _ ++ #[41] = _
            simp
          have hslen : (⟨(((T n).take i).flatten ++ [41]).toArray⟩ : Str).length ≤ 2000 := by
            simp only [Str.length, List.size_toArray, List.length_append, List.length_singleton]; omega
          refine wpAny_Constant_str (add_str (hsz := by rw [← Str.length_append, hstr, sizeLine_eq]; omega) ?_)
          intro t₈ k₈
          rw [hstr]
          have hsub₇ : Sub g₂ h₇ := hg₃.trans F₇.toSub
          have hasc : (⟨(((T n).take i).flatten ++ [41]).toArray⟩ : Str).cps.all (· < 128) = true := by
            simp only [List.all_toArray, List.all_append, List.all_eq_true, Bool.and_eq_true, decide_eq_true_eq]
            refine ⟨fun c hc => ?_, by simp⟩
            obtain ⟨u', hu', hc'⟩ := List.mem_flatten.mp hc
            exact (unitsAll_34 u' (hTk u' hu')).2 c hc'
          refine wpAny_items_nil ⟨hsub₇, ?_⟩
          refine check_ok (s := { s₆ with heap := h₇, toks := k₈ }) (W.keeps (hg₂.trans hsub₇)) (deeper_ok (n := 3) (by omega)) hh _ t₈ hasc hslen fun s₈ hs₈ hr₈ => ?_
          have F₈ := F₇.ext hs₈
          have hr₁₈ : Rel s₁ s₈ := ⟨fun x => hr₈.gens (hr₆.gens x), hr₈.os.trans hr₆.os⟩
          refine wpAny_truthy_bool ?_
          rcases Nat.lt_or_ge i (lim n) with hlim | hlim
          · refine (if_neg (fun q => Bool.noConfusion ((scan_no hlim hTi hop').symm.trans q))).mpr ?_
            refine ite_neg Bool.false_ne_true (wpAny_execs_nil (wpAny_execs_nil ?_))
            exact next _ g₃ _ hg₃ (F₈.drop (List.sublist_cons_self _ _)) hr₁₈ hlim hm1 hm2 hm3 hm4
          · have hil := Nat.le_antisymm hi hlim
            have hcond : checkL (((T n).take i).flatten ++ [41]) = true := by
              rw [hil]
              cases n with
              | wire r k => exact absurd (hlen ▸ hlt) (by rw [hil]; exact Nat.lt_irrefl _)
              | ser a b => exact scan_yes a _ _
              | par a b => exact scan_yes a _ _
            refine (if_pos hcond).mpr (isTrue_and_nil (ite_pos rfl ?_))
            -- the net falls into two
            have F₈ := F₈.drop (List.sublist_cons_self _ _)
            have base : ∀ (lo hi : Nat) (v : Array Value), v = ((items.toList.drop lo).take hi).toArray → All2 (UnitAt g) v.toList ((us.drop lo).take hi) := by
              rintro lo hi v rfl
              exact (hu.drop lo).take hi
            have hP₈ := F₈.get (a := P) (o := o) (by simp)
            have hs₁₈ : Sub g s₈.heap := hg₂.trans (hg₃.trans F₈.toSub)
            have hs₁₈ : ∀ b x, b ≠ P → s.heap.get? b = some x → s₈.heap.get? b = some x := fun b x hb e => hs₁₈ b x (hG0 b x hb e)
            have hsn : ∀ b, s₈.heap.get? b = none → s.heap.get? b = none := fun b e => by
              cases q : s.heap.get? b with
              | none => rfl
              | some x =>
                by_cases hb : b = P
                · rw [hb, hP₈] at e; cases e
                · rw [hs₁₈ b x hb q] at e; cases e
            have hgs₈ : Sub gp s₈.heap := fun b x e => hs₁₈ b x (fun q => by rw [q, hgpP] at e; cases e) (hsp _ _ e)
            rcases at_lim hil (hlen ▸ hlt) with ⟨a, b, hn, e⟩ | ⟨a, b, hn, e⟩
            · have hu2 : u.2 = [43] := Option.some.inj (hTi.symm.trans e)
              subst hn
              obtain ⟨IHa, IHb⟩ := IH a b (.inl rfl)
              have hil' : i = 1 + (T a).length := hil
              refine wpAny_execs_cons (wpAny_If (wpAny_isTrue_Compare1 (nm (s := { s₈ with toks := _ }) F₈ rfl (wpAny_Constant_int (eq_int (wpAny_truthy_bool ?_))))))
              refine ite_pos (by rw [hu2]; rfl) ?_
              refine wpAny_execs_cons (wpAny_Expr (fcall (s := { s₈ with toks := _ }) F₈ (W.keeps (hg₂.trans hg₃)) (by k_is) (by k_is) ?_))
              refine wpAny_items_cons (nm (s := { s₈ with toks := _ }) F₈ hm1 (wpAny_items_cons (Subscript_Slice ?_)))
              refine nm (s := { s₈ with toks := _ }) F₈ hm2 (wpAny_Slice (wpAny_evalPart_some (wpAny_Constant_int (wpAny_evalPart_some ?_))))
              refine nm (s := { s₈ with toks := _ }) F₈ rfl (wpAny_evalPart_none ?_)
              refine sliceL (s := { s₈ with toks := _ }) F₈ (hl₂.at fun o e => hg₃ _ _ e) (.int _ _) (.int _ _) hisz fun h₉ R₁ hs₉ hR₁ F₉ => ?_
              refine wpAny_items_cons (nm (s := { s₈ with heap := h₉, toks := _ }) F₉ hm3 (wpAny_items_cons (nm F₉ rfl (wpAny_items_nil ⟨F₉.toSub, ?_⟩))))
              have hdep : dep (.ser a b) = dep a + dep b + 1 := rfl
              have hnw : nw (.ser a b) = nw a + nw b := rfl
              have hTl : (T (.ser a b)).length = 3 + (T a).length + (T b).length := by simp [T]; omega
              obtain ⟨hsub1, hsub2⟩ := sub_ser a b [43]
              have hi1 : i - 1 = (T a).length := by omega
              refine lay_sub IHa (s := { s₈ with heap := h₉, toks := _ }) (us := (us.drop 1).take (T a).length) K hh (by rw [Nat.add_assoc]; exact deeper_ok (n := 8 + dep a) (by omega)) F₉ hs₉ hR₁ hgs₈ Wp hgpP hP₈ lowP ho hk ?_ ?_ bnd (by omega) (by omega) fun sa ga oa kvsa ha1 ha2 ha3 ha4 ha5 ha6 ha7 ha8 Fa hra => ?_
              · have e1 := slicePick_run items 1 i (by omega) (by omega)
                rw [show ((1 : Nat) : Int) = 1 from rfl] at e1
                rw [e1, hi1]
                exact (hup.drop 1).take _
              · rw [List.map_take, List.map_drop, hT]; exact hsub1
              show wpAny _ _ _ _ _ _
              have hu1 : (us.map (·.1)).getD (1 + (T a).length) 0 = u.1 := by
                rw [← hil', List.getD_eq_getElem?_getD, List.getElem?_map, hui]; rfl
              refine wpAny_execs_cons (wpAny_Expr (fcall (s := sa) Fa (W.keeps (hg₂.trans hg₃)) (by k_is) (by k_is) ?_))
              refine wpAny_items_cons (nm (s := sa) Fa hm1 (wpAny_items_cons (Subscript_Slice ?_)))
              refine nm (s := sa) Fa hm2 (wpAny_Slice (wpAny_evalPart_some (wpAny_BinOp ?_)))
              refine nm (s := sa) Fa rfl (wpAny_Constant_int (add_int (wpAny_evalPart_some ?_)))
              refine wpAny_UnaryOp (wpAny_Constant_int (neg_int (wpAny_evalPart_none ?_)))
              refine sliceL (s := { sa with toks := _ }) Fa (hl₂.at fun o e => hg₃ _ _ e) (.int _ _) (.int _ _) hisz fun hb R₂ hsb hR₂ Fb => ?_
              refine wpAny_items_cons (nm (s := { sa with heap := hb, toks := _ }) Fb rfl (wpAny_items_cons (nm Fb hm4 (wpAny_items_nil ⟨Fb.toSub, ?_⟩))))
              refine lay_sub IHb (s := { sa with heap := hb, toks := _ }) (X := (R₁, _) :: il₂) (us := (us.drop (2 + (T a).length)).take (T b).length) (K + 2 * nw a) hh (by rw [Nat.add_assoc]; exact deeper_ok (n := 8 + dep b) (by omega)) Fb hsb hR₂ ha2 (Wp.keeps ha1) ha4 ha5 lowP ha6 ha7 ?_ ?_ (Bnd.lay a _ _ _ _ _ bnd) (by omega) (by omega) fun sb gb ob kvsb hb1 hb2 hb3 hb4 hb5 hb6 hb7 hb8 Fb' hrb => ?_
              · have e1 := slicePick_plain items (some ((i : Int) + 1)) (some (-1))
                rw [e1]
                have c1 : clipAt items.size ((i : Int) + 1) = 2 + (T a).length := by
                  rw [show (i : Int) + 1 = ((i + 1 : Nat) : Int) by omega, clipAt_nat]; omega
                have c2 : clipAt items.size (-1) = items.size - 1 := clipAt_neg items.size 1 (Nat.le_refl 1)
                simp only [Option.elim, c1, c2]
                rw [show items.size - 1 - (2 + (T a).length) = (T b).length by omega]
                exact UnitAt.all ha1 ((hup.drop _).take _)
              · rw [List.map_take, List.map_drop, hT]; exact hsub2
              show wpAny _ _ _ _ _ _
              refine wpAny_execs_nil (wpAny_execs_cons (wpAny_Return_none ?_))
              have hsan : ∀ b, sa.heap.get? b = none → s.heap.get? b = none := fun b e => by
                cases q : s.heap.get? b with
                | none => rfl
                | some x =>
                  by_cases hb : b = P
                  · rw [hb, ha5] at e; cases e
                  · rw [ha8 b x hb (hs₉ _ _ (hs₁₈ b x hb q))] at e; cases e
              have hlay : layN (.ser a b) (us.map (·.1)) l r prof = layN b (((us.drop (2 + (T a).length)).take (T b).length).map (·.1)) u.1 r (layN a (((us.drop 1).take (T a).length).map (·.1)) l u.1 prof) := by
                rw [List.map_take, List.map_drop, List.map_take, List.map_drop, ← hu1]; rfl
              refine h sb gb ob kvsb (ha1.trans hb1) hb2 (fun b x e => ?_) hb5 hb6 (by rw [hlay]; exact hb7) (fun b x hne e => hb8 b x hne (hsb _ _ (ha8 b x hne (hs₉ _ _ (hs₁₈ b x hne e))))) ⟨fun x => hrb.gens (hra.gens (hr₁₈.gens (hr.gens x))), hrb.os.trans (hra.os.trans (hr₁₈.os.trans hr.os))⟩
              rcases hb3 b x e with q | q
              · exact (ha3 b x q).imp id (hsn b)
              · exact .inr (hsan b q)
            · have hu2 : u.2 = [124] := Option.some.inj (hTi.symm.trans e)
              subst hn
              obtain ⟨IHa, IHb⟩ := IH a b (.inr rfl)
              have hil' : i = 1 + (T a).length := hil
              refine wpAny_execs_cons (wpAny_If (wpAny_isTrue_Compare1 (nm (s := { s₈ with toks := _ }) F₈ rfl (wpAny_Constant_int (eq_int (wpAny_truthy_bool ?_))))))
              refine ite_neg (by rw [hu2]; decide) ?_
              refine wpAny_execs_cons (wpAny_Expr (fcall (s := { s₈ with toks := _ }) F₈ (W.keeps (hg₂.trans hg₃)) (by k_is) (by k_is) ?_))
              refine wpAny_items_cons (nm (s := { s₈ with toks := _ }) F₈ hm1 (wpAny_items_cons (Subscript_Slice ?_)))
              refine nm (s := { s₈ with toks := _ }) F₈ hm2 (wpAny_Slice (wpAny_evalPart_some (wpAny_Constant_int (wpAny_evalPart_some ?_))))
              refine nm (s := { s₈ with toks := _ }) F₈ rfl (wpAny_evalPart_none ?_)
              refine sliceL (s := { s₈ with toks := _ }) F₈ (hl₂.at fun o e => hg₃ _ _ e) (.int _ _) (.int _ _) hisz fun h₉ R₁ hs₉ hR₁ F₉ => ?_
              refine wpAny_items_cons (nm (s := { s₈ with heap := h₉, toks := _ }) F₉ hm3 (wpAny_items_cons (nm F₉ hm4 (wpAny_items_nil ⟨F₉.toSub, ?_⟩))))
              have hdep : dep (.par a b) = dep a + dep b + 1 := rfl
              have hnw : nw (.par a b) = nw a + nw b := rfl
              have hTl : (T (.par a b)).length = 3 + (T a).length + (T b).length := by simp [T]; omega
              obtain ⟨hsub1, hsub2⟩ := sub_ser a b [124]
              have hi1 : i - 1 = (T a).length := by omega
              refine lay_sub IHa (s := { s₈ with heap := h₉, toks := _ }) (us := (us.drop 1).take (T a).length) K hh (by rw [Nat.add_assoc]; exact deeper_ok (n := 8 + dep a) (by omega)) F₉ hs₉ hR₁ hgs₈ Wp hgpP hP₈ lowP ho hk ?_ ?_ bnd (by omega) (by omega) fun sa ga oa kvsa ha1 ha2 ha3 ha4 ha5 ha6 ha7 ha8 Fa hra => ?_
              · have e1 := slicePick_run items 1 i (by omega) (by omega)
                rw [show ((1 : Nat) : Int) = 1 from rfl] at e1
                rw [e1, hi1]
                exact (hup.drop 1).take _
              · rw [List.map_take, List.map_drop, hT]; exact hsub1
              show wpAny _ _ _ _ _ _
              refine wpAny_execs_cons (wpAny_Expr (fcall (s := sa) Fa (W.keeps (hg₂.trans hg₃)) (by k_is) (by k_is) ?_))
              refine wpAny_items_cons (nm (s := sa) Fa hm1 (wpAny_items_cons (Subscript_Slice ?_)))
              refine nm (s := sa) Fa hm2 (wpAny_Slice (wpAny_evalPart_some (wpAny_BinOp ?_)))
              refine nm (s := sa) Fa rfl (wpAny_Constant_int (add_int (wpAny_evalPart_some ?_)))
              refine wpAny_UnaryOp (wpAny_Constant_int (neg_int (wpAny_evalPart_none ?_)))
              refine sliceL (s := { sa with toks := _ }) Fa (hl₂.at fun o e => hg₃ _ _ e) (.int _ _) (.int _ _) hisz fun hb R₂ hsb hR₂ Fb => ?_
              refine wpAny_items_cons (nm (s := { sa with heap := hb, toks := _ }) Fb hm3 (wpAny_items_cons (nm Fb hm4 (wpAny_items_nil ⟨Fb.toSub, ?_⟩))))
              refine lay_sub IHb (s := { sa with heap := hb, toks := _ }) (X := (R₁, _) :: il₂) (us := (us.drop (2 + (T a).length)).take (T b).length) (K + 2 * nw a) hh (by rw [Nat.add_assoc]; exact deeper_ok (n := 8 + dep b) (by omega)) Fb hsb hR₂ ha2 (Wp.keeps ha1) ha4 ha5 lowP ha6 ha7 ?_ ?_ (Bnd.lay a _ _ _ _ _ bnd) (by omega) (by omega) fun sb gb ob kvsb hb1 hb2 hb3 hb4 hb5 hb6 hb7 hb8 Fb' hrb => ?_
              · have e1 := slicePick_plain items (some ((i : Int) + 1)) (some (-1))
                rw [e1]
                have c1 : clipAt items.size ((i : Int) + 1) = 2 + (T a).length := by
                  rw [show (i : Int) + 1 = ((i + 1 : Nat) : Int) by omega, clipAt_nat]; omega
                have c2 : clipAt items.size (-1) = items.size - 1 := clipAt_neg items.size 1 (Nat.le_refl 1)
                simp only [Option.elim, c1, c2]
                rw [show items.size - 1 - (2 + (T a).length) = (T b).length by omega]
                exact UnitAt.all ha1 ((hup.drop _).take _)
              · rw [List.map_take, List.map_drop, hT]; exact hsub2
              show wpAny _ _ _ _ _ _
              refine wpAny_execs_nil (wpAny_execs_cons (wpAny_Return_none ?_))
              have hsan : ∀ b, sa.heap.get? b = none → s.heap.get? b = none := fun b e => by
                cases q : s.heap.get? b with
                | none => rfl
                | some x =>
                  by_cases hb : b = P
                  · rw [hb, ha5] at e; cases e
                  · rw [ha8 b x hb (hs₉ _ _ (hs₁₈ b x hb q))] at e; cases e
              have hlay : layN (.par a b) (us.map (·.1)) l r prof = layN b (((us.drop (2 + (T a).length)).take (T b).length).map (·.1)) l r (layN a (((us.drop 1).take (T a).length).map (·.1)) l r prof) := by
                rw [List.map_take, List.map_drop, List.map_take, List.map_drop]; rfl
              refine h sb gb ob kvsb (ha1.trans hb1) hb2 (fun b x e => ?_) hb5 hb6 (by rw [hlay]; exact hb7) (fun b x hne e => hb8 b x hne (hsb _ _ (ha8 b x hne (hs₉ _ _ (hs₁₈ b x hne e))))) ⟨fun x => hrb.gens (hra.gens (hr₁₈.gens (hr.gens x))), hrb.os.trans (hra.os.trans (hr₁₈.os.trans hr.os))⟩
              rcases hb3 b x e with q | q
              · exact (ha3 b x q).imp id (hsn b)
              · exact .inr (hsan b q)
    · have hany : (([14, 18] : List Int).any fun x => x == (tokN u.2).getD 0) = false := by
        cases hq : tokN u.2 with
        | none => rfl
        | some z =>
          rw [hq] at hop
          have h1 : z ≠ 14 := fun e => hop (.inl (by rw [e]))
          have h2 : z ≠ 18 := fun e => hop (.inr (by rw [e]))
          simp [Ne.symm h1, Ne.symm h2]
      rw [hany]
      refine (if_neg Bool.false_ne_true).mpr ?_
      refine ite_neg Bool.false_ne_true (wpAny_execs_nil (wpAny_execs_nil ?_))
      refine next _ g₂ _ (fun _ _ e => e) F Rel.same ?_ hm1 hm2 hm3 hm4
      rcases Nat.lt_or_ge i (lim n) with q | q
      · exact q
      · exfalso
        rcases at_lim (Nat.le_antisymm hi q) (hlen ▸ hlt) with ⟨a, b, _, e⟩ | ⟨a, b, _, e⟩
        · rw [hTi] at e; injection e with e; rw [e] at hop; exact hop (.inl rfl)
        · rw [hTi] at e; injection e with e; rw [e] at hop; exact hop (.inr rfl)
  · rintro s₁ m' g₂ led' hg₂ ⟨rfl, hi, hs₂, hm1, hm2, hm3, hm4⟩ F hr
    have hwire : ∃ rr k, n = .wire rr k := by
      cases n with
      | wire rr k => exact ⟨rr, k, rfl⟩
      | ser a b =>
        have h1 : items.size ≤ 1 + (T a).length := hi
        have h2 : (T (.ser a b)).length = 3 + (T a).length + (T b).length := by simp [T]; omega
        omega
      | par a b =>
        have h1 : items.size ≤ 1 + (T a).length := hi
        have h2 : (T (.par a b)).length = 3 + (T a).length + (T b).length := by simp [T]; omega
        omega
    obtain ⟨rr, k, rfl⟩ := hwire
    obtain ⟨hl1, hl2, hl3, hl4⟩ := wire_last rr k
    obtain ⟨u, hul, hu2⟩ : ∃ u, us[items.size - 1]? = some u ∧ u.2 = [sgn k] := by
      rw [← hT, List.getElem?_map, hT, ← hlen] at hl2
      obtain ⟨u, h1, h2⟩ := Option.map_eq_some_iff.mp hl2
      exact ⟨u, h1, h2⟩
    obtain ⟨v, hv, t, k0, k1, rfl, ht⟩ := hu.get' hul
    rw [Array.getElem?_toList] at hv
    have htk := htok _ hl3
    rw [hl4] at htk
    obtain ⟨tk, htk⟩ := htk
    refine wpAny_execs_cons (wpAny_Assign_Name (Subscript_ (glb (s := s₁) F (W.keeps hg₂) (by k_is) ?_)))
    refine Subscript_ (Subscript_ (nm (s := s₁) F hm2 (wpAny_UnaryOp (wpAny_Constant_int (neg_int ?_)))))
    refine item_neg1 (hl.at fun o e => (hg₂.trans F.toSub) _ _ e) (by omega) hv ?_
    refine wpAny_Constant_int (item_tupleT (j := 1) (l := [.int u.1 k0, .str ⟨u.2.toArray⟩ k1]) (IsTuple.sub ht (hg₂.trans F.toSub)) (by decide) (by decide) rfl rfl ?_)
    rw [hu2]
    have hmp := htf s₁.heap (hg₂.trans F.toSub)
    refine tail_any (s := { s₁ with toks := _ }) hmp.typeIs slot_dict_getitem.lookup (wpAny_getItem_of (strKind_is _ _ _ _) hmp htk ?_) (by with_unfolding_all rfl)
    refine sto (s := { s₁ with toks := _ }) F fun h₃ F => ?_
    have two : (2 : Nat) ≤ sizeLine := by rw [sizeLine_eq]; omega
    have five : (5 : Nat) ≤ sizeLine := by rw [sizeLine_eq]; omega
    refine wpAny_execs_cons (for_start fun R hR => ?_)
    refine wpAny_Tuple (wpAny_items_cons (wpAny_Tuple (wpAny_items_cons (nm (s := { s₁ with heap := h₃, toks := _ }) F hm3 (wpAny_items_cons (nm F hm4 (wpAny_items_nil ⟨two, ?_⟩)))))))
    have F := F.push (o := { cls := .type "tuple", data := .seq [Value.int l tl, Value.int r tr].toArray })
    obtain ⟨g₃, F, hg₃, ht1⟩ := F.still
    refine wpAny_items_cons (wpAny_Tuple (wpAny_items_cons (nm (s := { s₁ with heap := _, toks := _ }) F hm4 (wpAny_items_cons (nm F hm3 (wpAny_items_nil ⟨two, ?_⟩))))))
    have F := F.push (o := { cls := .type "tuple", data := .seq [Value.int r tr, Value.int l tl].toArray })
    obtain ⟨g₄, F, hg₄, ht2⟩ := F.still
    obtain ⟨t1, et1⟩ : ∃ t1, h₃.objs.size = t1 := ⟨_, rfl⟩
    rw [et1] at ht1
    replace ht1 := hg₄ _ _ ht1
    generalize hh4 : h₃.push { cls := .type "tuple", data := .seq [Value.int l tl, Value.int r tr].toArray } = h₄ at ht2 F ⊢
    generalize hh5 : h₄.push { cls := .type "tuple", data := .seq [Value.int r tr, Value.int l tl].toArray } = h₅ at F ⊢
    obtain ⟨t2, et2⟩ : ∃ t2, h₄.objs.size = t2 := ⟨_, rfl⟩
    rw [et2] at ht2
    refine wpAny_items_nil ⟨two, ?_⟩
    subst et1 et2
    have F := F.push (o := { cls := .type "tuple", data := .seq [Value.ref h₃.objs.size, Value.ref h₄.objs.size].toArray })
    obtain ⟨g₅, F, hg₅, ht3⟩ := F.still
    replace ht1 := hg₅ _ _ ht1
    replace ht2 := hg₅ _ _ ht2
    refine wpAny_pyIter_tuple ⟨_, F.keep _ _ ht3, rfl, 0, rfl⟩ ?_
    have F := F.push (o := tupItObj h₅.objs.size 0)
    subst hh5 hh4
    have hgg₅ : Sub g g₅ := hg₂.trans (hg₃.trans (hg₄.trans hg₅))
    refine forSR (s := { s₁ with heap := _, toks := _ }) (Source.tpairs (items := #[Value.ref h₃.objs.size, Value.ref (h₃.push { cls := .type "tuple", data := .seq [Value.int l tl, Value.int r tr].toArray }).objs.size]) (g₀ := g₅) (P := fun i a b => ∃ node bey ta tb, a = .int node ta ∧ b = .int bey tb ∧ bk prof l r (wid k) (i + 1) = book (bk prof l r (wid k) i) node bey (wid k)) ?hh ⟨_, ht3, rfl, 0, rfl⟩ ?tp ?ek ?ex ?ev)
      (fun i m g' led => ∃ o' kvs' gP, led = [(P, o')] ∧ o'.IsDictOf (intKind PR w) kvs' ∧ Sub gp gP ∧ (∀ b x, gP.get? b = some x → gp.get? b = some x ∨ s.heap.get? b = none) ∧ Kvs (EntAt w gP) kvs' (bk prof l r (wid k) i) ∧ Sub gP g' ∧ Sub g g' ∧ m (Str.ofString "profile") = some (.ref P) ∧ m (Str.ofString "width") = some (.int (wid k) tk))
      (il := [_]) (led := [(P, o)]) F (fun _ _ e => e) ⟨_, rfl, rfl, rfl⟩ ⟨o, kvs, gp, rfl, ho, fun _ _ e => e, fun b x e => .inl e, hk, hgG.trans hgg₅, hgg₅, hm1, rfl⟩
      (fun i m g' g'' led hs ⟨o', kvs', gP, h1, h2, h3, h4, h5, h6, h7, h8⟩ => ⟨o', kvs', gP, h1, h2, h3, h4, h5, h6.trans hs, h7.trans hs, h8⟩) (fun i m₁ m₂ g₆ il₂ led₁ s₂ hlt hg₆ hU hB F hr₂ => ?st) ?dn
    (case hh => exact hh)
    (case ek => rfl)
    (case ex => rfl)
    (case ev => rfl)
    (case tp =>
      intro i v hv
      match i, hv with
      | 0, hv => exact ⟨_, _, _, (Option.some.inj hv).symm, ⟨_, ht1, rfl, 0, rfl⟩, l, r, tl, tr, rfl, rfl, rfl⟩
      | 1, hv => exact ⟨_, _, _, (Option.some.inj hv).symm, ⟨_, ht2, rfl, 0, rfl⟩, r, l, tr, tl, rfl, rfl, rfl⟩
      | i + 2, hv => simp at hv)
    · obtain ⟨o', kvs', gP, rfl, ho', hpP, hfr, hkP, hPg, hgg₆, hm1, hm2⟩ := hU
      obtain ⟨av, bv, ⟨node, bey, ta, tb, rfl, rfl, hbk⟩, rfl⟩ := hB
      have hbd : Bnd (K + i) (bk prof l r (wid k) i) := by
        match i, hlt with
        | 0, _ => exact bnd
        | 1, _ => exact bnd.book _ _ _
        | i + 2, hlt => exact absurd (show i + 2 < 2 from hlt) (by omega)
      have hi2 : i < 2 := hlt
      have hP6 := F.get (a := P) (o := o') (by simp)
      have hmap : s₂.heap.MapOf (intKind PR w) P (valueAt kvs') := (Heap.dictOf_iff.mpr ⟨o', hP6, ho'⟩ : s₂.heap.DictOf (intKind PR w) P kvs').mapOf
      refine wpAny_execs_cons (wpAny_Assign_Name (dget2 (s := s₂) (knd := intKind PR w) (f := valueAt kvs') (d := P) (low_ne lowP) hmap (fun Q' hq => nm F hm1 hq) ?_))
      refine nm (s := s₂) F rfl (wpAny_Tuple (wpAny_items_cons (wpAny_Constant_int (wpAny_items_cons (wpAny_Constant_int (wpAny_items_cons (wpAny_Constant_int (wpAny_items_cons (wpAny_Constant_int (wpAny_items_cons (wpAny_Dict_empty (wpAny_items_nil ⟨five, ?_⟩))))))))))))
      have W₆ := W.keeps hgg₆
      have lowD : sysModules < s₂.heap.objs.size := modules_low (W₆.keeps F.toSub).nolimit
      have hd0 : (s₂.heap.push dictObj0).get? s₂.heap.objs.size = some dictObj0 := Heap.get?_push_size _ rfl
      have hd1 : ((s₂.heap.push dictObj0).push { cls := .type "tuple", data := .seq [Value.int 0 s₂.toks, Value.int 0 (s₂.toks + 1), Value.int 0 (s₂.toks + 1 + 1), Value.int 0 (s₂.toks + 1 + 1 + 1), Value.ref s₂.heap.objs.size].toArray }).get? s₂.heap.objs.size = some dictObj0 := Sub.push _ _ _ _ hd0
      have ht1' : ((s₂.heap.push dictObj0).push { cls := .type "tuple", data := .seq [Value.int 0 s₂.toks, Value.int 0 (s₂.toks + 1), Value.int 0 (s₂.toks + 1 + 1), Value.int 0 (s₂.toks + 1 + 1 + 1), Value.ref s₂.heap.objs.size].toArray }).get? (s₂.heap.push dictObj0).objs.size = some { cls := .type "tuple", data := .seq [Value.int 0 s₂.toks, Value.int 0 (s₂.toks + 1), Value.int 0 (s₂.toks + 1 + 1), Value.int 0 (s₂.toks + 1 + 1 + 1), Value.ref s₂.heap.objs.size].toArray } := Heap.get?_push_size _ rfl
      have htn : s₂.heap.get? (s₂.heap.push dictObj0).objs.size = none := none_of_sub (Sub.push s₂.heap dictObj0) (get_size _)
      obtain ⟨g₇, F, hg₇, hf₇⟩ := F.take (h' := (s₂.heap.push dictObj0).push { cls := .type "tuple", data := .seq [Value.int 0 s₂.toks, Value.int 0 (s₂.toks + 1), Value.int 0 (s₂.toks + 1 + 1), Value.int 0 (s₂.toks + 1 + 1 + 1), Value.ref s₂.heap.objs.size].toArray }) (gf := freshOf s₂.heap ((s₂.heap.push dictObj0).push { cls := .type "tuple", data := .seq [Value.int 0 s₂.toks, Value.int 0 (s₂.toks + 1), Value.int 0 (s₂.toks + 1 + 1), Value.int 0 (s₂.toks + 1 + 1 + 1), Value.ref s₂.heap.objs.size].toArray })) ((Sub.push _ _).trans (Sub.push _ _)) (fun b o e => freshOf_of e)
      have hP7 := F.get (a := P) (o := o') (by simp)
      refine ⟨node, valueAt kvs', by show Value.isInt node (.int node ta) = true; simp [Value.isInt], (Heap.dictOf_iff.mpr ⟨o', hP7, ho'⟩ : Heap.DictOf (intKind PR w) _ P kvs').mapOf, ?_⟩
      have hent : ∃ e0 : Ent, EntAt w g₇ ((valueAt kvs' node).getD (.ref (s₂.heap.push dictObj0).objs.size)) e0 ∧ e0.cs.length ≤ K + i ∧
          book (bk prof l r (wid k) i) node bey (wid k) = put (bk prof l r (wid k) i) node ⟨wid k + e0.wid, addC e0.cs [(bey, wid k)]⟩ := by
        rcases hkP.at? node with ⟨v, y, h1, h2, hv⟩ | ⟨h1, h2⟩
        · refine ⟨y, by rw [h1]; exact hv.sub (hPg.trans hg₇), hbd.2 _ (at_mem h2), ?_⟩
          unfold book; rw [h2]
        · refine ⟨⟨0, []⟩, ?_, Nat.zero_le _, ?_⟩
          · rw [h1]
            exact ⟨_, 0, 0, 0, s₂.heap.objs.size, _, _, _, _, rfl, ⟨_, hf₇ _ _ (freshOf_get ht1' htn), rfl, 0, rfl⟩, lowD, [], Heap.dictOf_iff.mpr ⟨_, hf₇ _ _ (freshOf_get hd1 (get_size _)), empty_dict⟩, .nil⟩
          · unfold book; rw [h2]
      obtain ⟨e0, hE0, he0, hbook⟩ := hent
      refine sto (s := { s₂ with heap := _, toks := _ }) F fun h₇ F => ?_
      have lowD7 : sysModules < h₇.objs.size := modules_low (W₆.keeps (hg₇.trans F.toSub)).nolimit
      replace W₆ := W₆.keeps hg₇
      refine wpAny_execs_cons (wpAny_Assign_Subscript (fcall (s := { s₂ with heap := h₇, toks := _ }) F W₆ (by k_is) (by k_is) ?_))
      refine wpAny_items_cons (nm (s := { s₂ with heap := h₇, toks := _ }) F rfl (wpAny_items_cons (wpAny_Tuple (wpAny_items_cons (wpAny_Constant_int ?_)))))
      refine wpAny_items_cons (nm (s := { s₂ with heap := h₇, toks := _ }) F hm2 (wpAny_items_cons (wpAny_Constant_int (wpAny_items_cons (wpAny_Constant_int (wpAny_items_cons ?_))))))
      refine dict1 (s := { s₂ with heap := h₇, toks := _ }) F fun Fd => nm (s := { s₂ with heap := _, toks := _ }) Fd rfl (nm Fd hm2 ⟨bey, tb, _, rfl, Fd, fun h₈ od F ho8 => ?_⟩)
      refine wpAny_items_nil ⟨five, wpAny_items_nil ⟨F.toSub.trans (Sub.push _ _), ?_⟩⟩
      have hD8 : h₈.get? h₇.objs.size = some od := F.here
      refine add_func_stats_ok (s := { s₂ with heap := _, toks := _ }) (e1 := e0) (e2 := ⟨wid k, [(bey, wid k)]⟩) (W₆.keeps (F.toSub.trans (Sub.push _ _))) (deeper_ok (n := 2) (by omega)) hh _ _ (hE0.sub (F.toSub.trans (Sub.push _ _))) ?e2 ?sz fun sf vf hsf hrf hEf => ?_
      (case e2 => exact ⟨_, 1, 0, 0, h₇.objs.size, _, _, _, _, rfl, ⟨_, Heap.get?_push_size _ rfl, rfl, 0, rfl⟩, lowD7, [(bey, .int (wid k) tk)], Heap.dictOf_iff.mpr ⟨od, Sub.push _ _ _ _ hD8, ho8⟩, .cons ⟨rfl, _, rfl⟩ .nil⟩)
      (case sz =>
        have hnw1 : nw (.wire rr k) = 1 := rfl
        show e0.cs.length + 1 ≤ 1000
        omega)
      have hPc := F.get (a := P) (o := o') (by simp)
      have hsn : ∀ b, h₈.get? b = none → s.heap.get? b = none := fun b e => by
        cases q : s.heap.get? b with
        | none => rfl
        | some x =>
          by_cases hb : b = P
          · rw [hb, hPc] at e; cases e
          · rw [(hgg₆.trans (hg₇.trans F.toSub)) _ _ (hG0 b x hb q)] at e; cases e
      obtain ⟨gf, hgf, hEf⟩ : ∃ gf : Heap, (∀ b o, gf.get? b = some o → sf.heap.get? b = some o ∧ h₈.get? b = none) ∧ EntAt w gf vf ⟨wid k + e0.wid, addC e0.cs [(bey, wid k)]⟩ :=
        ⟨_, fun b o e => ⟨(freshOf_of e).1, none_of_sub (Sub.push _ _) (freshOf_of e).2⟩, hEf⟩
      obtain ⟨g₉, F, hg₉, hf₉⟩ := F.take (fun b o e => hsf b o (Sub.push _ _ b o e)) hgf
      obtain ⟨gP', hgP1, hgP2, hgP3, hgP4⟩ := uni2 (hPg.trans (hg₇.trans hg₉)) hf₉
      refine nm (s := sf) F hm1 (nm F rfl ?_)
      have F := (F.drop (List.sublist_cons_self _ _)).perm (List.perm_append_comm (l₁ := [(P, o')]) (l₂ := il₂))
      refine setD F ho' (by have h1 := hkP.length; have h2 := hbd.1; rw [sizeLine_eq]; omega) fun h₉ o₉ F ho₉ => wpAny_execs_nil ⟨⟨hrf.gens, hrf.os⟩, _, g₉, [(P, o₉)], hg₇.trans hg₉, F.perm (List.perm_append_comm (l₁ := il₂) (l₂ := [(P, o₉)])), o₉, _, gP', rfl, ho₉, hpP.trans hgP1, ?_, ?_, hgP3, hgg₆.trans (hg₇.trans hg₉), hm1, hm2⟩
      · intro b x e
        rcases hgP4 b x e with q | q
        · exact hfr b x q
        · exact .inr (hsn b (hgf b x q).2)
      · rw [hbk, hbook]
        exact Kvs.put (hkP.mono fun a b x => ⟨x.1, x.2.sub hgP1⟩) node (hEf.sub hgP2)
    · intro s' m' g' led' hg' hU F hr₂
      obtain ⟨o', kvs', gP, rfl, ho', hpP, hfr, hkP, hPg, hgg', hm1, hm2⟩ := hU
      refine hR _ _ (wpAny_execs_nil ?_)
      exact h s' gP o' kvs' hpP (hPg.trans F.toSub) hfr F.here ho' hkP (fun b x hb e => hgg'.trans F.toSub _ _ (hG0 b x hb e)) ⟨fun x => hr₂.gens (hr.gens x), hr₂.os.trans hr.os⟩
end Mine
end

section
open PySem PySem.W PySem.Calls PyProof.Rows
set_option maxRecDepth 100000
set_option maxHeartbeats 1000000
namespace Mine
local macro_rules | `(tactic| walk_at "my_enter") => `(tactic| (
  (case k6 => k_is); (case k7 => k_is); (case k9 => exact BindsTo.of_eq rfl); (case kB => exact locs rfl); (case c2 => exact rfl); (case c3 => exact rfl); (case c4 => exact rfl); (case c5 => decide)))
theorem lay_all {w : World} : ∀ n : Net, LayP w n
  | .wire r k => lay_step _ fun a b h => by rcases h with h | h <;> cases h
  | .ser a b => lay_step _ fun a' b' h => by
    rcases h with h | h
    · cases h; exact ⟨lay_all a, lay_all b⟩
    · cases h
  | .par a b => lay_step _ fun a' b' h => by
    rcases h with h | h
    · cases h
    · cases h; exact ⟨lay_all a, lay_all b⟩
section
variable {w : World} {A : Around} {s : Shared} {Q E : Value → Shared → Prop} {g : Heap} {env : Env} {led : Led} {m : Str → Option Value} {L : Addr}
theorem add_tup {t b : Addr} {xs ys : Array Value} (ht : s.heap.IsTuple t xs) (hb : s.heap.IsTuple b ys) (h1 : xs.size ≠ 0) (h2 : ys.size ≠ 0) (hsz : xs.size + ys.size ≤ 100)
    (h : Q (.ref s.heap.objs.size) { s with heap := s.heap.push { cls := .type "tuple", data := .seq (xs ++ ys) } }) : wpAny (model PR w) A (binaryOp .Add (.ref t) (.ref b)) Q E s := by
  obtain ⟨⟨cls, dd, data, sl⟩, ho, hc, n, hd⟩ := id ht
  obtain ⟨⟨cls2, dd2, data2, sl2⟩, ho2, hc2, n2, hd2⟩ := id hb
  simp only at hc hd hc2 hd2
  subst hc hd hc2 hd2
  exact concat_meets ⟨_, ho, rfl⟩ ⟨_, ho2, rfl⟩ noFill_tuple_add seq_tuple_add PySem.F.slot_tuple_add PySem.F.entry_tuple_add (PySem.F.args_tuple_add_2 _ _)
    (tuple_addW2 t b xs ys n n2 dd dd2 sl sl2 (by simpa using h1) (by simpa using h2) (by rw [sizeLine_eq]; omega)) ⟨ho, ho2, h⟩
theorem ins_int {D : Addr} {its : Array Value} {n : Nat} {z : Int} {u : Tok} {x : Value} (ho : s.heap.get? D = some (lstObj its n)) (hfit : ¬(!Builtin.List.listFitsIndex z) = true) (hz : its.size ≤ sizeLine)
    (h : Q .none { s with heap := s.heap.update D (Obj.mapSeq fun xs => have k := if z < 0 then (z + ((xs.size : Nat) : Int)).toNat else min z.toNat xs.size; (xs.extract 0 k).push x ++ xs.extract k) }) :
    wpAny (model PR w) A (call (.builtin "list.insert") [.ref D, .int z u, x]) Q E s := by
  have mt := PySem.AutoListH.list_insert_list_int_val_1 D its n z u x hfit hz
  exact call_meets PySem.F.slot_list_insert ⟨_, ho, rfl⟩ PySem.F.entry_list_insert (PySem.F.args_list_insert_3 _ _ _) mt ⟨ho, h⟩
theorem ins_at {D : Addr} {its : Array Value} {n k : Nat} {u : Tok} {x : Value} (F : Fx g L ((D, lstObj its n) :: led) s.heap m) (hk : k ≤ its.size) (hsz : its.size ≤ 1000)
    (h : ∀ h' n', Fx g L ((D, lstObj ((its.extract 0 k).push x ++ its.extract k) n') :: led) h' m → Q .none { s with heap := h' }) :
    wpAny (model PR w) A (call (.builtin "list.insert") [.ref D, .int k u, x]) Q E s := by
  have hfit : ¬(!Builtin.List.listFitsIndex (k : Int)) = true := by
    unfold Builtin.List.listFitsIndex
    simp only [Bool.not_eq_true', Bool.not_eq_false, Bool.and_eq_true, decide_eq_true_eq]
    omega
  have hz : its.size ≤ sizeLine := by rw [sizeLine_eq]; omega
  have hkz : ∃ z : Int, z = (k : Int) := ⟨_, rfl⟩
  obtain ⟨z, hkz⟩ := hkz
  rw [← hkz] at hfit ⊢
  have hfun : ∀ xs : Array Value, xs = its → (if z < 0 then (z + ((xs.size : Nat) : Int)).toNat else min z.toNat xs.size) = k := by
    intro xs hxs
    subst hxs
    rw [if_neg (by omega)]; omega
  refine ins_int F.here hfit hz ?_
  have hg := Heap.get?_update_self (Obj.mapSeq fun xs => have k' := if z < 0 then (z + ((xs.size : Nat) : Int)).toNat else min z.toNat xs.size; (xs.extract 0 k').push x ++ xs.extract k') F.here rfl
  have e : (Obj.mapSeq (fun xs => have k' := if z < 0 then (z + ((xs.size : Nat) : Int)).toNat else min z.toNat xs.size; (xs.extract 0 k').push x ++ xs.extract k') (lstObj its n)) = lstObj ((its.extract 0 k).push x ++ its.extract k) (if (((its.extract 0 k).push x ++ its.extract k).size == its.size) = true then n else n + 1) := by
    simp only [Obj.mapSeq, lstObj, hfun its rfl]
  rw [e] at hg
  exact h _ _ (F.upd (Heap.SameBut.update ..) hg)
end
end Mine
end

section
open PySem PySem.W PySem.Calls PyProof.Rows
set_option maxRecDepth 100000
set_option maxHeartbeats 1000000
namespace Mine
local macro_rules | `(tactic| walk_at "my_enter") => `(tactic| (
  (case k6 => k_is); (case k7 => k_is); (case k9 => exact BindsTo.of_eq rfl); (case kB => exact locs rfl); (case c2 => exact rfl); (case c3 => exact rfl); (case c4 => exact rfl); (case c5 => decide)))
/-- the line, while it is made -/
inductive LineU (h0 : Heap) (R J : Addr) (prof : Prof) (i : Nat) (m : Str → Option Value) (g : Heap) (led : Led) : Prop
  | mk (items : Array Value) (n : Nat) (rows : List (Int × Int)) (e : led = [(R, lstObj items n)]) (hr : All2 (fun v (r : Int × Int) => RowAt g v r.1 r.2) items.toList rows) (hp : (rows.map (fun p => p.2)).Perm ((prof.take i).map (fun p => p.1))) (hs : Sub h0 g) (h1 : m (Str.ofString "line") = some (.ref R)) (h2 : m (Str.ofString "judge") = some (.ref J)) : LineU h0 R J prof i m g led
inductive WhileI (s₁ : Shared) (g₃ : Heap) (L R J : Addr) (il₂ : Led) (items : Array Value) (n : Nat) (rv : Value) (j : Nat) (s' : Shared) : Prop
  | mk (tj : Tok) (m' : Str → Option Value) (hj : j ≤ items.size) (F : Fx g₃ L (il₂ ++ [(R, lstObj items n)]) s'.heap m') (h1 : m' (Str.ofString "line") = some (.ref R)) (h2 : m' (Str.ofString "judge") = some (.ref J)) (h3 : m' (Str.ofString "row") = some rv) (h4 : m' (Str.ofString "spot") = some (.int (j : Nat) tj)) (hr : Rel s₁ s') : WhileI s₁ g₃ L R J il₂ items n rv j s'
theorem whileI_mk {s₁ s' : Shared} {g₃ : Heap} {L R J : Addr} {il₂ : Led} {items : Array Value} {n : Nat} {rv : Value} {j : Nat} {m' : Str → Option Value} (F : Fx g₃ L (il₂ ++ [(R, lstObj items n)]) s'.heap m') (hj : j ≤ items.size)
    (h1 : m' (Str.ofString "line") = some (.ref R)) (h2 : m' (Str.ofString "judge") = some (.ref J)) (h3 : m' (Str.ofString "row") = some rv) (z : Int) (hz : z = (j : Nat)) (h4 : ∃ tj, m' (Str.ofString "spot") = some (.int z tj)) (hr : Rel s₁ s') : WhileI s₁ g₃ L R J il₂ items n rv j s' := by
  subst hz
  obtain ⟨tj, h4⟩ := h4
  exact ⟨tj, m', hj, F, h1, h2, h3, h4, hr⟩
section
variable {w : World} {A : Around} {s : Shared} {Q E : Value → Shared → Prop}
theorem judge_method {J : Addr} {g : Heap} {L : Addr} {led : Led} {m : Str → Option Value} {pl : Sem Bool} {Q : Value × List Value → Shared → Prop} (F : Fx g L led s.heap m) (hL : 113 ≤ L) (W : Wd w g) (hj : JudgeAt w g J) (h : Q (.ref 35, [.ref J]) s) :
    wpAny (model PR w) A (getMethod (.ref J) "compare" pl) Q E s := by
  obtain ⟨dx, T, t1, t2, tk, a, k1, k2, b, k3, k4, e1, e2, e3, e4, e5⟩ := hj
  obtain ⟨Fr0, X0⟩ := frOf (W.X.keeps F.toSub) F.ns hL
  refine' method_inst Fr0 X0 (C := 38) (ox := instObj 38 dx) ⟨F.keep _ _ e1, rfl, rfl, F.keep _ _ e2⟩ ?k4 ?k5 ?k6 ?k7 h
  (case k4 => k_is)
  (case k5 => k_is)
  (case k6 => k_is)
  (case k7 => k_get)
theorem line_ok (W : Wd w s.heap) (hd : A.depth + 3 < recursionLimit) (hh : A.handled = none) (P J : Addr) (kvs : List (Int × Value)) (prof : Prof) (lowP : sysModules < P) (hdict : s.heap.DictOf (intKind PR w) P kvs) (hk : Kvs (EntAt w s.heap) kvs prof)
    (hj : JudgeAt w s.heap J) (hlen : prof.length ≤ 100)
    (h : ∀ s' Lr (items : Array Value) ns, Sub s.heap s'.heap → Rel s s' → s.heap.get? Lr = none → s'.heap.IsList Lr items → All2 isI items.toList ns → ns.Perm ((prof.map (·.1)).filter (0 ≤ ·)) → Q (.ref Lr) s') :
    wpAny (model PR w) A (call (.ref 102) [.ref P, .ref J]) Q E s := by
  refine' enterX (binds := [(Str.ofString "profile", .ref P), (Str.ofString "judge", .ref J)]) W (fun _ _ e => e) ?k6 ?k7 (by omega) ?k9 ?kB ?_ ?c2 ?c3 ?c4 ?c5
  walk_at "my_enter"
  intro h₁ L hL hs F
  have hL113 : 113 ≤ L := fresh_ge W.X (Nat.le_of_eq hL.symm)
  refine wpAny_execs_cons (wpAny_Assign_Name (wpAny_List (wpAny_items_nil ⟨by show (0 : Nat) ≤ sizeLine; rw [sizeLine_eq]; omega, ?_⟩)))
  have hR0 : s.heap.get? h₁.objs.size = none := none_of_sub hs (get_size _)
  refine sto (s := { s with heap := _, toks := _ }) (F.push (o := lstObj #[] 0)) fun h₂ F => ?_
  generalize h₁.objs.size = R at F hR0 ⊢
  refine wpAny_execs_cons ?_
  refine for_items (kvs := kvs) (d := P) (LineU s.heap R J prof)
    hh F hdict (low_ne lowP) (by rfl) (fun Q' hq => nm (s := { s with heap := h₂, toks := _ }) F rfl hq) ⟨#[], 0, [], rfl, .nil, .nil, fun _ _ e => e, rfl, rfl⟩
    (fun i m g g' led hs ⟨items, n, rows, h1, h2, h3, h4, h5, h6⟩ => ⟨items, n, rows, h1, h2.mono fun _ _ x => x.sub hs, h3, h4.trans hs, h5, h6⟩) ?_ ?_
  · rintro i k v t m₁ g₂ il₂ led₁ s₁ hx hg₂ ⟨items, n, rows, rfl, hrows, hperm, hs₂, hm1, hm2⟩ F hr
    obtain ⟨c, hc, e1, hE⟩ := hk.get hx
    dsimp only at e1 hE
    obtain ⟨t1, c0, c2, c3, d1, k0, k1, k2, k3, rfl, ht1, hd1⟩ := hE
    have hisz : items.size ≤ 100 := by
      have h1 := hrows.length
      have h2 := hperm.length_eq
      rw [List.length_map, List.length_map, List.length_take] at h2
      rw [Array.length_toList] at h1
      omega
    refine wpAny_execs_cons (wpAny_Assign_Name (wpAny_BinOp (nm (s := s₁) F rfl (wpAny_Tuple (wpAny_items_cons (nm F rfl (wpAny_items_nil ⟨by show (1 : Nat) ≤ sizeLine; rw [sizeLine_eq]; omega, ?_⟩)))))))
    have F := F.ext (Sub.push s₁.heap { cls := .type "tuple", data := .seq [Value.int k t].toArray })
    refine add_tup (s := { s₁ with heap := _, toks := _ }) (IsTuple.sub ht1 (hs₂.trans F.toSub)) ⟨_, Heap.get?_push_size _ rfl, rfl, 0, rfl⟩ (by simp) (by simp) (by simp) ?_
    have F := F.push (o := { cls := .type "tuple", data := .seq (#[Value.int c0 k0, .int c.2.wid k1, .int c2 k2, .int c3 k3, .ref d1] ++ [Value.int k t].toArray) })
    obtain ⟨g₃, F, hg₃, hrow⟩ := F.still
    refine sto (s := { s₁ with heap := _, toks := _ }) F fun h₃ F => ?_
    obtain ⟨rv, hrv⟩ : ∃ rv, rv = Value.ref (s₁.heap.push { cls := .type "tuple", data := .seq [Value.int k t].toArray }).objs.size := ⟨_, rfl⟩
    have hRow : RowAt g₃ rv c.2.wid k := ⟨_, c0, c2, c3, .ref d1, k0, k1, k2, k3, t, hrv, ⟨_, hrow, rfl, 0, rfl⟩⟩
    refine wpAny_execs_cons (wpAny_Assign_Name ?_)
    refine bcall (s := { s₁ with heap := h₃, toks := _ }) F (W.keeps (hs₂.trans hg₃)) (by k_is) (by boot_fast) (by decide) (wpAny_items_cons (nm F hm1 (wpAny_items_nil ?_)))
    refine call_len_list (s := { s₁ with heap := h₃, toks := _ }) (items := items) ⟨_, F.get (a := R) (o := lstObj items n) (by simp), rfl, _, rfl⟩ (by omega) ?_
    refine sto (s := { s₁ with heap := h₃, toks := _ }) F fun h₄ F => ?_
    have hrowsg : All2 (fun v (r : Int × Int) => RowAt g₃ v r.1 r.2) items.toList rows := hrows.mono fun _ _ x => x.sub hg₃
    have hilen := hrows.length
    rw [Array.length_toList] at hilen
    -- the while
    refine wpAny_execs_cons (wpAny_While (codeAny_mono (R := fun r s' => r = .ok .next ∧ ∃ j, WhileI s₁ g₃ L R J il₂ items n rv j s') (codeAny_whileLoop (fun q s' => WhileI s₁ g₃ L R J il₂ items n rv q s') ?_ items.size
      ⟨_, _, Nat.le_refl _, F, hm1, hm2, by rw [hrv]; rfl, rfl, Rel.same⟩) fun r s' hx => ?_))
    · rintro q s' ⟨tj, m', hq, F, hm1, hm2, hm3, hm4, hr'⟩
      have hRl : s'.heap.IsList R items := ⟨_, F.get (a := R) (o := lstObj items n) (by simp), rfl, _, rfl⟩
      refine isTrue_and (wpAny_isTrue_Compare1 (nm (s := s') F hm4 (wpAny_Constant_int (gt_int (wpAny_truthy_bool ?_)))))
      by_cases hq0 : 0 < q
      · refine (if_pos (decide_eq_true (show (0 : Int) < (q : Int) by omega))).mpr ?_
        refine isTrue_and (wpAny_isTrue_Compare1 (MethodCall_ ?_))
        refine nm (s := { s' with toks := _ }) F hm2 (judge_method F hL113 (W.keeps (hs₂.trans hg₃)) (hj.sub (hs₂.trans hg₃)) ?_)
        refine' callWith_K (W.X.keeps (hs₂.trans (hg₃.trans F.toSub))) ?kk ?_
        (case kk => k_is)
        have hxl : ∃ v2, items[q - 1]? = some v2 := ⟨items[q - 1], by rw [Array.getElem?_eq_getElem]⟩
        obtain ⟨v2, hv2⟩ := hxl
        obtain ⟨r2, hr2, hRow2⟩ := hrowsg.get (show items.toList[q - 1]? = some v2 by rw [Array.getElem?_toList]; exact hv2)
        refine wpAny_items_cons (nm (s := { s' with toks := _ }) F hm3 (wpAny_items_cons (Subscript_ (nm (s := { s' with toks := _ }) F hm1 ?_))))
        refine wpAny_BinOp (nm (s := { s' with toks := _ }) F hm4 (wpAny_Constant_int (PyProof.Rows.sub_int ?_)))
        refine item_list (s := { s' with toks := _ }) hRl (by omega) (by omega) (by rw [show ((q : Int) - 1).toNat = q - 1 by omega]; exact hv2) ?_
        refine wpAny_items_nil ⟨W.X.keeps (hs₂.trans (hg₃.trans F.toSub)), ?_⟩
        show wpAny _ _ (call (.ref 35) [.ref J, rv, v2]) _ _ _
        refine compare_ok (w1 := c.2.wid) (n1 := k) (w2 := r2.1) (n2 := r2.2) ?a1 ?a2 ?a0 J rv v2 ?a3 ?a4 ?a5 fun s₅ i5 t5 hs₅ hr₅ => ?a6
        (case a0 => exact hh)
        (case a1 => exact W.keeps (hs₂.trans (hg₃.trans F.toSub)))
        (case a2 => exact deeper_ok (n := 1) (by omega))
        (case a3 => exact hj.sub (hs₂.trans (hg₃.trans F.toSub)))
        (case a4 => exact hRow.sub F.toSub)
        (case a5 => exact hRow2.sub F.toSub)
        have F := F.ext hs₅
        refine wpAny_Constant_int (lt_int (wpAny_truthy_bool ?_))
        by_cases hi5 : i5 < 0
        · refine (if_pos (decide_eq_true hi5)).mpr (isTrue_and_nil ?_)
          refine (if_pos rfl).mpr ?_
          refine wpAny_execs_cons (wpAny_Assign_Name (wpAny_BinOp (nm (s := { s₅ with toks := _ }) F hm4 (wpAny_Constant_int (PyProof.Rows.sub_int (sto (s := { s₅ with toks := _ }) F fun h₆ F => wpAny_execs_nil ?_))))))
          exact ⟨q - 1, by omega, whileI_mk F (by omega) hm1 hm2 hm3 ((q : Int) - 1) (by omega) ⟨_, rfl⟩ ⟨fun x => hr₅.gens (hr'.gens x), hr₅.os.trans hr'.os⟩⟩
        · refine (if_neg (by rw [decide_eq_false hi5]; exact Bool.false_ne_true)).mpr ?_
          refine (if_neg Bool.false_ne_true).mpr (wpAny_execs_nil ⟨rfl, q, _, _, hq, F, hm1, hm2, hm3, hm4, ⟨fun x => hr₅.gens (hr'.gens x), hr₅.os.trans hr'.os⟩⟩)
      · refine (if_neg (by rw [decide_eq_false (show ¬ (0 : Int) < (q : Int) by omega)]; exact Bool.false_ne_true)).mpr ?_
        refine (if_neg Bool.false_ne_true).mpr (wpAny_execs_nil ⟨rfl, q, _, _, hq, F, hm1, hm2, hm3, hm4, ⟨hr'.gens, hr'.os⟩⟩)
    · obtain ⟨rfl, j, tj, m', hj', F, hm1, hm2, hm3, hm4, hr'⟩ := hx
      show wpAny _ _ _ _ _ _
      refine wpAny_execs_cons (wpAny_Expr (mcall (s := s') PySem.F.plainAttrs_list PySem.F.slot_list_insert PySem.F.type_list_insert (T := "list") (ov := .ref R) ⟨_, F.get (a := R) (o := lstObj items n) (by simp), rfl⟩ (fun a e => by injection e with e; subst e; exact ⟨_, F.get (a := R) (o := lstObj items n) (by simp), rfl⟩) (fun Q' hq => nm F hm1 hq) ?_))
      refine evalArgs_plain (wpAny_items_cons (nm (s := s') F hm4 (wpAny_items_cons (nm F hm3 (wpAny_items_nil ?_)))))
      refine ins_at (s := s') (k := j) (F.perm (List.perm_append_comm (l₁ := [(R, lstObj items n)]) (l₂ := il₂))) hj' (by omega) fun h₇ n' F => wpAny_execs_nil ?_
      refine ⟨⟨hr'.gens, hr'.os⟩, _, g₃, [(R, _)], hg₃, F.perm (List.perm_append_comm (l₁ := il₂) (l₂ := [(R, _)])), _, n', rows.take j ++ [(c.2.wid, k)] ++ rows.drop j, rfl, ?_, ?_, hs₂.trans hg₃, hm1, hm2⟩
      · have e : ((items.extract 0 j).push rv ++ items.extract j).toList = items.toList.take j ++ [rv] ++ items.toList.drop j := by
          simp
          exact List.take_of_length_le (by simp)
        rw [e]
        exact ((hrowsg.take j).append (.cons hRow .nil)).append (hrowsg.drop j)
      · rw [List.take_add_one, hc, List.map_append, List.map_append, List.map_append]
        have p1 : (rows.map (fun p => p.2)) = (rows.take j).map (fun p => p.2) ++ (rows.drop j).map (fun p => p.2) := by rw [← List.map_append, List.take_append_drop]
        rw [p1] at hperm
        show ((rows.take j).map (fun p => p.2) ++ [k] ++ (rows.drop j).map (fun p => p.2)).Perm (((prof.take i).map fun p => p.1) ++ [c.1])
        rw [← e1]
        refine List.Perm.trans ?_ (hperm.append_right [k])
        rw [List.append_assoc, List.append_assoc]
        exact List.Perm.append_left _ (List.perm_append_comm)
  · rintro s' m' g' led' hg' ⟨items, n, rows, rfl, hrows, hperm, hs₂, hm1, hm2⟩ F hr
    have hkl := hk.length
    rw [List.take_of_length_le (by omega)] at hperm
    have hilen := hrows.length
    have hpl := hperm.length_eq
    rw [List.length_map, List.length_map] at hpl
    rw [Array.length_toList] at hilen
    obtain ⟨g₃, F, hg₃, hR3⟩ := F.still
    refine wpAny_execs_cons (wpAny_Return_some (eval_listcomp (cl := []) ?lc ?cf))
    (case cf => exact closureFor_none (by decide))
    refine nm (s := s') F hm1 (wpAny_pyIter_list ⟨_, F.keep _ _ hR3, rfl, _, rfl⟩ ?_)
    have F := F.push (o := listItObj R 0)
    refine blockL (s₂ := { s' with heap := _, toks := _ }) (il := [_]) (led₂ := []) (N := items.size) (g₂ := g₃) (St := fun i il => ∃ o : Obj, il = [(_, o)] ∧ o.cls = .type "list_iterator" ∧ o.data = .fields #[.ref R, .int i 0])
      (fun j xs => All2 isI xs.toList (((rows.map (fun p => p.2)).take j).filter (fun z => decide (0 ≤ z)))) F (fun C => Source.list hh ⟨_, hR3, rfl, _, rfl⟩ rfl rfl)
      (fun s' G C led' m' F' Q' E' hq => wpAny_pyIter_listiter ⟨_, F'.here, rfl, rfl⟩ hq) ⟨_, rfl, rfl, rfl⟩ .nil (by omega) ?_ ?_ ?_ (by decide) rfl
    · intro j xs hx
      have h1 := hx.length
      have h2 := List.length_filter_le (fun z => decide (0 ≤ z)) ((rows.map (fun p => p.2)).take j)
      rw [List.length_take] at h2
      rw [Array.length_toList] at h1
      omega
    · rintro C D j m₅ m₆ G₂ il₅ its nn s₅ hjl hgG hled hP ⟨v, hv, rfl⟩ F₅ hr₅
      obtain ⟨r, hr1, t0, c0, c2, c3, d, k0, k1, k2, k3, k5, rfl, ht⟩ := hrows.get (show items.toList[j]? = some v by rw [Array.getElem?_toList]; exact hv)
      have htk : (rows.map (fun p => p.2)).take (j + 1) = (rows.map (fun p => p.2)).take j ++ [r.2] := by
        rw [List.take_add_one, List.getElem?_map, hr1]; rfl
      refine wpAny_tests_one (wpAny_isTrue_Compare1 (Subscript_ (nm F₅ rfl (wpAny_Constant_int ?_))))
      refine item_tuple (j := 5) (IsTuple.sub ht (hg₃.trans (hgG.trans F₅.toSub))) (by decide) (by decide) rfl rfl ?_
      refine wpAny_Constant_int (ge_int (wpAny_truthy_bool ?_))
      by_cases h0 : r.2 ≥ 0
      · refine (if_pos (decide_eq_true h0)).mpr (Subscript_ (nm (s := { s₅ with toks := _ }) F₅ rfl (wpAny_Constant_int ?_)))
        refine item_tuple (j := 5) (IsTuple.sub ht (hg₃.trans (hgG.trans F₅.toSub))) (by decide) (by decide) rfl rfl ?_
        refine ⟨⟨id, rfl⟩, _, F₅, ?_⟩
        rw [htk, List.filter_append, Array.toList_push]
        refine hP.append ?_
        rw [List.filter_cons_of_pos (by simpa using h0)]
        exact .cons ⟨_, rfl⟩ .nil
      · refine (if_neg (by rw [decide_eq_false h0]; exact Bool.false_ne_true)).mpr ⟨⟨id, rfl⟩, _, F₅, ?_⟩
        rw [htk, List.filter_append, List.filter_cons_of_neg (by simpa using h0), List.filter_nil, List.append_nil]
        exact hP
    · intro s₆ C D its nn mC hD hCn hDC hPa hnC hFx hCL hr₆
      refine ⟨mC, hnC, fun h₇ hs₇ => ?_⟩
      have F₇ := hFx h₇ hs₇
      rw [hilen, List.take_of_length_le (by rw [List.length_map]; exact Nat.le_refl _)] at hPa
      refine h _ D its _ (hs₂.trans (hg₃.trans F₇.toSub)) ⟨fun x => hr₆.gens (hr.gens x), hr₆.os.trans hr.os⟩ ?_ ⟨_, F₇.here, rfl, _, rfl⟩ hPa (hperm.filter _)
      exact none_of_sub (hs₂.trans (hg₃.trans F.toSub)) hD
end
end Mine
end

section
open PySem PySem.W PySem.Calls PyProof.Rows
set_option maxRecDepth 100000
set_option maxHeartbeats 1000000
namespace Mine
section
variable {w : World} {A : Around} {env : Env} {target : Expr} {it : Addr} {g₀ g : Heap} {n : Nat} {St : Nat → Led → Prop} {B : Nat → Heap → (Str → Option Value) → (Str → Option Value) → Prop} {E : Value → Shared → Prop} {s : Shared} {il led : Led} {m : Str → Option Value}
/-- forSR, with the source's own parts told to the turn -/
theorem forS2 (S : Source w A env target it g₀ n St B) (U : Nat → (Str → Option Value) → Heap → Led → Prop) {R : Result → Shared → Prop} {body : List Stmt}
    (F : Fx g env.locals (il ++ led) s.heap m) (h0g : Sub g₀ g) (hst : St 0 il) (h0 : U 0 m g led)
    (hmono : ∀ i m g g' led, Sub g g' → U i m g led → U i m g' led)
    (step : ∀ i m₁ m₂ g₂ il₂ led₁ (s₁ : Shared), i < n → Sub g g₂ → U i m₁ g₂ led₁ → B i g₂ m₁ m₂ → St (i + 1) il₂ → Fx g₂ env.locals (il₂ ++ led₁) s₁.heap m₂ → Rel s s₁ →
      wpAny (model PR w) A (execs body env) (fun f s₂ => match f with
        | .next | .cont => Rel s₁ s₂ ∧ ∃ m₃ g₃ led₃ il₃, Sub g₂ g₃ ∧ St (i + 1) il₃ ∧ Fx g₃ env.locals (il₃ ++ led₃) s₂.heap m₃ ∧ U (i + 1) m₃ g₃ led₃
        | .brk => False
        | .ret v => R (.ok (.ret v)) s₂) (fun _ _ => False) s₁)
    (done : ∀ (s' : Shared) m' g' led', Sub g g' → U n m' g' led' → Fx g' env.locals led' s'.heap m' → Rel s s' → R (.ok .next) s') :
    codeAny (model PR w) A (.forLoop target (.ref it) body [] env) R s := by
  refine codeAny_forLoop_any (fun k s' => ∃ i il' led' m' g', k = n + 1 - i ∧ i ≤ n ∧ St i il' ∧ Sub g g' ∧ U i m' g' led' ∧ Fx g' env.locals (il' ++ led') s'.heap m' ∧ Rel s s') ?_ (n + 1)
    ⟨0, il, led, m, g, rfl, Nat.zero_le _, hst, fun _ _ e => e, h0, F, Rel.refl s⟩
  rintro k s' ⟨i, il', led', m', g', rfl, hi, hst', hg, hU, F', hr⟩
  rcases Nat.lt_or_ge i n with hlt | hge
  · refine S.item i il' g' led' s' m' _ _ _ hlt hst' (fun b o e => hg b o (h0g b o e)) F' (fun v s₁ hx => hx) fun h₁ tk il₁ m₁ g₁ hg₁ hst₁ F₁ hB => ?_
    refine wpAny_mono (step i m' m₁ g₁ il₁ led' _ hlt (fun b o e => hg₁ b o (hg b o e)) (hmono _ _ _ _ _ hg₁ hU) hB hst₁ F₁ (hr.trans Rel.same)) (fun f s₂ h₂ => ?_) fun _ _ x => x.elim
    have fin : (Rel { s' with heap := h₁, toks := tk } s₂ ∧ ∃ m₃ g₃ led₃ il₃, Sub g₁ g₃ ∧ St (i + 1) il₃ ∧ Fx g₃ env.locals (il₃ ++ led₃) s₂.heap m₃ ∧ U (i + 1) m₃ g₃ led₃) → ∃ k' < n + 1 - i, ∃ i il' led' m' g', k' = n + 1 - i ∧ i ≤ n ∧ St i il' ∧ Sub g g' ∧ U i m' g' led' ∧ Fx g' env.locals (il' ++ led') s₂.heap m' ∧ Rel s s₂ := by
      rintro ⟨hr₂, m₃, g₃, led₃, il₃, hg₃, hst₃, F₃, hU₃⟩
      exact ⟨n + 1 - (i + 1), by omega, i + 1, il₃, led₃, m₃, g₃, rfl, hlt, hst₃, fun b o e => hg₃ b o (hg₁ b o (hg b o e)), hU₃, F₃, (hr.trans Rel.same).trans hr₂⟩
    cases f with
    | next => exact fin h₂
    | cont => exact fin h₂
    | brk => exact h₂.elim
    | ret v => exact h₂
  · have hin : i = n := Nat.le_antisymm hi hge
    subst hin
    exact S.done il' g' led' s' m' _ _ hst' (fun b o e => hg b o (h0g b o e)) F' fun h₁ tk F₁ => wpAny_execs_nil (done _ m' g' led' hg hU F₁ (hr.trans Rel.same))
end
/-- a cell that holds v -/
def CellV (o : Obj) (v : Value) : Prop := o.data = .cell (some v)
section
variable {M : Model} {A : Around} {E : Value → Shared → Prop} {s : Shared} {env : Env} {g : Heap} {led : Led} {m : Str → Option Value} {x : Str} {v : Value} {pos : Pos} {c : Addr} {o : Obj}
theorem ldC {Q : Value → Shared → Prop} (hh : s.heap.get? c = some o) (hv : CellV o v) (h : Q v s) (hc : env.cells.lookup x = some c := by rfl) (hk : env.scope.kind = .function := by rfl) (hl : env.kindOf x = some .cell := by rfl) :
    wpAny M A (loadName env x) Q E s := wpAny_loadName_cell hk hl hc ⟨o, hh, hv⟩ h
theorem nmC {Q : Value → Shared → Prop} (hh : s.heap.get? c = some o) (hv : CellV o v) (h : Q v s) (hc : env.cells.lookup x = some c := by rfl) (hk : env.scope.kind = .function := by rfl) (hl : env.kindOf x = some .cell := by rfl) (hd : (x == ("__debug__" : Str)) = false := by decide) :
    wpAny M A (eval (.Name x pos) env) Q E s := wpAny_Name (ldC hh hv h hc hk hl) hd
theorem stoC {Q : Unit → Shared → Prop} {L : Addr} {v₀ : Option Value} (F : Fx g L ((c, o) :: led) s.heap m) (hv₀ : o.data = .cell v₀)
    (h : ∀ h' o', CellV o' v → Fx g L ((c, o') :: led) h' m → Q () { s with heap := h' }) (hc : env.cells.lookup x = some c := by rfl) (hk : env.scope.kind = .function := by rfl) (hl : env.kindOf x = some .cell := by rfl) :
    wpAny M A (storeName env x v) Q E s :=
  wpAny_storeName_cell hk hl hc ⟨o, F.here, hv₀⟩ fun h' ⟨o', ho', hd'⟩ hs => h h' o' hd' (F.upd hs ho')
end
section
variable {w : World} {A : Around} {E : Value → Shared → Prop} {s : Shared} {env : Env} {target iter : Expr} {ifs : List Expr} {scope : Scope} {pos : Pos} {I D C : Addr} {cl : List (Str × Addr)} {g₀ G : Heap} {N : Nat} {St : Nat → Led → Prop} {B : Nat → Heap → (Str → Option Value) → (Str → Option Value) → Prop} {il : Led} {m : Str → Option Value} {R : Result → Shared → Prop}
theorem compLoopD {kx vx : Expr} {o₀ : Obj} (S : Source w A (compEnvC scope cl C env) target I g₀ N St B) (P : Nat → List (Int × Value) → Prop)
    (hN : N ≤ 1000) (hPs : ∀ i xs, P i xs → xs.length ≤ i)
    (step : ∀ i m₁ m₂ G₂ il₂ kvs o (s₁ : Shared), i < N → Sub G G₂ → P i kvs → o.IsDictOf (intKind PR w) kvs → B i G₂ m₁ m₂ → Fx G₂ C (il₂ ++ [(D, o)]) s₁.heap m₂ → Rel s s₁ →
      wpAny (model PR w) A (testsS ifs (compEnvC scope cl C env)) (fun ok s₂ => if ok = true then wpAny (model PR w) A (eval kx (compEnvC scope cl C env)) (fun kv s₃ => wpAny (model PR w) A (eval vx (compEnvC scope cl C env)) (fun v s₄ => Rel s₁ s₄ ∧ ∃ m₃ k t, kv = .int k t ∧ Fx G₂ C (il₂ ++ [(D, o)]) s₄.heap m₃ ∧ P (i + 1) (stored kvs k v)) (fun _ _ => False) s₃) (fun _ _ => False) s₂
        else Rel s₁ s₂ ∧ ∃ m₃, Fx G₂ C (il₂ ++ [(D, o)]) s₂.heap m₃ ∧ P (i + 1) kvs) (fun _ _ => False) s₁)
    (done : ∀ (s' : Shared) m' G' kvs o, Sub G G' → P N kvs → o.IsDictOf (intKind PR w) kvs → Fx G' C [(D, o)] s'.heap m' → Rel s s' → R (.ok .next) s')
    (F : Fx G C (il ++ [(D, o₀)]) s.heap m) (ho₀ : o₀.IsDictOf (intKind PR w) []) (hg₀ : Sub g₀ G) (hst : St 0 il) (h0 : P 0 []) :
    codeAny (model PR w) A (.compLoop (.DictComp kx vx [⟨target, iter, ifs, 0⟩] scope pos) 0 (.ref I) (.ref D) (compEnvC scope cl C env)) R s := by
  refine codeAny_loop rfl (fun k s' => ∃ i il' m' G' kvs o, k = N + 1 - i ∧ i ≤ N ∧ St i il' ∧ Sub G G' ∧ P i kvs ∧ o.IsDictOf (intKind PR w) kvs ∧ Fx G' C (il' ++ [(D, o)]) s'.heap m' ∧ Rel s s') (fun k s' hI => ?_) (N + 1)
    ⟨0, il, m, G, [], o₀, rfl, Nat.zero_le _, hst, fun _ _ e => e, h0, ho₀, F, Rel.refl s⟩
  obtain ⟨i, il', m', G', kvs, o, rfl, hi, hst', hG, hP, ho, F', hr⟩ := hI
  show wpAny _ A ((compTurn (.DictComp kx vx [⟨target, iter, ifs, 0⟩] scope pos) 0 (.ref I) (.ref D) (compEnvC scope cl C env)).onRaise (fun x => do noteFrame x (compEnvC scope cl C env); theTreesLotGoes x)) _ _ s'
  refine wpAny_noted ?_
  rw [compTurn_dict]
  refine wpAny_bind (wpAny_standAt (wpAny_bind ?_))
  rcases Nat.lt_or_ge i N with hlt | hge
  · refine S.item i il' G' [(D, o)] s' m' _ _ _ hlt hst' (hg₀.trans hG) F' (fun v s₁ hx => wpAny_bind (wpAny_mono hx (fun _ s₂ h₂ => wpAny_bind h₂) fun _ _ e => e)) fun h₁ tk il₁ m₁ g₁ hg₁ hst₁ F₁ hB => ?_
    have fin : ∀ (s₃ : Shared) its oo m₃, Rel { s' with heap := h₁, toks := tk } s₃ → Fx g₁ C (il₁ ++ [(D, oo)]) s₃.heap m₃ → oo.IsDictOf (intKind PR w) its → P (i + 1) its →
        ∃ k' < N + 1 - i, ∃ i il' m' G' kvs o, k' = N + 1 - i ∧ i ≤ N ∧ St i il' ∧ Sub G G' ∧ P i kvs ∧ o.IsDictOf (intKind PR w) kvs ∧ Fx G' C (il' ++ [(D, o)]) s₃.heap m' ∧ Rel s s₃ :=
      fun s₃ its oo m₃ h1 h2 h3 h4 => ⟨N + 1 - (i + 1), by omega, i + 1, il₁, m₃, g₁, its, oo, rfl, hlt, hst₁, hG.trans hg₁, h4, h3, h2, (hr.trans Rel.same).trans h1⟩
    refine wpAny_bind (wpAny_mono (step i m' m₁ g₁ il₁ kvs o _ hlt (hG.trans hg₁) hP ho hB F₁ (hr.trans Rel.same)) (fun ok s₂ h₂ => ?_) fun _ _ x => x.elim)
    cases ok with
    | false =>
      rw [if_neg Bool.false_ne_true] at h₂
      obtain ⟨hr₂, m₃, F₃, hP₃⟩ := h₂
      exact wpAny_pure ⟨rfl, fin s₂ kvs o m₃ hr₂ F₃ ho hP₃⟩
    | true =>
      rw [if_pos rfl] at h₂
      refine wpAny_bind (wpAny_bind (wpAny_mono h₂ (fun kv s₃ h₃ => wpAny_bind (wpAny_holding (wpAny_mono h₃ (fun vv s₅ h₅ => wpAny_bind (wpAny_standAt (wpAny_holding ?_))) fun _ _ x => x.elim))) fun _ _ x => x.elim))
      obtain ⟨hr₅, m₃, kk, tt, rfl, F₃, hP₃⟩ := h₅
      have F₄ := F₃.perm (List.perm_append_comm (l₁ := [(D, o)]) (l₂ := il₁))
      refine wpAny_dictSet_pairs (s := s₅) (knd := intKind PR w) (k := kk) (by show Value.isInt kk (.int kk tt) = true; simp [Value.isInt]) (Heap.dictOf_iff.mpr ⟨o, F₄.here, ho⟩) (fun h₆ hd₆ hs₆ => ?_) (by have := hPs _ _ hP; rw [sizeLine_eq]; omega)
      obtain ⟨o', ho', hdo⟩ := Heap.dictOf_iff.mp hd₆
      have F₅ := (F₄.upd hs₆ ho').perm (List.perm_append_comm (l₁ := il₁) (l₂ := [(D, o')]))
      exact wpAny_pure ⟨rfl, fin _ _ o' m₃ ⟨hr₅.gens, hr₅.os⟩ F₅ hdo hP₃⟩
  · have hin : i = N := Nat.le_antisymm hi hge
    subst hin
    exact S.done il' G' [(D, o)] s' m' _ _ hst' (hg₀.trans hG) F' fun h₁ tk F₁ => wpAny_pure (done _ m' G' kvs o hG hP ho F₁ (hr.trans Rel.same))
abbrev BlockD (w : World) (A : Around) (E : Value → Shared → Prop) (env : Env) (kx vx target iter : Expr) (ifs : List Expr) (scope : Scope) (pos : Pos) (cl : List (Str × Addr)) (use : Option (Value → Sem Unit)) (Q : Value → Shared → Prop) (it : Value) (s₂ : Shared) : Prop :=
  wpAny (model PR w) A newDict (fun acc s₃ => wpAny (model PR w) A (newFunctionEnv scope env.globals cl [] env.qual none .none (some env)) (fun cenv s₄ =>
      codeAny (model PR w) A (.compStart (.DictComp kx vx [⟨target, iter, ifs, 0⟩] scope pos) 0 it acc { cenv with scope := relabel scope env }) (compPost (model PR w) A E use Q acc cenv.locals) s₄) E s₃) E s₂
section
variable {kx vx : Expr} {Q : Value → Shared → Prop} {s₂ : Shared} {g₂ : Heap} {led₂ : Led} {m₂ : Str → Option Value}
theorem blockD {use : Option (Value → Sem Unit)} (P : Nat → List (Int × Value) → Prop) (F₂ : Fx g₂ env.locals (il ++ led₂) s₂.heap m₂) (S : ∀ C, Source w A (compEnvC scope cl C env) target I g₂ N St B)
    (self : ∀ (s' : Shared) G C led' m', Fx G C (il ++ led') s'.heap m' → ∀ Q' E', Q' (.ref I) s' → wpAny (model PR w) A (pyIter (.ref I)) Q' E' s')
    (hst : St 0 il) (h0 : P 0 []) (hN : N ≤ 1000) (hPs : ∀ i xs, P i xs → xs.length ≤ i)
    (step : ∀ C D i m₁ m₃ G₂ il₂ kvs o (s₁ : Shared), i < N → Sub g₂ G₂ → (∀ p ∈ led₂, G₂.get? p.1 = some p.2) → P i kvs → o.IsDictOf (intKind PR w) kvs → B i G₂ m₁ m₃ → Fx G₂ C (il₂ ++ [(D, o)]) s₁.heap m₃ → Rel s₂ s₁ →
      wpAny (model PR w) A (testsS ifs (compEnvC scope cl C env)) (fun ok s₄ => if ok = true then wpAny (model PR w) A (eval kx (compEnvC scope cl C env)) (fun kv s₃ => wpAny (model PR w) A (eval vx (compEnvC scope cl C env)) (fun v s₅ => Rel s₁ s₅ ∧ ∃ m₃ k t, kv = .int k t ∧ Fx G₂ C (il₂ ++ [(D, o)]) s₅.heap m₃ ∧ P (i + 1) (stored kvs k v)) (fun _ _ => False) s₃) (fun _ _ => False) s₄
        else Rel s₁ s₄ ∧ ∃ m₃, Fx G₂ C (il₂ ++ [(D, o)]) s₄.heap m₃ ∧ P (i + 1) kvs) (fun _ _ => False) s₁)
    (done : ∀ (s' : Shared) C D kvs o mC, s₂.heap.get? D = none → D = s₂.heap.objs.size → s₂.heap.get? C = none → D ≠ C → P N kvs → o.IsDictOf (intKind PR w) kvs → s'.heap.Ns C mC → (∀ h', Heap.SameBut C s'.heap h' → Fx g₂ env.locals ((D, o) :: led₂) h' m₂) → C ≠ env.locals → Rel s₂ s' → compPost (model PR w) A E use Q (.ref D) C (.ok .next) s')
    (hcell : ∀ y ∈ scope.names, y.2 ≠ .cell) (hkind : scope.kind = .function) :
    BlockD w A E env kx vx target iter ifs scope pos cl use Q (.ref I) s₂ := by
  refine wpAny_newObj_type (wpAny_newFunctionEnv hcell (by intro y hy; simp at hy) (fun h₁ hns₁ hsb₁ => ?_) hkind)
  dsimp only at hns₁ hsb₁ ⊢
  have hD3 : (s₂.heap.push dictObj0).get? s₂.heap.objs.size = some dictObj0 := Heap.get?_push_size _ rfl
  have hC3 : (s₂.heap.push dictObj0).get? (s₂.heap.push dictObj0).objs.size = none := get_size _
  have h31 : Sub (s₂.heap.push dictObj0) h₁ := fun b o e => hsb₁.extBut b o (Nat.ne_of_lt (Heap.lt_size e)) (Heap.get?_push_of_some _ e)
  obtain ⟨G, FG, hgG, hled, hin⟩ := compOpen F₂ (Sub.push _ dictObj0) (get_size _) hD3 hC3 hns₁ h31
  have hC2 := none_of_sub (Sub.push _ dictObj0) hC3
  have hCL : (s₂.heap.push dictObj0).objs.size ≠ env.locals := fun q => F₂.isSomeL (q ▸ hC2)
  have loop := compLoopD (s := { s₂ with heap := h₁, toks := s₂.toks + ([] : List (Str × Value)).length }) (cl := cl) (scope := scope) (pos := pos) (iter := iter) (ifs := ifs) (kx := kx) (vx := vx) (target := target) (R := compPost (model PR w) A E use Q (.ref s₂.heap.objs.size) (s₂.heap.push dictObj0).objs.size) (S _) P hN hPs
    (fun i m₁ m₃ G₂ il₂ kvs o s₁ h1 h2 h3 h4 h5 h6 h7 => step _ _ i m₁ m₃ G₂ il₂ kvs o s₁ h1 (hgG.trans h2) (fun p hp => h2 _ _ (hled p hp)) h3 h4 h5 h6 ⟨h7.gens, h7.os⟩)
    (fun s' m' G' kvs o h1 h2 h3 h4 h5 => done s' _ _ kvs o m' (get_size _) rfl hC2 (h4.at_ _ (.head _)).2.1 h2 h3 h4.ns (fun h' hs' => compEnd F₂ (fun b x e hn => h1 _ _ (hin b x e hn)) hC2 (get_size _) h4 hs') hCL ⟨h5.gens, h5.os⟩)
    FG empty_dict hgG hst h0
  exact codeAny_compStart_dict loop (self _ _ _ _ _ FG _ _ loop)
theorem Fx.apart {g h h' : Heap} {L C : Addr} {led : Led} {m : Str → Option Value} (F : Fx g L led h m) (hs : Heap.SameBut C h h') (h1 : C ≠ L) (h2 : g.get? C = none) (h3 : C ∉ led.map (·.1)) : Fx g L led h' m :=
  F.over (own := [C]) (fun b hb => by rw [List.mem_singleton.mp hb]; exact ⟨h2, h1, h3⟩) fun b o hb e => hs.extBut b o (by simpa using hb) e
/-- the comprehension's value goes to a local name -/
theorem useStore {y : Str} {py : Pos} {o : Obj} {mC : Str → Option Value} {s' : Shared} (F : Fx g₂ env.locals ((D, o) :: led₂) s'.heap m₂) (hn : s'.heap.Ns C mC) (hCL : C ≠ env.locals) (hC : g₂.get? C = none) (hl : C ∉ ((D, o) :: led₂).map (·.1)) (hy : env.kindOf y = some .local) (hk : env.scope.kind = .function)
    (h : ∀ h' tk, Fx g₂ env.locals ((D, o) :: led₂) h' (fun z => if z = y then some (.ref D) else m₂ z) → Q .none { s' with heap := h', toks := tk }) :
    compPost (model PR w) A E (some (assign (.Name y py) env)) Q (.ref D) C (.ok .next) s' := by
  show wpAny _ A (assign (.Name y py) env (.ref D)) _ _ _
  refine wpAny_assign_Name (wpAny_storeName_local hy F.ns (fun h₂ hn₂ hs₂ => ?_) (by rw [hk]; rfl))
  refine ⟨mC, hn.sameBut hs₂ hCL, fun h₃ hs₃ => ?_⟩
  exact h h₃ _ ((F.store hn₂ hs₂).apart hs₃ hCL hC hl)
theorem assign_dictcomp {y : Str} {py spos : Pos} {Q : Flow → Shared → Prop}
    (h : wpAny (model PR w) A (eval iter env) (fun xv s₁ => wpAny (model PR w) A (pyIter xv) (fun it s₂ => BlockD w A E env kx vx target iter ifs scope pos cl (some (assign (.Name y py) env)) (fun _ s' => Q .next s') it s₂) E s₁) E s)
    (hclos : closureFor scope env = pure cl) (hsw : swapsWith (.DictComp kx vx [⟨target, iter, ifs, 0⟩] scope pos) (some (.Name y py)) spos.line env = pure true := by rfl) (hkind : scope.kind = .function := by rfl) (hnames : ∀ x ∈ scope.names, x.2 = .local → scope.names.lookup x.1 = some .local := by decide)
    (hs : ∀ x, foldedSetIterable iter env x = pure x := by intro _; rfl) :
    wpAny (model PR w) A (exec (.Assign [.Name y py] (.DictComp kx vx [⟨target, iter, ifs, 0⟩] scope pos) spos) env) Q E s := by
  rw [exec_Assign_Name_used _ _ _ _ hsw]
  refine wpAny_bind (wpAny_standAt (wpAny_bind ?_))
  show wpAny _ A (do let _ ← comprehension (.DictComp kx vx [⟨target, iter, ifs, 0⟩] scope pos) scope env _ newDict false (eval iter env) (some (assign (.Name y py) env))) _ _ s
  exact wpAny_bind (wpAny_mono (wpAny_comprehension_free (use := some (assign (.Name y py) env)) (Q := fun _ s' => Q .next s') rfl hs hclos hkind hnames h) (fun _ s' hq => wpAny_pure (wpAny_pure hq)) fun _ _ e => e)
end
end
end Mine
end

section
open PySem PySem.W PySem.Calls PyProof.Rows
set_option maxRecDepth 100000
set_option maxHeartbeats 1000000
namespace Mine
section
variable {w : World} {A : Around} {E : Value → Shared → Prop} {s : Shared} {env : Env} {g g₀ : Heap} {L it d c : Addr} {led : Led} {m : Str → Option Value}
theorem none_of_ge {h : Heap} {a : Nat} (ha : h.objs.size ≤ a) : h.get? a = none := by
  cases e : h.get? a with
  | none => rfl
  | some o => exact absurd (Heap.lt_size e) (Nat.not_lt.mpr ha)
/-- items of a dict, the key to a cell and the value to a local name -/
theorem Source.itemsC {kvs : List (Int × Value)} {ep : Nat} {xk xv : Str} {pk pv pt : Pos} {x1} (hh : A.handled = none) (hd : g₀.DictAt (intKind PR w) d kvs ep) (hk : env.scope.kind = .function)
    (hxk : env.kindOf xk = some .cell) (hc : env.cells.lookup xk = some c) (hxv : env.kindOf xv = some .local) :
    Source w A env (.Tuple [.Name xk pk, .Name xv pv] x1 pt) it g₀ kvs.length (fun i il => ∃ ok ov o, il = [(it, itemObj d i kvs.length ep ok ov), (c, o)] ∧ (∃ v₀, o.data = .cell v₀) ∧ (∀ j, i = j + 1 → ∃ k v t, kvs[j]? = some (k, v) ∧ CellV o (.int k t)))
      (fun i _ m m' => ∃ k v, kvs[i]? = some (k, v) ∧ m' = fun y => if y = xv then some v else m y) where
  item := by
    rintro i il g led s m Q E K hlt ⟨ok, ov, o, rfl, ⟨v₀, hv₀⟩, _⟩ hg F hK h
    have he : IsItemIter s.heap it d i kvs.length ep ok ov := F.here
    have hm : s.heap.DictAt (intKind PR w) d kvs ep := hd.at fun o e => F.keep _ _ (hg _ _ e)
    obtain ⟨kv, hx⟩ : ∃ kv, kvs[i]? = some kv := ⟨kvs[i], by simp [hlt]⟩
    obtain ⟨k, v⟩ := kv
    refine wpAny_pyNext_items_item he hm hx fun key h₁ hkey heo ht₁ hz₁ hk₁ => hK _ _ ?_
    obtain ⟨t, rfl⟩ := isInt_key hkey
    have F₁ := F.updE hk₁ heo
    refine wpAny_letOwnedTupleGo_items heo fun h₂ he₂ hs₂ => ?_
    have F₂ := F₁.upd hs₂ he₂
    have hiH : it < s.heap.objs.size := Heap.lt_size he
    have ht₂ : h₂.IsTuple s.heap.objs.size #[.int k t, v] := ⟨_, (hs₂.2 _ (Nat.ne_of_gt hiH)).trans ht₁, rfl, _, rfl⟩
    refine wpAny_assign_Tuple hh ht₂ rfl rfl fun h₃ hx₃ => ?_
    have F₃ := F₂.ext (sub_of_size hx₃)
    show wpAny _ _ (do holding [v] (assign (.Name xk pk) env (.int k t)); do holding [] (assign (.Name xv pv) env v); pure ()) _ _ _
    have F₃ := F₃.perm (List.Perm.swap _ _ _)
    refine wpAny_bind (wpAny_holding (wpAny_assign_Name (stoC (s := { s with heap := h₃ }) F₃ hv₀ (fun h₄ o₄ hcv F₄ => ?_) hc hk hxk)))
    refine wpAny_bind (wpAny_holding (storeT (s := { s with heap := h₄ }) F₄ hk hxv fun h₅ tk₅ F₅ => wpAny_pure ?_))
    exact h h₅ tk₅ [(it, itemObj d (i + 1) kvs.length ep (.int k t) v), (c, o₄)] _ g (fun _ _ e => e) ⟨_, _, o₄, rfl, ⟨_, hcv⟩, fun j hj => ⟨k, v, t, by rw [← Nat.succ.inj hj]; exact hx, hcv⟩⟩ (F₅.perm (List.Perm.swap _ _ _)) ⟨k, v, hx, rfl⟩
  done := by
    rintro il g led s m E K ⟨ok, ov, o, rfl, _⟩ hg F h
    have he : IsItemIter s.heap it d kvs.length kvs.length ep ok ov := F.here
    have hm : s.heap.DictAt (intKind PR w) d kvs ep := hd.at fun o e => F.keep _ _ (hg _ _ e)
    refine wpAny_pyNext_items_end hh he hm (by simp) fun h' hx => ?_
    exact h h' s.toks (F.out hx).tail
theorem enterC {Q : Value → Shared → Prop} {name qual : Str} {params : Arguments} {body : List Stmt} {scope : Scope} {dV kV doc pm cdv ct oc : Value} {an od : Option Addr} {osl : Array (Option Value)} {f : Addr} {args : List Value} {binds : List (Str × Value)}
    (W : Wd w s.heap) (ho : (K0 w.params).lookup f = some ⟨oc, od, .func (fnOf name qual params body scope dV kV doc pm an cdv ct), osl⟩) (hcd : codeIn (K0 w.params) cdv qual = true) (hroom : A.depth < recursionLimit)
    (hbind : bindArgs (fnOf name qual params body scope dV kV doc pm an cdv ct) ⟨args, []⟩ = pure binds)
    (hkind : ∀ x ∈ binds, scope.names.lookup x.1 = some .local ∨ (scope.names.lookup x.1 = some .cell ∧ ((cellsFrom (s.heap.objs.size + 1) scope.names []).lookup x.1).isSome = true))
    (h : ∀ s₁, InCallC s s.heap.objs.size (bindL (callEnvC (fnOf name qual params body scope dV kV doc pm an cdv ct) s.heap.objs.size f).kindOf binds fun _ => none) (cellsFrom (s.heap.objs.size + 1) scope.names [])
        (bindC (callEnvC (fnOf name qual params body scope dV kV doc pm an cdv ct) s.heap.objs.size f).kindOf binds fun _ => none) s₁ →
      wpAny (model PR w) (A.deeper (callEnvC (fnOf name qual params body scope dV kV doc pm an cdv ct) s.heap.objs.size f)) (execs body (callEnvC (fnOf name qual params body scope dV kV doc pm an cdv ct) s.heap.objs.size f))
        (fun fl s' => Q (match fl with | .ret v => v | _ => .none) s') (fun _ _ => False) s₁)
    (hco : scope.isCoroutine = false) (hgen : scope.isGenerator = false) (hk : scope.kind = .function) : wpAny (model PR w) A (call (.ref f) args) Q E s := by
  refine wpAny_call (codeAny_call_cells (fd := fnOf name qual params body scope dV kV doc pm an cdv ct) (body := body) hroom (W.X _ _ ho) rfl W.nolimit (codeRec_of W.X hcd) rfl hbind rfl hkind (fun s₁ x => ?_) hco hgen hk)
  exact wpAny_mono (h s₁ x) (fun _ _ x => x) (fun _ _ x => x.elim)
end
end Mine
end

section
open PySem PySem.W PySem.Calls PyProof.Rows
set_option maxRecDepth 100000
set_option maxHeartbeats 2000000
namespace Mine
theorem entry_itemiter_iter : entryFor table "dict_itemiterator.__iter__" = some Builtin.«dict_keyiterator.__iter__» :=
  entryFor_alias (id' := "dict_keyiterator.__iter__") (by kernel_rfl) rfl (by decide +kernel) (by kernel_rfl)
theorem pyIter_itemiter {w : World} {A : Around} {s : Shared} {Q E : Value → Shared → Prop} {it d : Addr} {i n ep : Nat} {ok ov : Value} (ho : s.heap.get? it = some (itemObj d i n ep ok ov)) (h : Q (.ref it) s) : wpAny (model PR w) A (pyIter (.ref it)) Q E s := by
  have hT : s.TypeIs (.ref it) "dict_itemiterator" := ⟨_, ho, rfl⟩
  refine wpAny_pyIter_slot hT PySem.F.slot_dict_itemiterator_iter (wpAny_call_entry PySem.F.slot_dict_itemiterator_iter hT entry_itemiter_iter ?_ (PySem.F.args_dict_itemiterator_iter_1 _))
  show wpAny _ _ (ret (.ref it)) _ _ s
  exact wpAny_pure ⟨_, rfl, "dict_itemiterator", _, hT, PySem.F.slot_dict_itemiterator_next.lookup, h⟩
/-- a table's row -/
inductive TblV (w : World) (h : Heap) (v : Value) (cs : List (Int × Int)) : Prop
  | mk (d : Addr) (e : v = .ref d) (hd : DI w h d cs) : TblV w h v cs
theorem TblV.sub {w : World} {h h' : Heap} {v : Value} {cs : List (Int × Int)} (x : TblV w h v cs) (hs : Sub h h') : TblV w h' v cs := let ⟨d, e, hd⟩ := x; ⟨d, e, hd.sub hs⟩
abbrev Tab := List (Int × List (Int × Int))
def farL (whole n : Int) (cs : List (Int × Int)) : List (Int × Int) := (cs.filter fun p => decide (p.1 ≠ n)).map fun p => (p.1, whole * p.2)
def thrJ (ob : Option Int) (near : Int) (l : List (Int × Int)) : List (Int × Int) := match ob with
  | some b => (l.filter fun p => decide (p.1 ≠ near)).map fun p => (p.1, b * p.2)
  | none => []
def thrL (bs : List (Int × Int)) (near : Int) : List (Int × Int) := thrJ (at? bs near) near bs
/-- what _law_struck makes of a table -/
def struckT (tab : Tab) (n : Int) (bs : List (Int × Int)) : Tab := (tab.filter fun p => decide (p.1 ≠ n)).map fun p => (p.1, addC (farL (sumC bs) n p.2) (thrL bs p.1))
/-- a row that was not there before -/
inductive TblN (w : World) (h0 h : Heap) (v : Value) (cs : List (Int × Int)) : Prop
  | mk (d : Addr) (e : v = .ref d) (hd : DI w h d cs) (n : h0.get? d = none) : TblN w h0 h v cs
theorem TblN.sub {w : World} {h0 h h' : Heap} {v : Value} {cs : List (Int × Int)} (x : TblN w h0 h v cs) (hs : Sub h h') : TblN w h0 h' v cs := let ⟨d, e, hd, n⟩ := x; ⟨d, e, hd.sub hs, n⟩
theorem TblN.fresh {w : World} {h0 h h' : Heap} {v : Value} {cs : List (Int × Int)} (x : TblN w h0 h v cs) (hs : Sub h h') : TblV w (freshOf h0 h') v cs :=
  let ⟨d, e, ⟨lo, kvs, hd, r⟩, n⟩ := x; ⟨d, e, lo, kvs, hd.at fun _ q => freshOf_get (hs _ _ q) n, r⟩
section
variable {w : World} {A : Around} {s : Shared} {Q E : Value → Shared → Prop}
theorem struck_ok (W : Wd w s.heap) (hd : A.depth + 3 < recursionLimit) (hh : A.handled = none) (Tb : Addr) (kvs : List (Int × Value)) (tab : Tab) (n : Int) (tn : Tok) (bs : List (Int × Int)) (lowT : sysModules < Tb)
    (hT : s.heap.DictOf (intKind PR w) Tb kvs) (hk : Kvs (TblV w s.heap) kvs tab) (hn : at? tab n = some bs) (hl1 : tab.length ≤ 100) (hl2 : ∀ p ∈ tab, p.2.length ≤ 100) (hm1q : ∀ p ∈ tab, ∀ q ∈ p.2, IntMulOk (sumC bs) q.2) (hm2q : ∀ p ∈ bs, ∀ q ∈ bs, IntMulOk p.2 q.2)
    (h : ∀ s' T Lf kvs' tt, Sub s.heap s'.heap → Rel s s' → s'.heap.IsTuple T #[.int (sumC bs) tt, .ref Lf] → sysModules < Lf → (freshOf s.heap s'.heap).DictOf (intKind PR w) Lf kvs' → Kvs (TblV w (freshOf s.heap s'.heap)) kvs' (struckT tab n bs) → Q (.ref T) s') :
    wpAny (model PR w) A (call (.ref 107) [.ref Tb, .int n tn]) Q E s := by
  refine' enterC (binds := [(Str.ofString "table", .ref Tb), (Str.ofString "node", .int n tn)]) W ?k6 ?k7 (by omega) ?kb ?kd ?_ ?c1 ?c2 ?c3
  (case k6 => k_is)
  (case k7 => k_is)
  (case kb => exact rfl)
  (case kd =>
    intro x hx
    simp only [List.mem_cons, List.not_mem_nil, or_false] at hx
    rcases hx with rfl | rfl
    · exact .inl rfl
    · exact .inr ⟨rfl, rfl⟩)
  (case c1 => exact rfl)
  (case c2 => exact rfl)
  (case c3 => exact rfl)
  intro s₁ xC
  have hs : Sub s.heap s₁.heap := xC.toInCall.keep
  have hr0 : Rel s s₁ := by
    obtain ⟨h', tk, e⟩ := xC.toInCall.same
    rw [e]; exact Rel.same
  obtain ⟨on, hon, hdn⟩ := xC.cell (Str.ofString "node") (s.heap.objs.size + 1) rfl
  obtain ⟨ob, hob, hdb⟩ := xC.cell (Str.ofString "beside") (s.heap.objs.size + 1 + 1) rfl
  obtain ⟨ow, how, hdw⟩ := xC.cell (Str.ofString "whole") (s.heap.objs.size + 1 + 1 + 1) rfl
  obtain ⟨ox, hox, hdx⟩ := xC.cell (Str.ofString "near") (s.heap.objs.size + 1 + 1 + 1 + 1) rfl
  have hns := xC.toInCall.ns
  have hcn : CellV on (.int n tn) := hdn
  have hoL := get_size s.heap
  have ho1 := none_of_ge (h := s.heap) (Nat.le_succ s.heap.objs.size)
  have ho2 := none_of_ge (h := s.heap) (show s.heap.objs.size ≤ s.heap.objs.size + 1 + 1 by omega)
  have ho3 := none_of_ge (h := s.heap) (show s.heap.objs.size ≤ s.heap.objs.size + 1 + 1 + 1 by omega)
  have ho4 := none_of_ge (h := s.heap) (show s.heap.objs.size ≤ s.heap.objs.size + 1 + 1 + 1 + 1 by omega)
  clear xC
  generalize hLL : s.heap.objs.size = L at hon hob how hox hns hoL ho1 ho2 ho3 ho4 ⊢
  have F : Fx s.heap L [(L + 1 + 1, ob), (L + 1 + 1 + 1, ow), (L + 1 + 1 + 1 + 1, ox), (L + 1, on)] s₁.heap _ := ⟨hns, hs, hoL, fun p hp => by
      simp only [List.mem_cons, List.not_mem_nil, or_false] at hp
      rcases hp with rfl | rfl | rfl | rfl
      · exact ⟨hob, by show L + 1 + 1 ≠ L; omega, ho2⟩
      · exact ⟨how, by show L + 1 + 1 + 1 ≠ L; omega, ho3⟩
      · exact ⟨hox, by show L + 1 + 1 + 1 + 1 ≠ L; omega, ho4⟩
      · exact ⟨hon, by show L + 1 ≠ L; omega, ho1⟩, by simp; omega⟩
  obtain ⟨vB, y, hv1, hv2, dB, rfl, hDB⟩ : ∃ v y, valueAt kvs n = some v ∧ at? tab n = some y ∧ TblV w s.heap v y := by
    rcases hk.at? n with x | ⟨_, x⟩
    · exact x
    · rw [hn] at x; cases x
  rw [hn] at hv2
  cases hv2
  have hkey : ∀ k t, (intKind PR w).is k (.int k t) = true := fun k t => by show Value.isInt k (.int k t) = true; simp [Value.isInt]
  refine wpAny_execs_cons (wpAny_Assign_Name (Subscript_ (nm (s := s₁) F rfl (nmC (s := s₁) (F.get (a := L + 1) (o := on) (by simp)) hcn ?_))))
  have hmp : s₁.heap.MapOf (intKind PR w) Tb (valueAt kvs) := (hT.at fun o e => F.keep _ _ e : s₁.heap.DictOf (intKind PR w) Tb kvs).mapOf
  refine tail_any hmp.typeIs slot_dict_getitem.lookup (wpAny_getItem_of (hkey n tn) hmp hv1 ?_) (by with_unfolding_all rfl)
  refine stoC (s := { s₁ with toks := _ }) F hdb fun h₂ ob' hcb F => ?_
  have F := F.perm (List.Perm.swap _ _ _)
  refine wpAny_execs_cons (wpAny_Assign_Name (fcall (s := { s₁ with heap := h₂, toks := _ }) F W (by k_is) (by k_is) ?_))
  refine wpAny_items_cons (nmC (s := { s₁ with heap := h₂, toks := _ }) (F.get (a := L + 1 + 1) (o := ob') (by simp)) hcb (wpAny_items_nil ⟨F.toSub, ?_⟩))
  refine count_calls_ok (W.keeps F.toSub) (deeper_ok (n := 1) (by omega)) (by exact hh) dB bs (hDB.sub F.toSub) fun s₂ tw hs₂ hr₂ => ?_
  have F := F.ext hs₂
  refine stoC (s := s₂) F hdw fun h₃ ow' hcw F => ?_
  have lowL : sysModules < h₃.objs.size := modules_low (W.keeps F.toSub).nolimit
  have hLfn : s.heap.get? h₃.objs.size = none := none_of_sub F.toSub (get_size _)
  have hr₃ : Rel s s₂ := ⟨fun x => hr₂.gens (hr0.gens x), hr₂.os.trans hr0.os⟩
  refine wpAny_execs_cons (wpAny_Assign_Name (wpAny_Dict_empty (sto (s := { s₂ with heap := _, toks := _ }) (F.push (o := dictObj0)) fun h₄ F => ?_)))
  generalize hLf : h₃.objs.size = Lf at lowL hLfn F ⊢
  -- the cells that stay
  have F := F.perm (List.Perm.swap _ _ _)
  obtain ⟨g₁, F, hg₁, hw₁⟩ := F.still
  have F := F.perm (List.Perm.swap _ _ _)
  obtain ⟨g₂, F, hg₂, hb₂⟩ := F.still
  have F := F.perm (show List.Perm [(L + 1, on), (Lf, dictObj0), (L + 1 + 1 + 1 + 1, ox)] [(Lf, dictObj0), (L + 1 + 1 + 1 + 1, ox), (L + 1, on)] from (List.perm_append_comm (l₁ := [(L + 1, on)]) (l₂ := [(Lf, dictObj0), (L + 1 + 1 + 1 + 1, ox)])))
  obtain ⟨g₃, F, hg₃, hn₃⟩ := F.still
  have hw₃ := hg₃ _ _ (hg₂ _ _ hw₁)
  have hb₃ := hg₃ _ _ hb₂
  have hs₃ : Sub s.heap g₃ := hg₁.trans (hg₂.trans hg₃)
  have W₃ : Wd w g₃ := W.keeps hs₃
  clear hw₁ hb₂
  have F := F.perm (List.Perm.swap _ _ _)
  obtain ⟨oT, es, ep, hoT, rT⟩ := id hT
  have hTA : g₃.DictAt (intKind PR w) Tb kvs ep := ⟨oT, es, hs₃ _ _ hoT, rT⟩
  have hTabNd : (tab.map (·.1)).Nodup := by
    have := rT.2.2.2.2
    rw [← hk.keys]; exact this
  refine wpAny_execs_cons (for_start fun R hR => ?_)
  refine wpAny_Call_items (s := { s₂ with heap := h₄, toks := _ }) (low_ne lowT) (hT.at fun o e => (hs₃.trans F.toSub) _ _ e) (by rfl) (by rfl) (fun Q' hq => nm F rfl hq) ?_
  have F := F.ext (Sub.push h₄ { cls := .type "dict_items", data := .fields #[.ref Tb] })
  refine wpAny_pyIter_items (s := { s₂ with heap := _, toks := _ }) (knd := intKind PR w) (d := Tb) (kvs := kvs) (ep := ep) ⟨_, Heap.get?_push_size _ rfl, rfl, rfl⟩ (hTA.at fun o e => F.keep _ _ e) ?_
  have F := F.push (o := itemObj Tb 0 kvs.length ep .none .none)
  refine forS2 (s := { s₂ with heap := _, toks := _ }) (Source.itemsC (kvs := kvs) (ep := ep) (d := Tb) (g₀ := g₃) (c := L + 1 + 1 + 1 + 1) ?hh hTA ?ek ?ex ?ec ?ev)
    (fun i m g' led => ∃ o kvs', led = [(Lf, o)] ∧ o.IsDictOf (intKind PR w) kvs' ∧ Kvs (TblN w s.heap g') kvs' (struckT (tab.take i) n bs) ∧ Sub g₃ g' ∧ m (Str.ofString "left") = some (.ref Lf))
    (il := [_, _]) (led := [(Lf, dictObj0)]) F (fun _ _ e => e) ⟨.none, .none, ox, rfl, ⟨_, hdx⟩, fun j hj => by cases hj⟩ ⟨dictObj0, [], rfl, empty_dict, by simpa [struckT] using All2.nil, fun _ _ e => e, rfl⟩
    (fun i m g' g'' led hs ⟨o, kvs', h1, h2, h3, h4, h5⟩ => ⟨o, kvs', h1, h2, h3.mono fun a b x => ⟨x.1, x.2.sub hs⟩, h4.trans hs, h5⟩) ?st ?dn
  (case hh => exact hh)
  (case ek => rfl)
  (case ex => rfl)
  (case ec => rfl)
  (case ev => rfl)
  · rintro i m₁ m₂ g₄ il₂ led₁ s₅ hlt hg₄ ⟨o, kvs', rfl, ho, hkv, hg₄', hm1⟩ ⟨k, v, hx, rfl⟩ ⟨ok, ov, ox', rfl, _, hcx⟩ F hr
    obtain ⟨k', v', tk, hx', hcx⟩ := hcx i rfl
    rw [hx] at hx'
    cases hx'
    obtain ⟨⟨ck, cs⟩, hc, e1, dC, hvd, hDC⟩ := hk.get hx
    dsimp only at e1 hvd hDC
    subst e1 hvd
    have hcx' : ∀ j, i + 1 = j + 1 → ∃ k' v' t', kvs[j]? = some (k', v') ∧ CellV ox' (.int k' t') := fun j hj => by
      have := Nat.succ.inj hj
      subst this
      exact ⟨k, _, tk, hx, hcx⟩
    have hw₄ := hg₄ _ _ hw₃
    have hb₄ := hg₄ _ _ hb₃
    have hn₄ := hg₄ _ _ hn₃
    have W₄ := W₃.keeps hg₄
    have htake : struckT (tab.take (i + 1)) n bs = struckT (tab.take i) n bs ++ (if k ≠ n then [(k, addC (farL (sumC bs) n cs) (thrL bs k))] else []) := by
      unfold struckT
      rw [List.take_add_one, hc, List.filter_append, List.map_append]
      congr 1
      by_cases hkn : k = n
      · simp [hkn]
      · simp [hkn]
    have hlen4 : kvs'.length ≤ 100 := by
      have h1 := hkv.length
      have h2 : (struckT (tab.take i) n bs).length ≤ (tab.take i).length := by
        unfold struckT; rw [List.length_map]; exact List.length_filter_le _ _
      rw [List.length_take] at h2
      omega
    have hcmem : (k, cs) ∈ tab := List.mem_of_getElem? hc
    have hbmem : (n, bs) ∈ tab := at_mem hn
    have hcl := hl2 _ hcmem
    have hbl := hl2 _ hbmem
    dsimp only at hcl hbl
    refine wpAny_execs_cons (wpAny_If (wpAny_isTrue_Compare1 (nmC (s := s₅) (F.get (a := L + 1 + 1 + 1 + 1) (o := ox') (by simp)) hcx (nmC (s := s₅) (F.keep _ _ hn₄) hcn (PyProof.Rows.ne_int (wpAny_truthy_bool ?_))))))
    by_cases hkn : k = n
    · refine ite_neg (by simp [hkn]) (wpAny_execs_nil (wpAny_execs_nil ⟨Rel.same, _, g₄, [(Lf, o)], _, fun _ _ e => e, ⟨ok, ov, ox', rfl, ⟨_, hcx⟩, hcx'⟩, F, o, kvs', rfl, ho, ?_, hg₄', hm1⟩))
      rw [htake, if_neg (by simpa using hkn), List.append_nil]
      exact hkv
    · refine ite_pos (by simpa using hkn) ?_
      -- far
      have hDC₄ : DI w g₄ dC cs := hDC.sub (hs₃.trans hg₄)
      have hDB₄ : DI w g₄ dB bs := hDB.sub (hs₃.trans hg₄)
      have hcnd := hDC.nodup
      have hbnd := hDB.nodup
      obtain ⟨lowC, kc, hdC, hkc⟩ := id hDC₄
      obtain ⟨lowB, kb, hdB, hkb⟩ := id hDB₄
      obtain ⟨oC, esC, epC, hoC, rC⟩ := id hdC
      obtain ⟨oB, esB, epB, hoB, rB⟩ := id hdB
      refine wpAny_execs_cons (assign_dictcomp (cl := [(Str.ofString "whole", L + 1 + 1 + 1), (Str.ofString "node", L + 1)]) ?fa ?fb)
      (case fb => exact rfl)
      refine wpAny_Call_items (s := s₅) (low_ne lowC) (hdC.at fun o e => F.keep _ _ e) (by rfl) (by rfl) (fun Q' hq => nm F rfl hq) ?_
      have hF5 := F.toSub
      have hm1' := hm1q _ hcmem
      have F := F.ext (Sub.push s₅.heap { cls := .type "dict_items", data := .fields #[.ref dC] })
      refine wpAny_pyIter_items (s := { s₅ with heap := _, toks := _ }) (knd := intKind PR w) (d := dC) (kvs := kc) (ep := epC) ⟨_, Heap.get?_push_size _ rfl, rfl, rfl⟩ ⟨oC, esC, F.keep _ _ hoC, rC⟩ ?_
      have F := F.push (o := itemObj dC 0 kc.length epC .none .none)
      refine blockD (s₂ := { s₅ with heap := _, toks := _ }) (il := [_]) (N := kc.length) (g₂ := g₄) (St := itemSt _ dC kc.length epC)
        (fun j xs => Kvs isI xs (farL (sumC bs) n (cs.take j))) F (fun C => Source.items ?hh2 ⟨oC, esC, hoC, rC⟩ rfl rfl rfl) ?slf ⟨.none, .none, rfl⟩ (by simpa [farL] using All2.nil) (by have := hkc.length; omega) ?sz ?stp ?don (by decide) rfl
      (case hh2 => exact hh)
      (case slf => exact fun s' G C led' m' F' Q' E' hq => pyIter_itemiter F'.here hq)
      (case sz =>
        intro j xs hx
        have h1 := hx.length
        have h2 : (farL (sumC bs) n (cs.take j)).length ≤ (cs.take j).length := by unfold farL; rw [List.length_map]; exact List.length_filter_le _ _
        rw [List.length_take] at h2
        omega)
      (case stp =>
        rintro C D j m₅ m₆ G₂ il₅ kvD oD s₆ hj hgG hled hP hoD ⟨k₆, v₆, t₆, hx₆, rfl⟩ F₆ hr₆
        obtain ⟨c₆, hc₆, e1, t₇, e2⟩ := hkc.get hx₆
        dsimp only at e1 e2
        subst e1 e2
        have hfar : farL (sumC bs) n (cs.take (j + 1)) = farL (sumC bs) n (cs.take j) ++ (if c₆.1 ≠ n then [(c₆.1, sumC bs * c₆.2)] else []) := by
          unfold farL
          rw [List.take_add_one, hc₆, List.filter_append, List.map_append]
          congr 1
          by_cases hkn : c₆.1 = n
          · simp [hkn]
          · simp [hkn]
        refine wpAny_tests_one (wpAny_isTrue_Compare1 (nm F₆ rfl (nmC (F₆.keep _ _ (hgG _ _ hn₄)) hcn (PyProof.Rows.ne_int (wpAny_truthy_bool ?_)))))
        by_cases hkn6 : c₆.1 = n
        · refine (if_neg (by simp [hkn6])).mpr ⟨Rel.refl _, _, F₆, ?_⟩
          rw [hfar, if_neg (by simpa using hkn6), List.append_nil]
          exact hP
        · refine (if_pos (by simpa using hkn6)).mpr (nm F₆ rfl (wpAny_BinOp (nmC (F₆.keep _ _ (hgG _ _ hw₄)) hcw (nm F₆ rfl (mul_int ?_ ?_)))))
          · refine ⟨Rel.same, _, c₆.1, t₆, rfl, F₆, ?_⟩
            rw [hfar, if_pos hkn6]
            have hput : farL (sumC bs) n (cs.take j) ++ [(c₆.1, sumC bs * c₆.2)] = put (farL (sumC bs) n (cs.take j)) c₆.1 (sumC bs * c₆.2) := by
              refine (put_new _ fun hm => ?_).symm
              obtain ⟨p, hp, e⟩ := List.mem_map.mp hm
              unfold farL at hp
              obtain ⟨q, hq, rfl⟩ := List.mem_map.mp hp
              have hq' := (List.mem_filter.mp hq).1
              rw [← List.take_append_drop j cs, List.map_append, List.nodup_append] at hcnd
              refine hcnd.2.2 q.1 (List.mem_map_of_mem hq') c₆.1 ?_ e
              obtain ⟨hj', ec⟩ := List.getElem?_eq_some_iff.mp hc₆
              rw [List.drop_eq_getElem_cons hj', ec]
              exact .head _
            rw [hput]
            exact hP.put c₆.1 ⟨_, rfl⟩
          · exact hm1' _ (List.mem_of_getElem? hc₆))
      intro s₆ C D kv1 o1 mC hD hDsz hC hDC hP1 ho1 hnC hFx hCL hr₆
      have lowD1 : sysModules < D := by rw [hDsz]; exact modules_low (W₄.keeps F.toSub).nolimit
      rw [show cs.take kc.length = cs by rw [hkc.length, List.take_length]] at hP1
      refine useStore (hFx s₆.heap (Heap.SameBut.refl _ _)) hnC hCL (none_of_sub F.toSub hC) (fun hm => ?_) rfl rfl fun h₇ tk₇ F => ?_
      · rcases List.mem_cons.mp hm with q | q
        · exact hDC q.symm
        · exact F.isSome (.tail _ q) hC
      show wpAny _ _ _ _ _ _
      obtain ⟨g₅, F, hg₅, hD1⟩ := F.still
      have hDI1 : DI w g₅ D (farL (sumC bs) n cs) := ⟨lowD1, kv1, Heap.dictOf_iff.mpr ⟨o1, hD1, ho1⟩, hP1⟩
      have hrA : Rel s₅ { s₆ with heap := h₇, toks := tk₇ } := ⟨hr₆.gens, hr₆.os⟩
      generalize hsA : ({ s₆ with heap := h₇, toks := tk₇ } : Shared) = sA at hrA ⊢
      have hhA : sA.heap = h₇ := by rw [← hsA]
      rw [← hhA] at F
      clear hsA hhA
      have W₅' := W₄.keeps hg₅
      -- through
      refine wpAny_execs_cons (assign_dictcomp (cl := [(Str.ofString "near", L + 1 + 1 + 1 + 1), (Str.ofString "beside", L + 1 + 1)]) ?ta ?tb)
      (case tb => exact rfl)
      refine wpAny_Call_items (s := sA) (low_ne lowB) (hdB.at fun o e => (hg₅.trans F.toSub) _ _ e) (by rfl) (by rfl) (fun Q' hq => nmC (F.keep _ _ (hg₅ _ _ hb₄)) hcb hq) ?_
      have hF5 := F.toSub
      have F := F.ext (Sub.push sA.heap { cls := .type "dict_items", data := .fields #[.ref dB] })
      refine wpAny_pyIter_items (s := { sA with heap := _, toks := _ }) (knd := intKind PR w) (d := dB) (kvs := kb) (ep := epB) ⟨_, Heap.get?_push_size _ rfl, rfl, rfl⟩ ⟨oB, esB, F.keep _ _ (hg₅ _ _ hoB), rB⟩ ?_
      have F := F.push (o := itemObj dB 0 kb.length epB .none .none)
      refine blockD (s₂ := { sA with heap := _, toks := _ }) (il := [_]) (N := kb.length) (g₂ := g₅) (St := itemSt _ dB kb.length epB)
        (fun j xs => Kvs isI xs (thrJ (at? bs k) k (bs.take j))) F (fun C => Source.items ?hh3 ⟨oB, esB, hg₅ _ _ hoB, rB⟩ rfl rfl rfl) ?slf2 ⟨.none, .none, rfl⟩ (by cases at? bs k <;> simpa [thrJ] using All2.nil) (by have := hkb.length; omega) ?sz2 ?stp2 ?don2 (by decide) rfl
      (case hh3 => exact hh)
      (case slf2 => exact fun s' G C led' m' F' Q' E' hq => pyIter_itemiter F'.here hq)
      (case sz2 =>
        intro j xs hx
        have h1 := hx.length
        have h2 : (thrJ (at? bs k) k (bs.take j)).length ≤ (bs.take j).length := by
          cases at? bs k with
          | none => exact Nat.zero_le _
          | some b => unfold thrJ; rw [List.length_map]; exact List.length_filter_le _ _
        rw [List.length_take] at h2
        omega)
      (case stp2 =>
        rintro C D2 j m₅ m₆ G₂ il₅ kvD oD s₆ hj hgG hled hP hoD ⟨k₆, v₆, t₆, hx₆, rfl⟩ F₆ hr₆
        obtain ⟨c₆, hc₆, e1, t₇, e2⟩ := hkb.get hx₆
        dsimp only at e1 e2
        subst e1 e2
        have hnr : s₆.heap.get? (L + 1 + 1 + 1 + 1) = some ox' := F₆.keep _ _ (hled (L + 1 + 1 + 1 + 1, ox') (by simp))
        have hbr : s₆.heap.get? (L + 1 + 1) = some ob' := F₆.keep _ _ (hgG _ _ (hg₅ _ _ hb₄))
        have hmp : ∀ (sx : Shared), sx.heap = s₆.heap → sx.heap.MapOf (intKind PR w) dB (valueAt kb) := fun sx e => by rw [e]; exact (hdB.at fun o e => F₆.keep _ _ (hgG _ _ (hg₅ _ _ e)) : s₆.heap.DictOf (intKind PR w) dB kb).mapOf
        refine wpAny_tests_one (isTrue_and (wpAny_isTrue_Compare1 (nmC hnr hcx (nmC hbr hcb ?_))))
        refine wpAny_in_of (hkey k tk) (low_ne lowB) (hmp s₆ rfl) (wpAny_truthy_bool ?_)
        rcases hkb.at? k with ⟨vb, b, h1, h2, tb, rfl⟩ | ⟨h1, h2⟩
        · rw [h1]
          refine (if_pos rfl).mpr ?_
          have hthr : thrJ (at? bs k) k (bs.take (j + 1)) = thrJ (at? bs k) k (bs.take j) ++ (if c₆.1 ≠ k then [(c₆.1, b * c₆.2)] else []) := by
            rw [h2]
            unfold thrJ
            dsimp only
            rw [List.take_add_one, hc₆, List.filter_append, List.map_append]
            congr 1
            by_cases hkn : c₆.1 = k
            · simp [hkn]
            · simp [hkn]
          refine isTrue_and (wpAny_isTrue_Compare1 (nm (s := { s₆ with toks := _ }) F₆ rfl (nmC hnr hcx (PyProof.Rows.ne_int (wpAny_truthy_bool ?_)))))
          by_cases hkn6 : c₆.1 = k
          · refine (if_neg (by simp [hkn6])).mpr ((if_neg Bool.false_ne_true).mpr ⟨⟨id, rfl⟩, _, F₆, ?_⟩)
            rw [hthr, if_neg (by simpa using hkn6), List.append_nil]
            exact hP
          · refine (if_pos (by simpa using hkn6)).mpr (isTrue_and_nil ((if_pos rfl).mpr (nm (s := { s₆ with toks := _ }) F₆ rfl (wpAny_BinOp (Subscript_ (nmC hbr hcb (nmC hnr hcx ?_)))))))
            refine tail_any (s := { s₆ with toks := _ }) (hmp s₆ rfl).typeIs slot_dict_getitem.lookup (wpAny_getItem_of (hkey k tk) (hmp _ rfl) h1 ?_) (by with_unfolding_all rfl)
            refine nm (s := { s₆ with toks := _ }) F₆ rfl (mul_int ?_ ?_)
            · refine ⟨⟨id, rfl⟩, _, c₆.1, t₆, rfl, F₆, ?_⟩
              rw [hthr, if_pos hkn6]
              have hput : thrJ (at? bs k) k (bs.take j) ++ [(c₆.1, b * c₆.2)] = put (thrJ (at? bs k) k (bs.take j)) c₆.1 (b * c₆.2) := by
                refine (put_new _ fun hm => ?_).symm
                obtain ⟨p, hp, e⟩ := List.mem_map.mp hm
                rw [h2] at hp
                obtain ⟨q, hq, rfl⟩ := List.mem_map.mp hp
                have hq' := (List.mem_filter.mp hq).1
                rw [← List.take_append_drop j bs, List.map_append, List.nodup_append] at hbnd
                refine hbnd.2.2 q.1 (List.mem_map_of_mem hq') c₆.1 ?_ e
                obtain ⟨hj', ec⟩ := List.getElem?_eq_some_iff.mp hc₆
                rw [List.drop_eq_getElem_cons hj', ec]
                exact .head _
              rw [hput]
              exact hP.put c₆.1 ⟨_, rfl⟩
            · exact hm2q _ (at_mem h2) _ (List.mem_of_getElem? hc₆)
        · rw [h1]
          refine (if_neg (by decide)).mpr ((if_neg Bool.false_ne_true).mpr ⟨⟨id, rfl⟩, _, F₆, ?_⟩)
          rw [h2] at hP ⊢
          exact hP)
      intro s₇ C₂ D₂ kv2 o2 mC₂ hDn hDsz₂ hCn hDC₂ hP2 ho2 hnC₂ hFx₂ hCL₂ hr₇
      have lowD2 : sysModules < D₂ := by rw [hDsz₂]; exact modules_low (W₅'.keeps F.toSub).nolimit
      rw [show bs.take kb.length = bs by rw [hkb.length, List.take_length]] at hP2
      refine useStore (hFx₂ s₇.heap (Heap.SameBut.refl _ _)) hnC₂ hCL₂ (none_of_sub F.toSub hCn) (fun hm => ?_) rfl rfl fun h₈ tk₈ F => ?_
      · rcases List.mem_cons.mp hm with q | q
        · exact hDC₂ q.symm
        · exact F.isSome (.tail _ q) hCn
      show wpAny _ _ _ _ _ _
      obtain ⟨g₆, F, hg₆, hD2⟩ := F.still
      have hDI2 : DI w g₆ D₂ (thrL bs k) := ⟨lowD2, kv2, Heap.dictOf_iff.mpr ⟨o2, hD2, ho2⟩, hP2⟩
      have hrB : Rel s₅ { s₇ with heap := h₈, toks := tk₈ } := ⟨fun x => hr₇.gens (hrA.gens x), hr₇.os.trans hrA.os⟩
      generalize hsB : ({ s₇ with heap := h₈, toks := tk₈ } : Shared) = sB at hrB ⊢
      have hhB : sB.heap = h₈ := by rw [← hsB]
      rw [← hhB] at F
      clear hsB hhB
      have W₇ := W₅'.keeps hg₆
      refine wpAny_execs_cons (wpAny_Assign_Subscript (fcall (s := sB) F W₇ (by k_is) (by k_is) ?_))
      refine wpAny_items_cons (nm (s := sB) F rfl (wpAny_items_cons (nm F rfl (wpAny_items_nil ⟨F.toSub, ?_⟩))))
      have hsB₈ := F.toSub
      refine add_callers_ok (W₇.keeps F.toSub) (deeper_ok (n := 1) (by omega)) (by exact hh) D D₂ (farL (sumC bs) n cs) (thrL bs k) (hDI1.sub (hg₆.trans F.toSub)) (hDI2.sub F.toSub) ?_ fun s₈ d' hs₈ hr₈ hn₈ hd₈ => ?_
      · have h1 : (farL (sumC bs) n cs).length ≤ cs.length := by unfold farL; rw [List.length_map]; exact List.length_filter_le _ _
        have h2 : (thrL bs k).length ≤ bs.length := by
          unfold thrL
          cases at? bs k with
          | none => exact Nat.zero_le _
          | some b => unfold thrJ; rw [List.length_map]; exact List.length_filter_le _ _
        omega
      obtain ⟨lowd', kv3, hd3, hkv3⟩ := hd₈
      obtain ⟨o3, ho3, hdo3⟩ := Heap.dictOf_iff.mp hd3
      obtain ⟨g₇, F, hg₇, hd'⟩ := (F.new hs₈ hn₈ ho3).still
      refine nm (s := s₈) F hm1 (nmC (F.get (a := L + 1 + 1 + 1 + 1) (o := ox') (by simp)) hcx ?_)
      have F := F.perm (List.perm_append_comm (l₁ := [(Lf, o)]) (l₂ := [(_, itemObj Tb (i + 1) kvs.length ep ok ov), (L + 1 + 1 + 1 + 1, ox')]))
      refine setD F ho (by rw [sizeLine_eq]; omega) fun h₉ o₉ F ho₉ => wpAny_execs_nil (wpAny_execs_nil ?_)
      have F := F.perm (List.perm_append_comm (l₁ := [(_, itemObj Tb (i + 1) kvs.length ep ok ov), (L + 1 + 1 + 1 + 1, ox')]) (l₂ := [(Lf, o₉)]))
      refine ⟨⟨fun x => hr₈.gens (hrB.gens x), hr₈.os.trans hrB.os⟩, _, g₇, [(Lf, o₉)], _, hg₅.trans (hg₆.trans hg₇), ⟨ok, ov, ox', rfl, ⟨_, hcx⟩, hcx'⟩, F, o₉, _, rfl, ho₉, ?_, hg₄'.trans (hg₅.trans (hg₆.trans hg₇)), hm1⟩
      rw [htake, if_pos hkn]
      have hput : struckT (tab.take i) n bs ++ [(k, addC (farL (sumC bs) n cs) (thrL bs k))] = put (struckT (tab.take i) n bs) k (addC (farL (sumC bs) n cs) (thrL bs k)) := by
        refine (put_new _ fun hm => ?_).symm
        obtain ⟨p, hp, e⟩ := List.mem_map.mp hm
        unfold struckT at hp
        obtain ⟨q, hq, rfl⟩ := List.mem_map.mp hp
        have hq' := (List.mem_filter.mp hq).1
        rw [← List.take_append_drop i tab, List.map_append, List.nodup_append] at hTabNd
        refine hTabNd.2.2 q.1 (List.mem_map_of_mem hq') k ?_ e
        obtain ⟨hi', ec⟩ := List.getElem?_eq_some_iff.mp hc
        rw [List.drop_eq_getElem_cons hi', ec]
        exact .head _
      rw [hput]
      exact Kvs.put (hkv.mono fun a b x => ⟨x.1, x.2.sub (hg₅.trans (hg₆.trans hg₇))⟩) k ⟨d', rfl, ⟨lowd', kv3, Heap.dictOf_iff.mpr ⟨o3, hd', hdo3⟩, hkv3⟩, none_of_sub (hs₃.trans (hg₄.trans (hg₅.trans (hg₆.trans hsB₈)))) hn₈⟩
  · intro s' m' g' led' hg' hU F hr
    obtain ⟨o, kvs', rfl, ho, hkv, hgg', hm1⟩ := hU
    refine hR _ _ ?_
    rw [List.take_of_length_le (by rw [hk.length]; exact Nat.le_refl _)] at hkv
    refine wpAny_execs_cons (wpAny_Return_some (wpAny_Tuple (wpAny_items_cons (nmC (s := s') (F.keep _ _ (hgg' _ _ hw₃)) hcw (wpAny_items_cons (nm F hm1 (wpAny_items_nil ⟨by show (2 : Nat) ≤ sizeLine; rw [sizeLine_eq]; omega, ?_⟩)))))))
    have hTw := Sub.push s'.heap { cls := .type "tuple", data := .seq [Value.int (sumC bs) tw, Value.ref Lf].toArray }
    exact h _ _ Lf kvs' tw ((hs₃.trans (hgg'.trans F.toSub)).trans hTw) ⟨fun x => hr.gens (hr₃.gens x), hr.os.trans hr₃.os⟩ ⟨_, Heap.get?_push_size _ rfl, rfl, 0, rfl⟩ lowL (Heap.dictOf_iff.mpr ⟨o, freshOf_get (hTw _ _ F.here) hLfn, ho⟩) (hkv.mono fun a b x => ⟨x.1, x.2.fresh (F.toSub.trans hTw)⟩)
end
end Mine
end

section
open PySem PySem.W PySem.Calls PyProof.Rows
set_option maxRecDepth 100000
set_option maxHeartbeats 8000000
namespace Mine
local macro_rules | `(tactic| walk_at "my_enter") => `(tactic| (
  (case k6 => k_is); (case k7 => k_is); (case k9 => exact BindsTo.of_eq rfl); (case kB => exact locs rfl); (case c2 => exact rfl); (case c3 => exact rfl); (case c4 => exact rfl); (case c5 => decide)))
def treesN : Net → Int
  | .wire _ k => wid k
  | .ser a b => treesN a * treesN b
  | .par a b => treesN a * pairsN b + pairsN a * treesN b
where pairsN : Net → Int
  | .wire _ _ => 1
  | .ser a b => treesN a * pairsN b + pairsN a * treesN b
  | .par a b => pairsN a * pairsN b
abbrev pairsN := treesN.pairsN
def ridT (r : Fin 6) : List Nat := [[], [34, 40, 34], [92, 41], [34, 43, 41, 34], [92, 124], [34, 92, 34, 40, 34]].getD r.val []
/-- a net's text, with its riders -/
def X : Net → List Nat
  | .wire r k => ridT r ++ [sgn k]
  | .ser a b => [40] ++ X a ++ [43] ++ X b ++ [41]
  | .par a b => [40] ++ X a ++ [124] ++ X b ++ [41]
theorem X_len : ∀ n : Net, (X n).length + 3 ≤ 9 * nw n
  | .wire r k => by revert r k; decide
  | .ser a b => by have := X_len a; have := X_len b; have := dep_nw a; have := dep_nw b; simp [X, nw]; omega
  | .par a b => by have := X_len a; have := X_len b; have := dep_nw a; have := dep_nw b; simp [X, nw]; omega
inductive RowN (h : Heap) (v : Value) (n : Net) : Prop
  | mk (t : Addr) (k0 k1 k2 : Tok) (e : v = .ref t) (ht : h.IsTuple t #[.str ⟨(X n).toArray⟩ k0, .int (treesN n) k1, .int (pairsN n) k2]) : RowN h v n
theorem RowN.sub {h h' : Heap} {v : Value} {n : Net} (x : RowN h v n) (hs : Sub h h') : RowN h' v n := let ⟨t, k0, k1, k2, e, ht⟩ := x; ⟨t, k0, k1, k2, e, IsTuple.sub ht hs⟩
def Num (z : Int) : Prop := 0 ≤ z ∧ z < 1000000
section
variable {w : World} {A : Around} {s : Shared} {Q E : Value → Shared → Prop} {g : Heap} {L : Addr} {led : Led} {m : Str → Option Value} {env : Env}
theorem assign_listcomp {cl : List (Str × Addr)} {elt target iter : Expr} {ifs : List Expr} {scope : Scope} {pos py spos : Pos} {y : Str} {Q : Flow → Shared → Prop} {E : Value → Shared → Prop}
    (h : wpAny (model PR w) A (eval iter env) (fun xv s₁ => wpAny (model PR w) A (pyIter xv) (fun it s₂ => BlockL w A E env elt target iter ifs scope pos cl (some (assign (.Name y py) env)) (fun _ s' => Q .next s') it s₂) E s₁) E s)
    (hclos : closureFor scope env = pure cl) (hsw : swapsWith (.ListComp elt [⟨target, iter, ifs, 0⟩] scope pos) (some (.Name y py)) spos.line env = pure true := by rfl) (hkind : scope.kind = .function := by rfl) (hnames : ∀ x ∈ scope.names, x.2 = .local → scope.names.lookup x.1 = some .local := by decide)
    (hs : ∀ x, foldedSetIterable iter env x = pure x := by intro _; rfl) :
    wpAny (model PR w) A (exec (.Assign [.Name y py] (.ListComp elt [⟨target, iter, ifs, 0⟩] scope pos) spos) env) Q E s := by
  rw [exec_Assign_Name_used _ _ _ _ hsw]
  refine wpAny_bind (wpAny_standAt (wpAny_bind ?_))
  show wpAny _ A (do let _ ← comprehension (.ListComp elt [⟨target, iter, ifs, 0⟩] scope pos) scope env _ (newList []) false (eval iter env) (some (assign (.Name y py) env))) _ _ s
  exact wpAny_bind (wpAny_mono (wpAny_comprehension_free (use := some (assign (.Name y py) env)) (Q := fun _ s' => Q .next s') rfl hs hclos hkind hnames h) (fun _ s' hq => wpAny_pure (wpAny_pure hq)) fun _ _ e => e)
theorem add_lst {l b : Addr} {xs ys : Array Value} {n1 n2 : Nat} {Q : Value → Shared → Prop} (hl : s.heap.get? l = some (lstObj xs n1)) (hb : s.heap.get? b = some (lstObj ys n2)) (hsz : xs.size + ys.size ≤ 1000)
    (h : Q (.ref s.heap.objs.size) { s with heap := s.heap.push (lstObj (xs ++ ys) 0) }) : wpAny (model PR w) A (binaryOp .Add (.ref l) (.ref b)) Q E s :=
  P.add_list hl hb h (by rw [sizeLine_eq]; omega)
def widL : List Int := [12, 11, 13, 15, 16, 17, 19, 20, 21, 23, 24, 31, 32, 49, 54]
theorem fmod_nat (a b : Nat) : ((a : Int)).fmod (b : Int) = ((a % b : Nat) : Int) := by rw [Int.fmod_eq_emod_of_nonneg _ (by omega)]; rfl
theorem fdiv_nat (a b : Nat) : ((a : Int)).fdiv (b : Int) = ((a / b : Nat) : Int) := by rw [Int.fdiv_eq_ediv_of_nonneg _ (by omega)]; rfl
def ridL : List (List Nat) := [[], [34, 40, 34], [92, 41], [34, 43, 41, 34], [92, 124], [34, 92, 34, 40, 34]]
theorem rid_at (r : Fin 6) : ridL[r.val]? = some (ridT r) ∧ (ridT r).length ≤ 5 := by revert r; decide
theorem sgn_at (k : Fin 15) : Txt.item (Str.ofString ",:;-*/&<>.%~^@!") (k.val : Nat) = ⟨#[sgn k]⟩ ∧ fitsSsize ((k.val : Nat) : Int) = true := by revert k; decide
theorem wid_at (k : Fin 15) : ([12, 11, 13, 15, 16, 17, 19, 20, 21, 23, 24, 31, 32, 49, 54] : List Int)[k.val]? = some (wid k) := by revert k; decide
theorem tp_bound : ∀ n : Net, (0 ≤ treesN n ∧ treesN n ≤ 2 ^ (8 * nw n - 1)) ∧ (0 ≤ pairsN n ∧ pairsN n ≤ 2 ^ (8 * nw n - 1)) := by
  have mul : ∀ {a b x y : Int}, 0 ≤ a → a ≤ x → 0 ≤ b → b ≤ y → 0 ≤ a * b ∧ a * b ≤ x * y := fun ha hx hb hy => ⟨Int.mul_nonneg ha hb, Int.mul_le_mul hx hy hb (Int.le_trans ha hx)⟩
  have pw : ∀ p q : Nat, 1 ≤ p → 1 ≤ q → (2 : Int) ^ (8 * (p + q) - 1) = 2 * (2 ^ (8 * p - 1) * 2 ^ (8 * q - 1)) := by
    intro p q hp hq
    rw [← Int.pow_add, show 8 * (p + q) - 1 = (8 * p - 1 + (8 * q - 1)) + 1 by omega, Int.pow_succ]; omega
  intro n
  induction n with
  | wire r k => exact (show ∀ k : Fin 15, (0 ≤ wid k ∧ wid k ≤ 2 ^ 7) ∧ ((0 : Int) ≤ 1 ∧ (1 : Int) ≤ 2 ^ 7) by decide) k
  | ser a b iha ihb =>
    obtain ⟨⟨a1, a2⟩, a3, a4⟩ := iha
    obtain ⟨⟨b1, b2⟩, b3, b4⟩ := ihb
    have ha := dep_nw a
    have hb := dep_nw b
    have e := pw (nw a) (nw b) (by omega) (by omega)
    have m1 := mul a1 a2 b1 b2
    have m2 := mul a1 a2 b3 b4
    have m3 := mul a3 a4 b1 b2
    show (0 ≤ treesN a * treesN b ∧ treesN a * treesN b ≤ 2 ^ (8 * (nw a + nw b) - 1)) ∧ (0 ≤ treesN a * pairsN b + pairsN a * treesN b ∧ treesN a * pairsN b + pairsN a * treesN b ≤ 2 ^ (8 * (nw a + nw b) - 1))
    rw [e]
    refine ⟨⟨m1.1, by omega⟩, by omega, by omega⟩
  | par a b iha ihb =>
    obtain ⟨⟨a1, a2⟩, a3, a4⟩ := iha
    obtain ⟨⟨b1, b2⟩, b3, b4⟩ := ihb
    have ha := dep_nw a
    have hb := dep_nw b
    have e := pw (nw a) (nw b) (by omega) (by omega)
    have m1 := mul a3 a4 b3 b4
    have m2 := mul a1 a2 b3 b4
    have m3 := mul a3 a4 b1 b2
    show (0 ≤ treesN a * pairsN b + pairsN a * treesN b ∧ treesN a * pairsN b + pairsN a * treesN b ≤ 2 ^ (8 * (nw a + nw b) - 1)) ∧ (0 ≤ pairsN a * pairsN b ∧ pairsN a * pairsN b ≤ 2 ^ (8 * (nw a + nw b) - 1))
    rw [e]
    refine ⟨⟨by omega, by omega⟩, m1.1, by omega⟩
theorem mulOk_small {a b : Int} (h0 : 0 ≤ a) (h1 : a ≤ 2 ^ 39) : IntMulOk a b := IntMulOk.of_left (intBits_le_64 (by omega) (by omega))
theorem tp_small {n : Net} (h : nw n ≤ 5) : (0 ≤ treesN n ∧ treesN n ≤ 2 ^ 39) ∧ (0 ≤ pairsN n ∧ pairsN n ≤ 2 ^ 39) := by
  have hb := tp_bound n
  have e : (2 : Int) ^ (8 * nw n - 1) ≤ 2 ^ 39 := by
    have : (2 : Nat) ^ (8 * nw n - 1) ≤ 2 ^ 39 := Nat.pow_le_pow_right (by decide) (by omega)
    exact_mod_cast this
  omega
/-- the row of nets, while they are joined -/
inductive JoinU (h0 : Heap) (i : Nat) (m : Str → Option Value) (g : Heap) (led : Led) : Prop
  | mk (Rw : Addr) (its : Array Value) (n : Nat) (nets : List Net) (e : led = [(Rw, lstObj its n)]) (hr : All2 (RowN g) its.toList nets) (hl : nets.length = 5 - i) (hs : (nets.map nw).sum = 5) (hg : Sub h0 g) (hm : m (Str.ofString "row") = some (.ref Rw)) : JoinU h0 i m g led
theorem stoR {s0 : Shared} {x : Str} {v : Value} {Q : Unit → Shared → Prop} (F : Fx g env.locals led s.heap m) (hr : Rel s0 s)
    (h : ∀ s', Rel s0 s' → Fx g env.locals led s'.heap (fun y => if y = x then some v else m y) → Q () s')
    (hk : env.scope.kind = .function := by rfl) (hl : env.kindOf x = some .local := by rfl) :
    wpAny (model PR w) A (storeName env x v) Q E s := sto F (fun h' F' => h _ ⟨hr.gens, hr.os⟩ F') hk hl
theorem turnEnd_next {U : Nat → (Str → Option Value) → Heap → Led → Prop} {Q : Flow → Shared → Prop} {i : Nat} {il : Led} {s₂ : Shared} {g₃ : Heap} {led₃ X : Led} {m₃ : Str → Option Value} (hr : Rel s s₂) (hg : Sub g g₃) (F : Fx g₃ L X s₂.heap m₃)
    (hX : (led₃ ++ il).Sublist X) (hU : U (i + 1) m₃ g₃ led₃) : TurnEnd U Q L i g il s .next s₂ := ⟨hr, m₃, g₃, led₃, hg, (F.drop hX).perm List.perm_append_comm, hU⟩
theorem joinU_next {h0 g₇ gy : Heap} {Rx : Addr} {nx : Nat} {rits : Array Value} {nets : List Net} {i j : Nat} {na nb nj : Net} {vj : Value} {mx : Str → Option Value} (hrows : All2 (RowN g₇) rits.toList nets) (hnl' : nets.length = 5 - i) (hi : i < 4) (hsum : (nets.map nw).sum = 5)
    (hg : Sub h0 g₇) (hsg : Sub g₇ gy) (hRow : RowN gy vj nj) (hna : nets[j]? = some na) (hnb : nets[j + 1]? = some nb) (hnwj : nw nj = nw na + nw nb) (hm : mx (Str.ofString "row") = some (.ref Rx)) :
    JoinU h0 (i + 1) mx gy [(Rx, lstObj ((rits.toList.take j).toArray ++ [vj].toArray ++ (rits.toList.drop (j + 2)).toArray) nx)] := by
  have hj1 : j < nets.length := (List.getElem?_eq_some_iff.mp hna).1
  have hj2 : j + 1 < nets.length := (List.getElem?_eq_some_iff.mp hnb).1
  refine ⟨Rx, _, nx, nets.take j ++ [nj] ++ nets.drop (j + 2), rfl, ?_, ?_, ?_, hg.trans hsg, hm⟩
  · have hr' := hrows.mono fun _ _ x => x.sub hsg
    simp only [Array.toList_append]
    exact ((hr'.take j).append (.cons hRow .nil)).append (hr'.drop (j + 2))
  · simp only [List.length_append, List.length_take, List.length_drop, List.length_singleton]; omega
  · have d1 : nets.drop j = na :: nb :: nets.drop (j + 2) := by
      rw [List.drop_eq_getElem_cons hj1, List.drop_eq_getElem_cons hj2, (List.getElem?_eq_some_iff.mp hna).2, (List.getElem?_eq_some_iff.mp hnb).2]
    rw [← List.take_append_drop j nets, d1] at hsum
    simp only [List.map_append, List.map_cons, List.sum_append, List.sum_cons, List.map_nil, List.sum_nil] at hsum ⊢
    omega
/-- the row of nets, while the wires are written -/
inductive RowU (h0 : Heap) (Rw RL WL NL : Addr) (i : Nat) (m : Str → Option Value) (g : Heap) (led : Led) : Prop
  | mk (its : Array Value) (n : Nat) (nets : List Net) (e : led = [(Rw, lstObj its n)]) (hr : All2 (RowN g) its.toList nets) (hl : nets.length = i) (h1 : ∀ x ∈ nets, nw x = 1) (hg : Sub h0 g) (hm1 : m (Str.ofString "row") = some (.ref Rw)) (hm2 : m (Str.ofString "riders") = some (.ref RL)) (hm3 : m (Str.ofString "widths") = some (.ref WL)) (hm4 : m (Str.ofString "numbers") = some (.ref NL)) : RowU h0 Rw RL WL NL i m g led
inductive IntLits : List Expr → List Int → Prop
  | nil : IntLits [] []
  | cons {z : Int} {k : Nat} {p : Pos} {es : List Expr} {zs : List Int} : IntLits es zs → IntLits (.Constant (.int z) k p :: es) (z :: zs)
theorem IntLits.items {pos : Pos} {A : Around} {env : Env} {E : Value → Shared → Prop} {es : List Expr} {zs : List Int} (hl : IntLits es zs) : ∀ (s : Shared) (Q : List Value → Shared → Prop), (∀ vs tk, All2 isI vs zs → Q vs { s with toks := tk }) → wpAny (model PR w) A (spliced (backTo pos (starEach es env))) Q E s := by
  induction hl with
  | nil => exact fun s Q h => wpAny_items_nil (h [] s.toks .nil)
  | @cons z k p es zs _ ih => exact fun s Q h => wpAny_items_cons (wpAny_Constant_int (ih _ _ fun vs tk hv => h (.int z s.toks :: vs) tk (.cons ⟨_, rfl⟩ hv)))
inductive StrLits : List Expr → List (List Nat) → Prop
  | nil : StrLits [] []
  | cons {z : Str} {y : List Nat} {k : Nat} {p : Pos} {es : List Expr} {zs : List (List Nat)} : z = ⟨y.toArray⟩ → StrLits es zs → StrLits (.Constant (.str z) k p :: es) (y :: zs)
theorem StrLits.items {pos : Pos} {A : Around} {env : Env} {E : Value → Shared → Prop} {es : List Expr} {zs : List (List Nat)} (hl : StrLits es zs) : ∀ (s : Shared) (Q : List Value → Shared → Prop), (∀ vs tk, All2 StrV vs zs → Q vs { s with toks := tk }) → wpAny (model PR w) A (spliced (backTo pos (starEach es env))) Q E s := by
  induction hl with
  | nil => exact fun s Q h => wpAny_items_nil (h [] s.toks .nil)
  | @cons z y k p es zs hz _ ih => exact fun s Q h => wpAny_items_cons (wpAny_Constant_str (ih _ _ fun vs tk hv => h (.str z s.toks :: vs) tk (.cons ⟨_, by rw [hz]⟩ hv)))
theorem asg_list {x : Str} {p p2 p3 : Pos} {es : List Expr} {Q : Flow → Shared → Prop} {E : Value → Shared → Prop}
    (h : wpAny (model PR w) A (spliced (backTo p2 (starEach es env))) (fun vs s₁ => vs.length ≤ sizeLine ∧ wpAny (model PR w) A (storeName env x (.ref s₁.heap.objs.size)) (fun _ => Q .next) E { s₁ with heap := s₁.heap.push { cls := .type "list", data := .seq vs.toArray } }) E s) :
    wpAny (model PR w) A (exec (.Assign [.Name x p] (.List es p2) p3) env) Q E s := wpAny_Assign_Name (wpAny_List h)
theorem drawn_ok (W : Wd w s.heap) (hd : A.depth + 2 < recursionLimit) (hh : A.handled = none) (S : Addr) (items : Array Value) (ns : List Int) (hS : s.heap.IsList S items) (hns : All2 isI items.toList ns) (hlen : items.size ≤ 1000)
    (h : ∀ s' v n, Sub s.heap s'.heap → Rel s s' → RowN s'.heap v n → nw n = 5 → Q v s') :
    wpAny (model PR w) A (call (.ref 92) [.ref S]) Q E s := by
  refine' enterX (binds := [(Str.ofString "script", .ref S)]) W (fun _ _ e => e) ?k6 ?k7 (by omega) ?k9 ?kB ?_ ?c2 ?c3 ?c4 ?c5
  walk_at "my_enter"
  intro h₁ L hL hs F
  have sz : ∀ n : Nat, n ≤ 20 → n ≤ sizeLine := fun n hn => by rw [sizeLine_eq]; omega
  refine wpAny_execs_cons ?_
  refine asg_list ?_
  refine StrLits.items (zs := [[], [34, 40, 34], [92, 41], [34, 43, 41, 34], [92, 124], [34, 92, 34, 40, 34]]) (.cons rfl (.cons rfl (.cons rfl (.cons rfl (.cons rfl (.cons rfl (.nil))))))) _ _ fun rl tk hrl => ⟨sz _ (by rw [hrl.length]; decide), ?_⟩
  have F := F.push (o := { cls := .type "list", data := .seq rl.toArray })
  obtain ⟨g₁, F, hg₁, hR⟩ := F.still
  refine sto (s := { s with heap := _, toks := _ }) F fun h₂ F => ?_
  refine wpAny_execs_cons ?_
  refine asg_list ?_
  refine IntLits.items (zs := widL) ?a _ _ ?b
  (case a =>
    unfold widL
    repeat (first | exact .nil | refine .cons ?_))
  intro wl tk hwl
  have hwlen : wl.length = 15 := hwl.length
  refine ⟨sz _ (by omega), ?_⟩
  have F := F.push (o := { cls := .type "list", data := .seq wl.toArray })
  obtain ⟨g₂, F, hg₂, hWl⟩ := F.still
  refine sto (s := { s with heap := _, toks := _ }) F fun h₃ F => ?_
  replace hR := hg₂ _ _ hR
  have hs₂ : Sub s.heap g₂ := hg₁.trans hg₂
  have W₂ : Wd w g₂ := W.keeps hs₂
  -- numbers
  refine wpAny_execs_cons ?_
  refine assign_listcomp (cl := []) ?lc ?cf
  (case cf => exact closureFor_none (by decide))
  refine Subscript_Slice ?_
  refine nm (s := { s with heap := h₃, toks := _ }) F rfl (wpAny_Slice (wpAny_evalPart_none (wpAny_evalPart_some (wpAny_Constant_int (wpAny_evalPart_none ?_)))))
  refine sliceL (s := { s with heap := h₃, toks := _ }) F (hS.at fun o e => hs₂ _ _ e) .none (.int _ _) hlen fun h₄ R₄ hs₄ hR₄ F => ?_
  obtain ⟨g₃, F, hg₃, hR3⟩ := F.still
  have hsl : slicePick items none (some (5 : Int)) none = (items.toList.take 5).toArray := slicePick_upto' items 5
  rw [hsl] at hR3
  refine wpAny_pyIter_list ⟨_, F.keep _ _ hR3, rfl, _, rfl⟩ ?_
  have F := F.push (o := listItObj R₄ 0)
  have htk5 : (items.toList.take 5).length ≤ 5 := by rw [List.length_take]; omega
  have hints : ∀ (j : Nat) (v : Value), (items.toList.take 5).toArray[j]? = some v → ∃ z, isI v z := by
    intro j v hv
    rw [List.getElem?_toArray] at hv
    obtain ⟨z, _, hz⟩ := (hns.take 5).get hv
    exact ⟨z, hz⟩
  have W₃ := W₂.keeps hg₃
  refine blockL (s₂ := { s with heap := _, toks := _ }) (il := [_]) (led₂ := []) (N := (items.toList.take 5).toArray.size) (g₂ := g₃) (St := fun i il => ∃ o : Obj, il = [(_, o)] ∧ o.cls = .type "list_iterator" ∧ o.data = .fields #[.ref R₄, .int i 0])
    (fun j xs => ∃ zs, All2 isI xs.toList zs ∧ (∀ z ∈ zs, Num z) ∧ zs.length = j) F (fun C => Source.list ?hh ⟨_, hR3, rfl, _, rfl⟩ rfl rfl)
    (fun s' G C led' m' F' Q' E' hq => wpAny_pyIter_listiter ⟨_, F'.here, rfl, rfl⟩ hq) ⟨_, rfl, rfl, rfl⟩ ⟨[], .nil, (by intro z hz; cases hz), rfl⟩ (by rw [List.size_toArray]; omega) ?_ ?_ ?_ (by decide) rfl
  (case hh => exact hh)
  · rintro j xs ⟨zs, h1, _, h3⟩
    have := h1.length
    rw [Array.length_toList] at this
    omega
  · rintro C D j m₅ m₆ G₂ il₅ its nn s₅ hjl hgG hled ⟨zs, hz1, hz2, hz3⟩ ⟨v, hv, rfl⟩ F₅ hr₅
    obtain ⟨z, tz, rfl⟩ := hints j v hv
    refine wpAny_tests_nil ((if_pos rfl).mpr ?_)
    refine wpAny_BinOp (btype F₅ (W₃.keeps hgG) (by k_is) (by boot_fast) (by decide) (wpAny_items_cons (nm F₅ rfl (wpAny_items_nil ?_))))
    refine PySem.call_int_int (wpAny_BinOp (wpAny_Constant_int (wpAny_Constant_int (pow_int (by decide) (by decide +kernel) ?_))))
    refine PyProof.Rows.mod_int (by decide) ?_
    refine ⟨⟨id, rfl⟩, _, F₅, zs ++ [z.fmod (10 ^ (6 : Int).toNat)], ?_, ?_, by simp [hz3]⟩
    · rw [Array.toList_push]; exact hz1.append (.cons ⟨_, rfl⟩ .nil)
    · intro y hy
      rcases List.mem_append.mp hy with hy | hy
      · exact hz2 y hy
      · rw [List.mem_singleton.mp hy]
        have e : (10 : Int) ^ (6 : Int).toNat = 1000000 := by decide
        rw [e, Int.fmod_eq_emod_of_nonneg _ (by decide)]
        exact ⟨Int.emod_nonneg _ (by decide), Int.emod_lt_of_pos _ (by decide)⟩
  intro s₆ C D its nn mC hD hCn hDC hPa hnC hFx hCL hr₆
  obtain ⟨zs, hz1, hz2, hz3⟩ := hPa
  refine useStore (hFx s₆.heap (Heap.SameBut.refl _ _)) hnC hCL ?_ ?_ rfl rfl fun h₇ tk₇ F => ?_
  · exact none_of_sub F.toSub hCn
  · intro hm
    rcases List.mem_cons.mp hm with q | q
    · exact hDC q.symm
    · cases q
  show wpAny _ _ _ _ _ _
  generalize hsA : ({ s₆ with heap := h₇, toks := tk₇ } : Shared) = sA
  have hhA : sA.heap = h₇ := by rw [← hsA]
  have hrA : Rel s sA := by rw [← hsA]; exact ⟨hr₆.gens, hr₆.os⟩
  rw [← hhA] at F
  have hNn : its.size ≤ 5 ∧ zs.length = its.size := by
    have h1 := hz1.length
    rw [Array.length_toList] at h1
    rw [List.size_toArray] at hz3
    omega
  clear hsA hhA
  -- numbers + [35, ...][len(numbers):]
  refine wpAny_execs_cons (wpAny_Assign_Name (wpAny_BinOp (nm (s := sA) F rfl (Subscript_ (wpAny_List ?_)))))
  refine IntLits.items (zs := [35, 106, 393, 319, 77]) ?a5 _ _ ?b5
  (case a5 => repeat (first | exact .nil | refine .cons ?_))
  intro xl tkx hxl
  have hxlen : xl.length = 5 := hxl.length
  refine ⟨sz _ (by omega), ?_⟩
  have F := F.push (o := { cls := .type "list", data := .seq xl.toArray })
  have hXL := F.here
  refine wpAny_Slice (wpAny_evalPart_some ?_)
  refine bcall (s := { sA with heap := _, toks := _ }) F W₃ (by k_is) (by boot_fast) (by decide) (wpAny_items_cons (nm (s := { sA with heap := _, toks := _ }) F rfl (wpAny_items_nil ?_)))
  refine call_len_list (s := { sA with heap := _, toks := _ }) (items := its) ⟨_, F.get (.tail _ (.head _)), rfl, _, rfl⟩ (by omega) ?_
  refine wpAny_evalPart_none (wpAny_evalPart_none ?_)
  have hsl2 : slicePick xl.toArray (some ((its.size : Nat) : Int)) none none = (xl.drop its.size).toArray := slicePick_from' xl.toArray its.size
  have hl' : Heap.IsList ((sA.heap.push { cls := .type "list", data := .seq xl.toArray }).push { cls := .type "slice", data := .fields #[.int ((its.size : Nat) : Int) (tkx + 1), .none, .none] }) sA.heap.objs.size xl.toArray := ⟨_, Sub.push _ _ _ _ hXL, rfl, _, rfl⟩
  refine tail_any (T := "list") (s := { sA with heap := _, toks := _ }) hl'.typeIs slot_list_getitem.lookup (wpAny_getItem_list_slice hl' (Heap.IsSliceOf.new _ _ _ _) (.int _ _) .none .none (by decide) ?_ (by rw [List.size_toArray, sizeLine_eq]; omega)) (by with_unfolding_all rfl)
  rw [hsl2]
  have F := (F.ext (Sub.push _ { cls := .type "slice", data := .fields #[.int ((its.size : Nat) : Int) (tkx + 1), .none, .none] })).push (o := { cls := .type "list", data := .seq (xl.drop its.size).toArray })
  refine add_lst (s := { sA with heap := _, toks := _ }) (xs := its) (ys := (xl.drop its.size).toArray) (F.get (.tail _ (.tail _ (.head _)))) F.here (by simp; omega) ?_
  have F := F.push (o := lstObj (its ++ (xl.drop its.size).toArray) 0)
  obtain ⟨g₄, F, hg₄, hNL⟩ := F.still
  have hnums : ∃ nums : List Int, All2 isI (its ++ (xl.drop its.size).toArray).toList nums ∧ (∀ z ∈ nums, Num z) ∧ nums.length = 5 := by
    refine ⟨zs ++ [35, 106, 393, 319, 77].drop its.size, ?_, ?_, ?_⟩
    · rw [Array.toList_append]; exact hz1.append (hxl.drop _)
    · intro z hz
      rcases List.mem_append.mp hz with hz | hz
      · exact hz2 z hz
      · have := List.mem_of_mem_drop hz
        have hall : ∀ y ∈ ([35, 106, 393, 319, 77] : List Int), 0 ≤ y ∧ y < 1000000 := by decide
        exact hall z this
    · rw [List.length_append, List.length_drop]
      show zs.length + (5 - its.size) = 5
      omega
  obtain ⟨nums, hnum, hNum, hnl⟩ := hnums
  generalize its ++ (xl.drop its.size).toArray = NI at hNL hnum F ⊢
  refine sto (s := { sA with heap := _, toks := _ }) F fun h₈ F => ?_
  have F := (F.drop (List.nil_sublist _))
  have hs₄ : Sub s.heap g₄ := hs₂.trans (hg₃.trans hg₄)
  have hR₄ := hg₄ _ _ (hg₃ _ _ hR)
  have hW₄ := hg₄ _ _ (hg₃ _ _ hWl)
  refine wpAny_execs_cons ?_
  refine asg_list (wpAny_items_nil ⟨sz 0 (by omega), ?_⟩)
  have F := F.push (o := lstObj #[] 0)
  refine sto (s := { sA with heap := _, toks := _ }) F fun h₉ F => ?_
  have hNsz : NI.size = 5 := by
    have := hnum.length
    rw [Array.length_toList] at this; omega
  refine wpAny_execs_cons ?_
  refine for_list (s := { sA with heap := h₉, toks := _ }) (items := NI) (RowU g₄ _ _ _ _) ?hh2 F ⟨_, hNL, rfl, _, rfl⟩ (fun Q' hq => nm (s := { sA with heap := h₉, toks := _ }) F rfl hq) ⟨#[], 0, [], rfl, .nil, rfl, (by intro x hx; cases hx), fun _ _ e => e, rfl, rfl, rfl, rfl⟩
    (fun i m g g' led hs ⟨its, n, nets, h1, h2, h3, h4, h5, h6, h7, h8, h9⟩ => ⟨its, n, nets, h1, h2.mono fun _ _ x => x.sub hs, h3, h4, h5.trans hs, h6, h7, h8, h9⟩) ?st ?dn
  (case hh2 => exact hh)
  · rintro i v m₁ g₅ il₂ led₁ s₁ hv hg₅ ⟨rits, rn, nets, rfl, hrows, hnl', hn1, hg₅', hm1, hm2, hm3, hm4⟩ F hr
    rw [← Array.getElem?_toList] at hv
    obtain ⟨z, hzm, tz, rfl⟩ := hnum.get hv
    have hz := hNum z (List.mem_of_getElem? hzm)
    obtain ⟨hz0, hz1'⟩ := hz
    obtain ⟨zn, rfl⟩ := Int.eq_ofNat_of_zero_le hz0
    have hil : i < 5 := by
      have := (List.getElem?_eq_some_iff.mp hv).1
      rw [Array.length_toList] at this; omega
    have hrsz : rits.size = i := by
      have := hrows.length
      rw [Array.length_toList] at this; omega
    refine wpAny_execs_cons (wpAny_Assign_Name (wpAny_BinOp (nm (s := s₁) F rfl (wpAny_Constant_int (PyProof.Rows.mod_int (by decide) ?_)))))
    rw [show ((zn : Int)).fmod 15 = ((zn % 15 : Nat) : Int) from fmod_nat zn 15]
    refine sto (s := { s₁ with toks := _ }) F fun h₅ F => ?_
    have hR₅ : h₅.get? _ = some _ := F.keep _ _ (hg₅' _ _ hR₄)
    have hW₅ : h₅.get? _ = some _ := F.keep _ _ (hg₅' _ _ hW₄)
    refine wpAny_execs_cons (wpAny_Expr (mcall (s := { s₁ with heap := h₅, toks := _ }) PySem.F.plainAttrs_list PySem.F.slot_list_append PySem.F.type_list_append (T := "list") (ov := .ref _) ⟨_, F.get (o := lstObj rits rn) (List.mem_append_right _ (.head _)), rfl⟩ (fun a e => by injection e with e; subst e; exact ⟨_, F.get (o := lstObj rits rn) (List.mem_append_right _ (.head _)), rfl⟩) (fun Q' hq => nm F hm1 hq) ?_))
    refine evalArgs_plain (wpAny_items_cons (wpAny_Tuple (wpAny_items_cons (wpAny_BinOp (Subscript_ ?_)))))
    refine nm (s := { s₁ with heap := h₅, toks := _ }) F hm2 (wpAny_BinOp (wpAny_BinOp (nm (s := { s₁ with heap := h₅, toks := _ }) F rfl (wpAny_Constant_int (PyProof.Rows.floordiv_int (by decide) ?_)))))
    rw [show ((zn : Int)).fdiv 15 = ((zn / 15 : Nat) : Int) from fdiv_nat zn 15]
    refine wpAny_Constant_int (PyProof.Rows.mod_int (by decide) ?_)
    rw [show (((zn / 15 : Nat) : Int)).fmod 6 = ((zn / 15 % 6 : Nat) : Int) from fmod_nat (zn / 15) 6]
    have h6 : zn / 15 % 6 < 6 := Nat.mod_lt _ (by decide)
    have h15 : zn % 15 < 15 := Nat.mod_lt _ (by decide)
    obtain ⟨hrd1, hrd2⟩ := rid_at ⟨zn / 15 % 6, h6⟩
    obtain ⟨rv, hrv1, tr, hrv2⟩ := hrl.get' hrd1
    refine item_list (s := { s₁ with heap := h₅, toks := _ }) ⟨_, hR₅, rfl, _, rfl⟩ (by omega) (by omega) (show rl.toArray[((zn / 15 % 6 : Nat) : Int).toNat]? = some rv by rw [Int.toNat_natCast, List.getElem?_toArray]; exact hrv1) ?_
    rw [hrv2]
    obtain ⟨hsg1, hsg2⟩ := sgn_at ⟨zn % 15, h15⟩
    refine Subscript_ (wpAny_Constant_str (nm (s := { s₁ with heap := h₅, toks := _ }) F rfl ?_))
    refine item_str (s := { s₁ with heap := h₅, toks := _ }) hsg2 (by have : (Str.ofString ",:;-*/&<>.%~^@!").length = 15 := rfl; omega) (by have : (Str.ofString ",:;-*/&<>.%~^@!").length = 15 := rfl; omega) fun _ => ?_
    rw [show Txt.item (Str.ofString ",:;-*/&<>.%~^@!") ((zn % 15 : Nat) : Int) = ⟨#[sgn ⟨zn % 15, h15⟩]⟩ from hsg1]
    refine add_str (hsz := by rw [sizeLine_eq]; simp [Str.length]; omega) ?_
    intro t₆ k₆
    have htxt : (⟨(ridT ⟨zn / 15 % 6, h6⟩).toArray⟩ : Str) ++ ⟨#[sgn ⟨zn % 15, h15⟩]⟩ = ⟨(X (.wire ⟨zn / 15 % 6, h6⟩ ⟨zn % 15, h15⟩)).toArray⟩ := by
      apply PySem.Str.ext'
      rw [PySem.Str.cps_append]
      show (ridT _).toArray ++ #[_] = (ridT _ ++ [_]).toArray
      simp
    rw [htxt]
    obtain ⟨wv, hwv1, tw, hwv2⟩ := hwl.get' (show widL[zn % 15]? = some (wid ⟨zn % 15, h15⟩) from wid_at ⟨zn % 15, h15⟩)
    refine wpAny_items_cons (Subscript_ (nm (s := { s₁ with heap := h₅, toks := _ }) F hm3 (nm (s := { s₁ with heap := h₅, toks := _ }) F rfl ?_)))
    refine item_list (s := { s₁ with heap := h₅, toks := _ }) ⟨_, hW₅, rfl, _, rfl⟩ (by omega) (by omega) (show wl.toArray[((zn % 15 : Nat) : Int).toNat]? = some wv by rw [Int.toNat_natCast, List.getElem?_toArray]; exact hwv1) ?_
    rw [hwv2]
    refine wpAny_items_cons (wpAny_Constant_int (wpAny_items_nil ⟨sz 3 (by omega), wpAny_items_nil ?_⟩))
    have F := F.push (o := { cls := .type "tuple", data := .seq [Value.str ⟨(X (.wire ⟨zn / 15 % 6, h6⟩ ⟨zn % 15, h15⟩)).toArray⟩ t₆, .int (wid ⟨zn % 15, h15⟩) tw, .int 1 k₆].toArray })
    obtain ⟨g₆, F, hg₆, hT6⟩ := F.still
    have F := F.perm (List.perm_append_comm (l₁ := [(_, lstObj rits rn)]) (l₂ := il₂))
    refine append_at (s := { s₁ with heap := _, toks := _ }) F.here (fun h₇ hs₇ ho₇ => ?_) (by rw [sizeLine_eq]; omega)
    have F := F.upd hs₇ ho₇
    refine wpAny_execs_nil ⟨⟨id, rfl⟩, _, g₆, [_], hg₆, F.perm (List.perm_append_comm (l₁ := il₂) (l₂ := [_])), _, _, nets ++ [.wire ⟨zn / 15 % 6, h6⟩ ⟨zn % 15, h15⟩], rfl, ?_, by simp [hnl'], ?_, hg₅'.trans hg₆, hm1, hm2, hm3, hm4⟩
    · rw [Array.toList_push]
      exact (hrows.mono fun _ _ x => x.sub hg₆).append (.cons ⟨_, _, _, _, rfl, ⟨_, hT6, rfl, 0, rfl⟩⟩ .nil)
    · intro x hx
      rcases List.mem_append.mp hx with hx | hx
      · exact hn1 x hx
      · rw [List.mem_singleton.mp hx]; rfl
  · rintro s₅ m₅ g₅ led₅ hg₅ ⟨rits, rn, nets, rfl, hrows, hnl', hn1, hg₅', hm1, hm2, hm3, hm4⟩ F hr₅
    have hsum : (nets.map nw).sum = 5 := by
      have : ∀ l : List Net, (∀ x ∈ l, nw x = 1) → (l.map nw).sum = l.length := by
        intro l hl
        induction l with
        | nil => rfl
        | cons a r ih =>
          simp only [List.map_cons, List.sum_cons, List.length_cons]
          rw [hl a (.head _), ih fun x hx => hl x (.tail _ hx)]; omega
      rw [this nets hn1]; omega
    refine wpAny_execs_cons (for_start fun R hR => ?_)
    refine Subscript_Slice ?_
    refine nm (s := s₅) F hm4 (wpAny_Slice (wpAny_evalPart_some (wpAny_Constant_int (wpAny_evalPart_none (wpAny_evalPart_none ?_)))))
    refine sliceL (s := { s₅ with toks := _ }) (items := NI) F ⟨_, hg₅' _ _ hNL, rfl, _, rfl⟩ (.int _ _) .none (by omega) fun h₆ R₆ hs₆ hR₆ F => ?_
    obtain ⟨g₆, F, hg₆, hL6⟩ := F.still
    have hsl6 : slicePick NI (some (1 : Int)) none none = (NI.toList.drop 1).toArray := slicePick_from' NI 1
    rw [hsl6] at hL6
    refine wpAny_pyIter_list ⟨_, F.keep _ _ hL6, rfl, _, rfl⟩ ?_
    have F := F.push (o := listItObj R₆ 0)
    refine forSR (s := { s₅ with heap := _, toks := _ }) (Source.list (items := (NI.toList.drop 1).toArray) (g₀ := g₆) ?hh4 ⟨_, hL6, rfl, _, rfl⟩ ?ek4 ?ev4) (JoinU g₄) (il := [_]) (led := [_]) F (fun _ _ e => e) ⟨_, rfl, rfl, rfl⟩
      ⟨_, rits, rn, nets, rfl, hrows.mono fun _ _ x => x.sub hg₆, by omega, hsum, hg₅'.trans hg₆, hm1⟩
      (fun i m g g' led hs ⟨Rw, its, n, nets, h1, h2, h3, h4, h5, h6⟩ => ⟨Rw, its, n, nets, h1, h2.mono fun _ _ x => x.sub hs, h3, h4, h5.trans hs, h6⟩) ?st4 ?dn4
    (case hh4 => exact hh)
    (case ek4 => rfl)
    (case ev4 => rfl)
    · rintro i m₁ m₂ g₇ il₂ led₁ s₁ hlt hg₇ ⟨Rw, rits, rn, nets, rfl, hrows, hnl', hsum, hg₇', hm1⟩ ⟨v, hv, rfl⟩ F hr
      have hsz4 : (NI.toList.drop 1).toArray.size = 4 := by simp; omega
      rw [List.getElem?_toArray] at hv
      obtain ⟨z, hzm, tz, rfl⟩ := (hnum.drop 1).get hv
      obtain ⟨hz0, hz1'⟩ := hNum z (List.mem_of_mem_drop (List.mem_of_getElem? hzm))
      obtain ⟨zn, rfl⟩ := Int.eq_ofNat_of_zero_le hz0
      have hrsz : rits.size = 5 - i := by
        have := hrows.length
        rw [Array.length_toList] at this; omega
      have hRl : s₁.heap.IsList Rw rits := ⟨_, F.get (o := lstObj rits rn) (List.mem_append_right _ (.head _)), rfl, _, rfl⟩
      have W₇ : Wd w g₇ := W.keeps (hs₄.trans hg₇')
      refine wpAny_execs_cons (wpAny_Assign_Name (wpAny_BinOp (wpAny_BinOp (nm (s := s₁) F rfl (wpAny_Constant_int (PyProof.Rows.floordiv_int (by decide) ?_))))))
      rw [show ((zn : Int)).fdiv 180 = ((zn / 180 : Nat) : Int) from fdiv_nat zn 180]
      refine wpAny_BinOp (bcall (s := { s₁ with toks := _ }) F W₇ (by k_is) (by boot_fast) (by decide) (wpAny_items_cons (nm (s := { s₁ with toks := _ }) F hm1 (wpAny_items_nil ?_))))
      refine call_len_list (s := { s₁ with toks := _ }) hRl (by omega) (wpAny_Constant_int (PyProof.Rows.sub_int (PyProof.Rows.mod_int (by omega) ?_)))
      rw [show ((rits.size : Nat) : Int) - 1 = ((rits.size - 1 : Nat) : Int) by omega, fmod_nat (zn / 180) (rits.size - 1)]
      have hjlt : zn / 180 % (rits.size - 1) < rits.size - 1 := Nat.mod_lt _ (by omega)
      generalize zn / 180 % (rits.size - 1) = j at hjlt ⊢
      refine sto (s := { s₁ with toks := _ }) F fun h₈ F => ?_
      obtain ⟨na, hna⟩ : ∃ na, nets[j]? = some na := ⟨nets[j], by rw [List.getElem?_eq_getElem]⟩
      obtain ⟨nb, hnb⟩ : ∃ nb, nets[j + 1]? = some nb := ⟨nets[j + 1], by rw [List.getElem?_eq_getElem]⟩
      obtain ⟨va, hva, ta, ka0, ka1, ka2, rfl, hta⟩ := hrows.get' hna
      obtain ⟨vb, hvb, tb, kb0, kb1, kb2, rfl, htb⟩ := hrows.get' hnb
      rw [Array.getElem?_toList] at hva hvb
      have hRl₈ : Heap.IsList h₈ Rw rits := ⟨_, F.get (o := lstObj rits rn) (List.mem_append_right _ (.head _)), rfl, _, rfl⟩
      refine wpAny_execs_cons (Assign_Tuple (Subscript_ (nm (s := { s₁ with heap := h₈, toks := _ }) F hm1 (nm (s := { s₁ with heap := h₈, toks := _ }) F rfl ?_))))
      refine item_list (s := { s₁ with heap := h₈, toks := _ }) hRl₈ (by omega) (by omega) (show rits[((j : Nat) : Int).toNat]? = some (.ref ta) by rw [Int.toNat_natCast]; exact hva) ?_
      refine wpAny_assign_Tuple hh (IsTuple.sub hta F.toSub) rfl rfl fun h' hx => ?_
      have F := F.ext (sub_of_size hx)
      refine wpAny_assignInOrder_more (storeT (s := { s₁ with heap := h', toks := _ }) F rfl rfl fun h₂ tk₂ F => ?_)
      refine wpAny_assignInOrder_more (storeT (s := { s₁ with heap := h₂, toks := _ }) F rfl rfl fun h₂ tk₂ F => ?_)
      refine wpAny_assignInOrder_more (storeT (s := { s₁ with heap := h₂, toks := _ }) F rfl rfl fun h₂ tk₂ F => wpAny_assignInOrder_none ?_)
      have hRl₉ : Heap.IsList h₂ Rw rits := ⟨_, F.get (o := lstObj rits rn) (List.mem_append_right _ (.head _)), rfl, _, rfl⟩
      refine wpAny_execs_cons (Assign_Tuple (Subscript_ (nm (s := { s₁ with heap := h₂, toks := _ }) F hm1 (wpAny_BinOp (nm (s := { s₁ with heap := h₂, toks := _ }) F rfl (wpAny_Constant_int (add_int ?_)))))))
      refine item_list (s := { s₁ with heap := h₂, toks := _ }) hRl₉ (by omega) (by omega) (show rits[((j : Nat) + 1 : Int).toNat]? = some (.ref tb) by rw [show ((j : Nat) + 1 : Int).toNat = j + 1 by omega]; exact hvb) ?_
      refine wpAny_assign_Tuple hh (IsTuple.sub htb F.toSub) rfl rfl fun h' hx => ?_
      have F := F.ext (sub_of_size hx)
      refine wpAny_assignInOrder_more (storeT (s := { s₁ with heap := h', toks := _ }) F rfl rfl fun h₂ tk₂ F => ?_)
      refine wpAny_assignInOrder_more (storeT (s := { s₁ with heap := h₂, toks := _ }) F rfl rfl fun h₂ tk₂ F => ?_)
      refine wpAny_assignInOrder_more (storeT (s := { s₁ with heap := h₂, toks := _ }) F rfl rfl fun h₂ tk₂ F => wpAny_assignInOrder_none ?_)
      have hle : ∀ (l : List Net) (x : Net), x ∈ l → nw x ≤ (l.map nw).sum := by
        intro l x hx
        induction l with
        | nil => cases hx
        | cons y r ih =>
          rw [List.map_cons, List.sum_cons]
          rcases List.mem_cons.mp hx with rfl | hx
          · omega
          · have := ih hx; omega
      have hnwa := hle nets na (List.mem_of_getElem? hna)
      have hnwb := hle nets nb (List.mem_of_getElem? hnb)
      obtain ⟨⟨qa1, qa2⟩, qa3, qa4⟩ := tp_small (n := na) (by omega)
      obtain ⟨⟨qb1, qb2⟩, qb3, qb4⟩ := tp_small (n := nb) (by omega)
      -- crossed
      refine wpAny_execs_cons (wpAny_Assign_Name (wpAny_BinOp (wpAny_BinOp (nm (s := { s₁ with heap := h₂, toks := _ }) F rfl (nm F rfl (mul_int ?_ (mulOk_small qa1 qa2)))))))
      refine wpAny_BinOp (nm (s := { s₁ with heap := h₂, toks := _ }) F rfl (nm F rfl (mul_int (add_int ?_) (mulOk_small qa3 qa4))))
      refine sto (s := { s₁ with heap := h₂, toks := _ }) F fun h₃ F => ?_
      have hXa := X_len na
      have hXb := X_len nb
      have lX : ∀ n : Net, (⟨(X n).toArray⟩ : PySem.Str).length = (X n).length := fun n => by simp [PySem.Str.length]
      have l1 : (PySem.Str.ofString "(").length = 1 := rfl
      have l2 : (PySem.Str.ofString "+").length = 1 := rfl
      have l3 : (PySem.Str.ofString ")").length = 1 := rfl
      have l4 : (PySem.Str.ofString "|").length = 1 := rfl
      have eser : PySem.Str.ofString "(" ++ (⟨(X na).toArray⟩ : PySem.Str) ++ PySem.Str.ofString "+" ++ (⟨(X nb).toArray⟩ : PySem.Str) ++ PySem.Str.ofString ")" = ⟨(X (.ser na nb)).toArray⟩ := by
        apply PySem.Str.ext'
        simp only [PySem.Str.cps_append, X]
        show #[40] ++ _ ++ #[43] ++ _ ++ #[41] = _
        simp
      have epar : PySem.Str.ofString "(" ++ (⟨(X na).toArray⟩ : PySem.Str) ++ PySem.Str.ofString "|" ++ (⟨(X nb).toArray⟩ : PySem.Str) ++ PySem.Str.ofString ")" = ⟨(X (.par na nb)).toArray⟩ := by
        apply PySem.Str.ext'
        simp only [PySem.Str.cps_append, X]
        show #[40] ++ _ ++ #[124] ++ _ ++ #[41] = _
        simp
      refine wpAny_execs_cons (wpAny_Assign_Name (wpAny_Tuple (wpAny_items_cons (wpAny_BinOp (wpAny_BinOp (wpAny_BinOp (wpAny_BinOp (wpAny_Constant_str (nm (s := { s₁ with heap := h₃, toks := _ }) F rfl (add_str (hsz := by rw [sizeLine_eq, l1, lX]; omega) ?_))))))))))
      intro t1 k1
      refine wpAny_Constant_str (add_str (hsz := by rw [sizeLine_eq, PySem.Str.length_append, l1, lX, l2]; omega) ?_)
      intro t2 k2
      refine nm (s := { s₁ with heap := h₃, toks := _ }) F rfl (add_str (hsz := by rw [sizeLine_eq, PySem.Str.length_append, PySem.Str.length_append, l1, lX, l2, lX]; omega) ?_)
      intro t3 k3
      refine wpAny_Constant_str (add_str (hsz := by rw [sizeLine_eq, PySem.Str.length_append, PySem.Str.length_append, PySem.Str.length_append, l1, lX, l2, lX, l3]; omega) ?_)
      intro t4 k4
      rw [eser]
      refine wpAny_items_cons (wpAny_BinOp (nm (s := { s₁ with heap := h₃, toks := _ }) F rfl (nm F rfl (mul_int ?_ (mulOk_small qa1 qa2)))))
      refine wpAny_items_cons (nm (s := { s₁ with heap := h₃, toks := _ }) F rfl (wpAny_items_nil ⟨sz 3 (by omega), ?_⟩))
      have F := F.push (o := { cls := .type "tuple", data := .seq [Value.str ⟨(X (.ser na nb)).toArray⟩ t4, .int (treesN na * treesN nb) k4, .int (treesN na * pairsN nb + pairsN na * treesN nb) (tk₂ + 1 + 1)].toArray })
      obtain ⟨g₈, F, hg₈, hT8⟩ := F.still
      have hrowS : RowN g₈ (.ref h₃.objs.size) (.ser na nb) := ⟨_, _, _, _, rfl, ⟨_, hT8, rfl, 0, rfl⟩⟩
      refine sto (s := { s₁ with heap := _, toks := _ }) F fun h₄ F => ?_
      refine wpAny_execs_cons (wpAny_mono (Q := fun f s₂ => f = .next ∧ Rel s₁ s₂ ∧ ∃ gx mx vj nj tj, Sub g₇ gx ∧ Fx gx L (il₂ ++ [(Rw, lstObj rits rn)]) s₂.heap mx ∧ RowN gx vj nj ∧ nw nj = nw na + nw nb ∧ mx (Str.ofString "row") = some (.ref Rw) ∧ mx (Str.ofString "spot") = some (.int (j : Nat) tj) ∧ mx (Str.ofString "joined") = some vj) ?_ (fun f s₂ h₂ => ?_) (fun _ _ x => x))
      · refine wpAny_If (wpAny_isTrue_value (wpAny_BinOp (wpAny_BinOp (nm (s := { s₁ with heap := h₄, toks := _ }) F rfl (wpAny_Constant_int (PyProof.Rows.floordiv_int (by decide) ?_))))))
        rw [show ((zn : Int)).fdiv 90 = ((zn / 90 : Nat) : Int) from fdiv_nat zn 90]
        refine wpAny_Constant_int (PyProof.Rows.mod_int (by decide) (truthy_int ?_))
        split
        · refine wpAny_execs_cons (wpAny_Assign_Name (wpAny_Tuple (wpAny_items_cons (wpAny_BinOp (wpAny_BinOp (wpAny_BinOp (wpAny_BinOp (wpAny_Constant_str (nm (s := { s₁ with heap := h₄, toks := _ }) F rfl (add_str (hsz := by rw [sizeLine_eq, l1, lX]; omega) ?_))))))))))
          intro t1 k1
          refine wpAny_Constant_str (add_str (hsz := by rw [sizeLine_eq, PySem.Str.length_append, l1, lX, l4]; omega) ?_)
          intro t2 k2
          refine nm (s := { s₁ with heap := h₄, toks := _ }) F rfl (add_str (hsz := by rw [sizeLine_eq, PySem.Str.length_append, PySem.Str.length_append, l1, lX, l4, lX]; omega) ?_)
          intro t3 k3
          refine wpAny_Constant_str (add_str (hsz := by rw [sizeLine_eq, PySem.Str.length_append, PySem.Str.length_append, PySem.Str.length_append, l1, lX, l4, lX, l3]; omega) ?_)
          intro t5 k5
          rw [epar]
          refine wpAny_items_cons (nm (s := { s₁ with heap := h₄, toks := _ }) F rfl ?_)
          refine wpAny_items_cons (wpAny_BinOp (nm (s := { s₁ with heap := h₄, toks := _ }) F rfl (nm F rfl (mul_int (wpAny_items_nil ⟨sz 3 (by omega), ?_⟩) (mulOk_small qa3 qa4)))))
          have F := F.push (o := { cls := .type "tuple", data := .seq [Value.str ⟨(X (.par na nb)).toArray⟩ t5, .int (treesN na * pairsN nb + pairsN na * treesN nb) (tk₂ + 1 + 1), .int (pairsN na * pairsN nb) k5].toArray })
          obtain ⟨g₉, F, hg₉, hT9⟩ := F.still
          refine sto (s := { s₁ with heap := _, toks := _ }) F fun h₅ F => wpAny_execs_nil ⟨rfl, Rel.same, g₉, _, _, .par na nb, _, hg₈.trans hg₉, F, ⟨_, _, _, _, rfl, ⟨_, hT9, rfl, 0, rfl⟩⟩, rfl, hm1, rfl, rfl⟩
        · exact wpAny_execs_nil ⟨rfl, Rel.same, g₈, _, _, .ser na nb, _, hg₈, F, hrowS, rfl, hm1, rfl, rfl⟩
      · obtain ⟨rfl, hr₂, gx, mx, vj, nj, tj, hgx, F, hRow, hnwj, hx1, hx2, hx3⟩ := h₂
        show wpAny _ _ _ _ _ _
        obtain ⟨gy, F, hgy, hRy⟩ := (F.perm (List.perm_append_comm (l₁ := [(Rw, lstObj rits rn)]) (l₂ := il₂))).still
        have hRyl : gy.IsList Rw rits := ⟨_, hRy, rfl, _, rfl⟩
        refine wpAny_execs_cons (wpAny_Assign_Name (wpAny_BinOp (wpAny_BinOp (Subscript_Slice ?_))))
        refine nm (s := s₂) F hx1 (wpAny_Slice (wpAny_evalPart_none (wpAny_evalPart_some ?_)))
        refine nm (s := s₂) F hx2 (wpAny_evalPart_none ?_)
        refine sliceL (s := s₂) F hRyl .none (.int _ _) (by omega) fun h₅ R₁ hs₅ hR₁ F => ?_
        refine wpAny_List (wpAny_items_cons (nm (s := { s₂ with heap := h₅, toks := _ }) F hx3 (wpAny_items_nil ⟨sz 1 (by omega), ?_⟩)))
        have F := F.push (o := { cls := .type "list", data := .seq [vj].toArray })
        refine add_lst (s := { s₂ with heap := _, toks := _ }) (xs := slicePick rits none (some (j : Nat)) none) (ys := [vj].toArray) (F.get (.tail _ (.head _))) F.here (by have := slicePick_size_le rits none (some ((j : Nat) : Int)) none; simp; omega) ?_
        have F := F.push (o := lstObj (slicePick rits none (some ((j : Nat) : Int)) none ++ [vj].toArray) 0)
        refine Subscript_Slice ?_
        refine nm (s := { s₂ with heap := _, toks := _ }) F hx1 (wpAny_Slice (wpAny_evalPart_some (wpAny_BinOp ?_)))
        refine nm (s := { s₂ with heap := _, toks := _ }) F hx2 (wpAny_Constant_int (add_int (wpAny_evalPart_none (wpAny_evalPart_none ?_))))
        refine sliceL (s := { s₂ with heap := _, toks := _ }) F hRyl (.int _ _) .none (by omega) fun h₆ R₂ hs₆ hR₂ F => ?_
        refine add_lst (s := { s₂ with heap := h₆, toks := _ }) (F.get (.tail _ (.head _))) F.here (by have h1 := slicePick_size_le rits none (some ((j : Nat) : Int)) none; have h2 := slicePick_size_le rits (some (((j : Nat) : Int) + 2)) none none; simp; omega) ?_
        have F := F.push (o := lstObj (slicePick rits none (some ((j : Nat) : Int)) none ++ [vj].toArray ++ slicePick rits (some (((j : Nat) : Int) + 2)) none none) 0)
        have hsg : Sub g₇ gy := hgx.trans hgy
        have e1 : slicePick rits none (some ((j : Nat) : Int)) none = (rits.toList.take j).toArray := slicePick_upto' rits j
        have e2 : slicePick rits (some (((j : Nat) : Int) + 2)) none none = (rits.toList.drop (j + 2)).toArray := by
          rw [show ((j : Nat) : Int) + 2 = ((j + 2 : Nat) : Int) by omega]; exact slicePick_from' rits (j + 2)
        have hU := joinU_next (Rx := h₆.objs.size) (nx := 0) (vj := vj) (mx := fun y => if y = PySem.Str.ofString "row" then some (.ref h₆.objs.size) else mx y) hrows hnl' (hsz4 ▸ hlt) hsum hg₇' hsg (hRow.sub hgy) hna hnb hnwj rfl
        rw [← e1, ← e2] at hU
        exact stoR (s0 := s₁) F ⟨hr₂.gens, hr₂.os⟩ fun sZ hrZ F => wpAny_execs_nil (turnEnd_next hrZ hsg F (.cons_cons _ (.cons _ (.cons _ (.cons _ (.cons _ (List.Sublist.refl _)))))) hU)
    · intro s₆ m₆ g₇ led₇ hg₇ hU F hr₆
      obtain ⟨Rw, rits, rn, nets, rfl, hrows, hnl', hsum, hg₇', hm1⟩ := hU
      have hsz4 : (NI.toList.drop 1).toArray.size = 4 := by simp; omega
      rw [hsz4] at hnl'
      refine hR _ _ ?_
      obtain ⟨n0, hn0⟩ : ∃ n0, nets = [n0] := by
        match nets, hnl' with
        | [a], _ => exact ⟨a, rfl⟩
      subst hn0
      obtain ⟨v, hv, hrow⟩ := hrows.get' (i := 0) rfl
      refine wpAny_execs_cons (wpAny_Return_some (Subscript_ (nm (s := s₆) F hm1 (wpAny_Constant_int ?_))))
      refine item_list (s := { s₆ with toks := _ }) ⟨_, F.here, rfl, _, rfl⟩ (by decide) (by decide) (show rits[(0 : Int).toNat]? = some v by rw [← Array.getElem?_toList]; exact hv) ?_
      exact h _ v n0 (hs₄.trans (hg₇'.trans F.toSub)) ⟨fun x => hr₆.gens (hr₅.gens (hrA.gens x)), hr₆.os.trans (hr₅.os.trans hrA.os)⟩ (hrow.sub F.toSub) (by simpa using hsum)
end
end Mine
end

section
set_option maxRecDepth 100000
set_option maxHeartbeats 400000
namespace Mine
/-! star-mesh elimination over plain functions -/
def sumV (V : List Int) (f : Int → Int) : Int := (V.map f).sum
theorem sumV_nil (f : Int → Int) : sumV [] f = 0 := rfl
theorem sumV_cons (a : Int) (V : List Int) (f : Int → Int) : sumV (a :: V) f = f a + sumV V f := by simp [sumV]
theorem sumV_congr {V : List Int} {f g : Int → Int} (h : ∀ q ∈ V, f q = g q) : sumV V f = sumV V g := by
  induction V with
  | nil => rfl
  | cons a V ih => rw [sumV_cons, sumV_cons, h a (.head _), ih fun q hq => h q (.tail _ hq)]
theorem sumV_lin (V : List Int) (a b : Int) (f g : Int → Int) : sumV V (fun q => a * f q + b * g q) = a * sumV V f + b * sumV V g := by
  induction V with
  | nil => simp [sumV_nil]
  | cons x V ih => rw [sumV_cons, sumV_cons, sumV_cons, ih]; grind
theorem sumV_mul (V : List Int) (a : Int) (f : Int → Int) : sumV V (fun q => a * f q) = a * sumV V f := by
  induction V with
  | nil => simp [sumV_nil]
  | cons x V ih => rw [sumV_cons, sumV_cons, ih]; grind
theorem sumV_zero {V : List Int} {f : Int → Int} (h : ∀ q ∈ V, f q = 0) : sumV V f = 0 := by
  induction V with
  | nil => rfl
  | cons a V ih => rw [sumV_cons, h a (.head _), ih fun q hq => h q (.tail _ hq)]; rfl
theorem sumV_off {V : List Int} {f : Int → Int} {x : Int} (hn : V.Nodup) (hx : x ∈ V) : sumV V (fun q => if q = x then 0 else f q) = sumV V f - f x := by
  induction V with
  | nil => cases hx
  | cons a V ih =>
    rw [sumV_cons, sumV_cons]
    have hn' := List.nodup_cons.mp hn
    by_cases e : a = x
    · subst e
      rw [if_pos rfl, sumV_congr (g := f) fun q hq => if_neg fun (e : q = a) => hn'.1 (e ▸ hq)]; omega
    · rw [if_neg e, ih hn'.2 ((List.mem_cons.mp hx).resolve_left fun q => e q.symm)]; omega
theorem sumV_one {V : List Int} {x : Int} (hn : V.Nodup) (hx : x ∈ V) : sumV V (fun q => if q = x then 1 else 0) = 1 := by
  have := sumV_off (f := fun _ => 1) hn hx
  have h2 : sumV V (fun q => if q = x then 1 else 0) = sumV V (fun _ => 1) - sumV V (fun q => if q = x then 0 else 1) := by
    induction V with
    | nil => cases hx
    | cons a V ih =>
      clear this ih hx hn
      induction (a :: V) with
      | nil => rfl
      | cons b U ih => rw [sumV_cons, sumV_cons, sumV_cons, ih]; split <;> omega
  omega
theorem sumV_nonneg {V : List Int} {f : Int → Int} (h : ∀ q ∈ V, 0 ≤ f q) : 0 ≤ sumV V f := by
  induction V with
  | nil => exact Int.le_refl _
  | cons a V ih => rw [sumV_cons]; have := h a (.head _); have := ih fun q hq => h q (.tail _ hq); omega
theorem sumV_ge {V : List Int} {f : Int → Int} (h : ∀ q ∈ V, 0 ≤ f q) {x : Int} (hx : x ∈ V) : f x ≤ sumV V f := by
  induction V with
  | nil => cases hx
  | cons a V ih =>
    rw [sumV_cons]
    have h1 := h a (.head _)
    have h2 := sumV_nonneg fun q hq => h q (.tail _ hq)
    rcases List.mem_cons.mp hx with rfl | hx
    · omega
    · have := ih (fun q hq => h q (.tail _ hq)) hx; omega

abbrev Wt := Int → Int → Int
structure SM where
  W : Wt
  s : Int
  t : Int
def smW (V : List Int) (W : Wt) (v : Int) : Wt := fun p q => if p = q ∨ p = v ∨ q = v then 0 else sumV V (W v) * W p q + W p v * W v q
def smS (V : List Int) (a : SM) (v : Int) : SM := ⟨smW V a.W v, a.s * sumV V (a.W v), a.t * a.s⟩

theorem smW_deg {V : List Int} {W : Wt} {x y : Int} (hn : V.Nodup) (hx : x ∈ V) (hy : y ∈ V) (hxy : x ≠ y) (h0 : ∀ p, W p p = 0) :
    sumV V (smW V W x y) = sumV V (W x) * (sumV V (W y) - W y x) + W y x * (sumV V (W x) - W x y) := by
  have e : sumV V (smW V W x y) = sumV V (fun q => sumV V (W x) * (if q = x then 0 else W y q) + W y x * (if q = y then 0 else W x q)) := by
    refine sumV_congr fun q _ => ?_
    unfold smW
    by_cases h1 : q = y
    · subst h1; simp [h0, Ne.symm hxy]
    · by_cases h2 : q = x
      · subst h2; simp [h0, h1]
      · rw [if_neg (by simp [Ne.symm h1, Ne.symm hxy, h2]), if_neg h2, if_neg h1]
  rw [e, sumV_lin, sumV_off hn hx, sumV_off hn hy]

theorem smW_swap {V : List Int} {W : Wt} {x y : Int} (hn : V.Nodup) (hx : x ∈ V) (hy : y ∈ V) (hxy : x ≠ y) (h0 : ∀ p, W p p = 0) (p q : Int) :
    sumV V (W y) * smW V (smW V W x) y p q = sumV V (W x) * smW V (smW V W y) x p q := by
  show sumV V (W y) * (if p = q ∨ p = y ∨ q = y then 0 else sumV V (smW V W x y) * smW V W x p q + smW V W x p y * smW V W x y q) =
    sumV V (W x) * (if p = q ∨ p = x ∨ q = x then 0 else sumV V (smW V W y x) * smW V W y p q + smW V W y p x * smW V W y x q)
  rw [smW_deg hn hx hy hxy h0, smW_deg hn hy hx (Ne.symm hxy) h0]
  unfold smW
  generalize sumV V (W x) = dx
  generalize sumV V (W y) = dy
  by_cases h1 : p = q
  · simp [h1]
  · by_cases h2 : p = x
    · subst h2; simp [hxy]
    · by_cases h3 : p = y
      · subst h3; simp [Ne.symm hxy]
      · by_cases h4 : q = x
        · subst h4; simp [Ne.symm hxy]
        · by_cases h5 : q = y
          · subst h5; simp [hxy]
          · simp only [h1, h2, h3, h4, h5, hxy, Ne.symm hxy, Ne.symm h4, Ne.symm h5, if_false, or_self]
            grind

/-- the same but for common factors -/
def Eqv (a b : SM) : Prop := ∃ c d : Int, 0 < c ∧ 0 < d ∧ (∀ p q, c * a.W p q = d * b.W p q) ∧ c * a.s = d * b.s ∧ c * a.t = d * b.t
theorem Eqv.refl (a : SM) : Eqv a a := ⟨1, 1, by decide, by decide, fun _ _ => rfl, rfl, rfl⟩
theorem Eqv.trans {a b e : SM} (x : Eqv a b) (y : Eqv b e) : Eqv a e := by
  obtain ⟨c, d, hc, hd, h1, h2, h3⟩ := x
  obtain ⟨c', d', hc', hd', k1, k2, k3⟩ := y
  refine ⟨c' * c, d * d', Int.mul_pos hc' hc, Int.mul_pos hd hd', fun p q => ?_, ?_, ?_⟩
  · have := h1 p q; have := k1 p q; grind
  · grind
  · grind
theorem Eqv.step {a b : SM} (V : List Int) (v : Int) (x : Eqv a b) : Eqv (smS V a v) (smS V b v) := by
  obtain ⟨c, d, hc, hd, h1, h2, h3⟩ := x
  have hs : c * sumV V (a.W v) = d * sumV V (b.W v) := by
    rw [← sumV_mul, ← sumV_mul]; exact sumV_congr fun q _ => h1 v q
  refine ⟨c * c, d * d, Int.mul_pos hc hc, Int.mul_pos hd hd, fun p q => ?_, ?_, ?_⟩
  · show c * c * (if _ then _ else _) = d * d * (if _ then _ else _)
    have e1 := h1 p q
    have e2 := h1 p v
    have e3 := h1 v q
    split
    · simp
    · grind
  · show c * c * (a.s * sumV V (a.W v)) = d * d * (b.s * sumV V (b.W v))
    grind
  · show c * c * (a.t * a.s) = d * d * (b.t * b.s)
    grind
theorem Eqv.fold {a b : SM} (V : List Int) (l : List Int) (x : Eqv a b) : Eqv (l.foldl (smS V) a) (l.foldl (smS V) b) := by
  induction l generalizing a b with
  | nil => exact x
  | cons v l ih => exact ih (x.step V v)

/-- a way to the ends -/
inductive Rch (W : Wt) (bd : Int → Prop) : Int → Prop
  | base {p : Int} : bd p → Rch W bd p
  | step {p q : Int} : 0 < W p q → Rch W bd q → Rch W bd p
structure OkW (V : List Int) (W : Wt) : Prop where
  diag : ∀ p, W p p = 0
  pos : ∀ p q, 0 ≤ W p q
  out : ∀ p q, q ∉ V → W p q = 0
theorem OkW.step {V : List Int} {W : Wt} (h : OkW V W) (v : Int) : OkW V (smW V W v) := by
  refine ⟨fun p => by simp [smW], fun p q => ?_, fun p q hq => ?_⟩
  · unfold smW
    split
    · exact Int.le_refl _
    · have := Int.mul_nonneg (sumV_nonneg (V := V) fun q _ => h.pos v q) (h.pos p q)
      have := Int.mul_nonneg (h.pos p v) (h.pos v q)
      omega
  · unfold smW
    split
    · rfl
    · rw [h.out p q hq, h.out v q hq]; simp
theorem OkW.deg_pos {V : List Int} {W : Wt} (h : OkW V W) {bd : Int → Prop} {v : Int} (hb : ¬bd v) (hr : Rch W bd v) : 0 < sumV V (W v) := by
  cases hr with
  | base b => exact absurd b hb
  | @step _ q hw _ =>
    have hq : q ∈ V := Classical.byContradiction fun hq => by rw [h.out v q hq] at hw; omega
    have := sumV_ge (f := W v) (fun q _ => h.pos v q) hq
    omega
theorem OkW.rch {V : List Int} {W : Wt} (h : OkW V W) {bd : Int → Prop} {v : Int} (hb : ¬bd v) (hv : Rch W bd v) {p : Int} (hr : Rch W bd p) : (p ≠ v → Rch (smW V W v) bd p) ∧ (p = v → ∃ q, q ≠ v ∧ 0 < W v q ∧ Rch (smW V W v) bd q) := by
  have hd := h.deg_pos hb hv
  induction hr with
  | base b => exact ⟨fun _ => .base b, fun e => absurd (e ▸ b) hb⟩
  | @step p q hw hq ih =>
    refine ⟨fun hp => ?_, fun hp => ?_⟩
    · have hpq : p ≠ q := fun e => by rw [e, h.diag] at hw; omega
      by_cases e : q = v
      · obtain ⟨r, h1, h2, h3⟩ := ih.2 e
        by_cases hpr : p = r
        · exact hpr ▸ h3
        · refine .step (q := r) ?_ h3
          unfold smW
          rw [if_neg (by simp [hpr, hp, h1])]
          have := Int.mul_nonneg (Int.le_of_lt hd) (h.pos p r)
          have := Int.mul_pos (e ▸ hw) h2
          omega
      · refine .step (q := q) ?_ (ih.1 e)
        unfold smW
        rw [if_neg (by simp [hpq, hp, e])]
        have := Int.mul_pos hd hw
        have := Int.mul_nonneg (h.pos p v) (h.pos v q)
        omega
    · subst hp
      have hpq : q ≠ p := fun e => by rw [e, h.diag] at hw; omega
      exact ⟨q, hpq, hw, ih.1 hpq⟩
structure Inv (V : List Int) (bd : Int → Prop) (W : Wt) (l : List Int) : Prop where
  ok : OkW V W
  nd : l.Nodup
  sub : ∀ v ∈ l, v ∈ V
  inner : ∀ v ∈ l, ¬bd v
  rch : ∀ v ∈ l, Rch W bd v
theorem Inv.step {V : List Int} {bd : Int → Prop} {W : Wt} {x : Int} {l : List Int} (h : Inv V bd W (x :: l)) : Inv V bd (smW V W x) l := by
  have hn := List.nodup_cons.mp h.nd
  exact ⟨h.ok.step x, hn.2, fun v hv => h.sub v (.tail _ hv), fun v hv => h.inner v (.tail _ hv), fun v hv =>
    (h.ok.rch (h.inner x (.head _)) (h.rch x (.head _)) (h.rch v (.tail _ hv))).1 fun e => hn.1 (e ▸ hv)⟩
theorem Inv.perm {V : List Int} {bd : Int → Prop} {W : Wt} {l l' : List Int} (h : Inv V bd W l) (p : l.Perm l') : Inv V bd W l' :=
  ⟨h.ok, p.nodup_iff.mp h.nd, fun v hv => h.sub v (p.mem_iff.mpr hv), fun v hv => h.inner v (p.mem_iff.mpr hv), fun v hv => h.rch v (p.mem_iff.mpr hv)⟩
theorem fold_perm {V : List Int} (hn : V.Nodup) {bd : Int → Prop} {l l' : List Int} (p : l.Perm l') : ∀ a : SM, Inv V bd a.W l → Eqv (l.foldl (smS V) a) (l'.foldl (smS V) a) := by
  induction p with
  | nil => exact fun a _ => .refl a
  | cons x _ ih => exact fun a h => ih (smS V a x) h.step
  | swap x y l =>
    intro a h
    show Eqv (l.foldl (smS V) (smS V (smS V a y) x)) (l.foldl (smS V) (smS V (smS V a x) y))
    refine Eqv.fold V l ?_
    have hxy : y ≠ x := fun e => (List.nodup_cons.mp h.nd).1 (e ▸ .head _)
    have hx := h.sub x (.tail _ (.head _))
    have hy := h.sub y (.head _)
    have dx := h.ok.deg_pos (h.inner x (.tail _ (.head _))) (h.rch x (.tail _ (.head _)))
    have dy := h.ok.deg_pos (h.inner y (.head _)) (h.rch y (.head _))
    refine ⟨sumV V (a.W x), sumV V (a.W y), dx, dy, fun p q => smW_swap hn hy hx hxy h.ok.diag p q, ?_, ?_⟩
    · show sumV V (a.W x) * (a.s * sumV V (a.W y) * sumV V (smW V a.W y x)) = sumV V (a.W y) * (a.s * sumV V (a.W x) * sumV V (smW V a.W x y))
      rw [smW_deg hn hx hy (Ne.symm hxy) h.ok.diag, smW_deg hn hy hx hxy h.ok.diag]
      grind
    · show sumV V (a.W x) * (a.t * a.s * (a.s * sumV V (a.W y))) = sumV V (a.W y) * (a.t * a.s * (a.s * sumV V (a.W x)))
      grind
  | trans p₁ _ ih₁ ih₂ => exact fun a h => (ih₁ a h).trans (ih₂ a (h.perm p₁))
end Mine
end

section
set_option maxRecDepth 100000
set_option maxHeartbeats 400000
namespace Mine
/-! a net's weights, and what striking its inner nodes makes of them -/
abbrev psA (a : Net) (ps : List Nat) : List Nat := (ps.drop 1).take (T a).length
abbrev psM (a : Net) (ps : List Nat) : Int := (ps.getD (1 + (T a).length) 0 : Nat)
abbrev psB (a b : Net) (ps : List Nat) : List Nat := (ps.drop (2 + (T a).length)).take (T b).length
/-- one where the two are alike -/
def dl (a b : Int) : Int := if a = b then 1 else 0
theorem dl_self (a : Int) : dl a a = 1 := if_pos rfl
theorem dl_ne {a b : Int} (h : a ≠ b) : dl a b = 0 := if_neg h
theorem dl_mul {a b c : Int} (h : b ≠ c) : dl a b * dl a c = 0 := by
  by_cases e : a = b
  · rw [e, dl_ne h]; exact Int.mul_zero _
  · rw [dl_ne e]; exact Int.zero_mul _
theorem dl_mul' {a b c : Int} (h : b ≠ c) : dl b a * dl c a = 0 := by
  by_cases e : b = a
  · rw [dl_ne fun q => h (e.trans q.symm)]; exact Int.mul_zero _
  · rw [dl_ne e]; exact Int.zero_mul _
/-- one wire -/
def eW (l r : Int) : Wt := fun p q => dl p l * dl q r + dl p r * dl q l
def innr : Net → List Nat → List Int
  | .wire _ _, _ => []
  | .ser a b, ps => innr a (psA a ps) ++ innr b (psB a b ps) ++ [psM a ps]
  | .par a b, ps => innr a (psA a ps) ++ innr b (psB a b ps)
def netW : Net → List Nat → Int → Int → Wt
  | .wire _ k, _, l, r => fun p q => wid k * eW l r p q
  | .ser a b, ps, l, r => fun p q => netW a (psA a ps) l (psM a ps) p q + netW b (psB a b ps) (psM a ps) r p q
  | .par a b, ps, l, r => fun p q => netW a (psA a ps) l r p q + netW b (psB a b ps) l r p q
theorem zz {a b c d : Int} (h1 : a * b = 0) (h2 : c * d = 0) : a * b + c * d = 0 := by rw [h1, h2]; rfl
theorem z_l {a : Int} (b : Int) (h : a = 0) : a * b = 0 := by rw [h]; exact Int.zero_mul b
theorem z_r {b : Int} (a : Int) (h : b = 0) : a * b = 0 := by rw [h]; exact Int.mul_zero a
theorem eW_out1 {l r p : Int} (q : Int) (h1 : p ≠ l) (h2 : p ≠ r) : eW l r p q = 0 := zz (z_l _ (dl_ne h1)) (z_l _ (dl_ne h2))
theorem eW_out2 {l r q : Int} (p : Int) (h1 : q ≠ l) (h2 : q ≠ r) : eW l r p q = 0 := zz (z_r _ (dl_ne h2)) (z_r _ (dl_ne h1))
theorem eW_out {l r p q : Int} (h : (p ≠ l ∧ p ≠ r) ∨ (q ≠ l ∧ q ≠ r)) : eW l r p q = 0 := h.elim (fun h => eW_out1 q h.1 h.2) fun h => eW_out2 p h.1 h.2
theorem eW_diag {l r : Int} (h : l ≠ r) (p : Int) : eW l r p p = 0 := zz (dl_mul h) (dl_mul (Ne.symm h))
theorem eW_end2 {l m : Int} (p : Int) (h : l ≠ m) (hp : p ≠ m) : eW l m p m = dl p l := by
  show dl p l * dl m m + dl p m * dl m l = _
  rw [dl_self, dl_ne hp, Int.mul_one, Int.zero_mul, Int.add_zero]
theorem eW_end1 {l m : Int} (q : Int) (h : l ≠ m) (hq : q ≠ m) : eW l m m q = dl q l := by
  show dl m l * dl q m + dl m m * dl q l = _
  rw [dl_self, dl_ne hq, Int.mul_zero, Int.one_mul, Int.zero_add]
theorem eW_sym (l r p q : Int) : eW l r p q = eW l r q p := by
  show dl p l * dl q r + dl p r * dl q l = dl q l * dl p r + dl q r * dl p l
  rw [Int.mul_comm (dl q l), Int.mul_comm (dl q r), Int.add_comm]
theorem eW_rev (l r p q : Int) : eW l r p q = eW r l p q := Int.add_comm _ _
abbrev Fine (n : Net) (ps : List Nat) (l r : Int) : Prop := (l :: r :: innr n ps).Nodup
theorem Fine.ne {n : Net} {ps : List Nat} {l r : Int} (h : Fine n ps l r) : l ≠ r := fun e => (List.nodup_cons.mp h).1 (e ▸ .head _)
theorem Fine.ser {a b : Net} {ps : List Nat} {l r : Int} (h : Fine (.ser a b) ps l r) : Fine a (psA a ps) l (psM a ps) ∧ Fine b (psB a b ps) (psM a ps) r ∧ l ≠ psM a ps ∧ r ≠ psM a ps ∧ psM a ps ∉ innr a (psA a ps) ∧ psM a ps ∉ innr b (psB a b ps) ∧
    (∀ x ∈ innr a (psA a ps), x ≠ l ∧ x ≠ r ∧ x ∉ innr b (psB a b ps)) ∧ (∀ x ∈ innr b (psB a b ps), x ≠ l ∧ x ≠ r) := by
  simp only [Fine, innr, List.nodup_cons, List.mem_cons, List.mem_append, List.nodup_append, not_or, List.mem_singleton, List.not_mem_nil, or_false, not_false_eq_true, true_and, List.nodup_nil, and_true] at h ⊢
  obtain ⟨⟨h1, ⟨h2, h3⟩, h4⟩, ⟨⟨h5, h6⟩, h7⟩, ⟨h8, h9, h10⟩, h11⟩ := h
  refine ⟨⟨⟨h4, h2⟩, fun hm => ?_, h8⟩, ⟨⟨Ne.symm h7, fun hm => ?_⟩, h6, h9⟩, h4, h7, fun hm => ?_, fun hm => ?_, fun x hx => ⟨?_, ?_, fun hb => ?_⟩, fun x hx => ⟨?_, ?_⟩⟩
  · exact h11 _ (.inl hm) _ rfl rfl
  · exact h11 _ (.inr hm) _ rfl rfl
  · exact h11 _ (.inl hm) _ rfl rfl
  · exact h11 _ (.inr hm) _ rfl rfl
  · rintro rfl; exact h2 hx
  · rintro rfl; exact h5 hx
  · exact h10 _ hx _ hb rfl
  · rintro rfl; exact h3 hx
  · rintro rfl; exact h6 hx
theorem Fine.par {a b : Net} {ps : List Nat} {l r : Int} (h : Fine (.par a b) ps l r) : Fine a (psA a ps) l r ∧ Fine b (psB a b ps) l r ∧
    (∀ x ∈ innr a (psA a ps), x ≠ l ∧ x ≠ r ∧ x ∉ innr b (psB a b ps)) ∧ (∀ x ∈ innr b (psB a b ps), x ≠ l ∧ x ≠ r) := by
  simp only [Fine, innr, List.nodup_cons, List.mem_cons, List.mem_append, List.nodup_append, not_or] at h ⊢
  obtain ⟨⟨h1, h2, h3⟩, ⟨h5, h6⟩, h8, h9, h10⟩ := h
  refine ⟨⟨⟨h1, h2⟩, h5, h8⟩, ⟨⟨h1, h3⟩, h6, h9⟩, fun x hx => ⟨?_, ?_, fun hb => ?_⟩, fun x hx => ⟨?_, ?_⟩⟩
  · rintro rfl; exact h2 hx
  · rintro rfl; exact h5 hx
  · exact h10 _ hx _ hb rfl
  · rintro rfl; exact h3 hx
  · rintro rfl; exact h6 hx
theorem netW_out : ∀ (n : Net) (ps : List Nat) (l r p q : Int), ((p ≠ l ∧ p ≠ r ∧ p ∉ innr n ps) ∨ (q ≠ l ∧ q ≠ r ∧ q ∉ innr n ps)) → netW n ps l r p q = 0
  | .wire _ k, ps, l, r, p, q, h => by
    show wid k * eW l r p q = 0
    rw [eW_out (by rcases h with h | h; exact .inl ⟨h.1, h.2.1⟩; exact .inr ⟨h.1, h.2.1⟩)]; simp
  | .ser a b, ps, l, r, p, q, h => by
    show netW a (psA a ps) l (psM a ps) p q + netW b (psB a b ps) (psM a ps) r p q = 0
    simp only [innr, List.mem_append, List.mem_singleton, not_or] at h
    rw [netW_out a _ l _ p q (by rcases h with h | h; exact .inl ⟨h.1, h.2.2.2, h.2.2.1.1⟩; exact .inr ⟨h.1, h.2.2.2, h.2.2.1.1⟩),
      netW_out b _ _ r p q (by rcases h with h | h; exact .inl ⟨h.2.2.2, h.2.1, h.2.2.1.2⟩; exact .inr ⟨h.2.2.2, h.2.1, h.2.2.1.2⟩)]; rfl
  | .par a b, ps, l, r, p, q, h => by
    show netW a (psA a ps) l r p q + netW b (psB a b ps) l r p q = 0
    simp only [innr, List.mem_append, not_or] at h
    rw [netW_out a _ l _ p q (by rcases h with h | h; exact .inl ⟨h.1, h.2.1, h.2.2.1⟩; exact .inr ⟨h.1, h.2.1, h.2.2.1⟩),
      netW_out b _ _ r p q (by rcases h with h | h; exact .inl ⟨h.1, h.2.1, h.2.2.2⟩; exact .inr ⟨h.1, h.2.1, h.2.2.2⟩)]; rfl
theorem netW_diag : ∀ (n : Net) (ps : List Nat) (l r : Int), Fine n ps l r → ∀ p, netW n ps l r p p = 0
  | .wire _ k, ps, l, r, h, p => by show wid k * eW l r p p = 0; rw [eW_diag h.ne]; simp
  | .ser a b, ps, l, r, h, p => by
    show netW a (psA a ps) l (psM a ps) p p + netW b (psB a b ps) (psM a ps) r p p = 0
    rw [netW_diag a _ _ _ h.ser.1, netW_diag b _ _ _ h.ser.2.1]; rfl
  | .par a b, ps, l, r, h, p => by
    show netW a (psA a ps) l r p p + netW b (psB a b ps) l r p p = 0
    rw [netW_diag a _ _ _ h.par.1, netW_diag b _ _ _ h.par.2.1]; rfl
theorem wid_pos (k : Fin 15) : 0 < wid k := by revert k; decide
theorem tp_pos : ∀ n : Net, 0 < treesN n ∧ 0 < pairsN n
  | .wire _ k => ⟨wid_pos k, Int.one_pos⟩
  | .ser a b => by
    have ha := tp_pos a
    have hb := tp_pos b
    refine ⟨Int.mul_pos ha.1 hb.1, ?_⟩
    show 0 < treesN a * pairsN b + pairsN a * treesN b
    have := Int.mul_pos ha.1 hb.2
    have := Int.mul_pos ha.2 hb.1
    omega
  | .par a b => by
    have ha := tp_pos a
    have hb := tp_pos b
    refine ⟨?_, Int.mul_pos ha.2 hb.2⟩
    show 0 < treesN a * pairsN b + pairsN a * treesN b
    have := Int.mul_pos ha.1 hb.2
    have := Int.mul_pos ha.2 hb.1
    omega
theorem sumV_add (V : List Int) (f g : Int → Int) : sumV V (fun q => f q + g q) = sumV V f + sumV V g := by
  have := sumV_lin V 1 1 f g
  simpa using this
theorem dl_sum {V : List Int} {x : Int} (hn : V.Nodup) (hx : x ∈ V) : sumV V (fun q => dl q x) = 1 := sumV_one hn hx
theorem eW_sum_r {V : List Int} {l m : Int} (hn : V.Nodup) (hl : l ∈ V) (h : l ≠ m) : sumV V (eW l m m) = 1 := by
  have e : sumV V (eW l m m) = 0 * sumV V (fun q => dl q m) + 1 * sumV V (fun q => dl q l) := by
    rw [← sumV_lin]
    refine sumV_congr fun q _ => ?_
    show dl m l * dl q m + dl m m * dl q l = _
    rw [dl_self, dl_ne (Ne.symm h)]
  rw [e, dl_sum hn hl, Int.zero_mul]; rfl
theorem eW_sum_l {V : List Int} {m r : Int} (hn : V.Nodup) (hr : r ∈ V) (h : m ≠ r) : sumV V (eW m r m) = 1 := by
  rw [show eW m r m = eW r m m from funext fun q => eW_rev m r m q]
  exact eW_sum_r hn hr (Ne.symm h)
/-- the node where two nets meet -/
theorem meet {V : List Int} (hn : V.Nodup) {l r m : Int} (hl : l ∈ V) (hr : r ∈ V) (hlr : l ≠ r) (hlm : l ≠ m) (hrm : r ≠ m) {R : Wt} (hR : ∀ q, R m q = 0 ∧ R q m = 0) (hd : ∀ p, R p p = 0)
    {K A B TA TB k : Int} {a : SM} (hK : 0 < K) (hs : 0 < a.s) (h : ∀ p q, K * a.W p q = a.s * (A * B * R p q + k * (TA * B) * eW l m p q + k * (TB * A) * eW m r p q)) (hKe : K = k * (A * B)) (hA : 0 < A * B) (hk : 0 < k) (hP : 0 < TA * B + A * TB) :
    (∀ p q, k * (TA * B + A * TB) * (smS V a m).W p q = (smS V a m).s * ((TA * B + A * TB) * R p q + k * (TA * TB) * eW l r p q)) ∧ K * (smS V a m).s = a.s * a.s * (k * (TA * B + A * TB)) ∧ 0 < (smS V a m).s := by
  have hD : K * sumV V (a.W m) = a.s * (k * (TA * B + A * TB)) := by
    rw [← sumV_mul, sumV_congr (g := fun q => (a.s * (k * (TA * B))) * eW l m m q + (a.s * (k * (TB * A))) * eW m r m q) fun q _ => by rw [h, (hR q).1]; grind]
    rw [sumV_lin, eW_sum_r hn hl hlm, eW_sum_l hn hr (Ne.symm hrm)]; grind
  have hpos : 0 < sumV V (a.W m) := by
    have h1 : 0 < K * sumV V (a.W m) := by rw [hD]; exact Int.mul_pos hs (Int.mul_pos hk hP)
    exact Int.pos_of_mul_pos_right h1 hK
  refine ⟨fun p q => ?_, ?_, Int.mul_pos hs hpos⟩
  · show k * (TA * B + A * TB) * smW V a.W m p q = a.s * sumV V (a.W m) * _
    refine Int.eq_of_mul_eq_mul_left (Int.ne_of_gt (Int.mul_pos hK hK)) ?_
    unfold smW
    by_cases h1 : p = q
    · subst h1; simp [hd, eW_diag hlr]
    · by_cases h2 : p = m
      · subst h2; simp [(hR q).1, eW_out (l := l) (r := r) (p := p) (q := q) (.inl ⟨Ne.symm hlm, Ne.symm hrm⟩)]
      · by_cases h3 : q = m
        · subst h3; simp [(hR p).2, eW_out (l := l) (r := r) (p := p) (q := q) (.inr ⟨Ne.symm hlm, Ne.symm hrm⟩)]
        · rw [if_neg (by simp [h1, h2, h3])]
          have e1 := h p q
          have e2 := h p m
          have e3 := h m q
          rw [(hR p).2] at e2
          rw [(hR q).1] at e3
          have c1 := eW_end2 (l := l) p hlm h2
          have c2 := eW_end1 (l := l) q hlm h3
          have c3 : eW m r p m = dl p r := (eW_rev m r p m).trans (eW_end2 p hrm h2)
          have c4 : eW m r m q = dl q r := (eW_rev m r m q).trans (eW_end1 q hrm h3)
          have z1 : eW l m p q = 0 := zz (z_r _ (dl_ne h3)) (z_l _ (dl_ne h2))
          have z2 : eW m r p q = 0 := zz (z_l _ (dl_ne h2)) (z_r _ (dl_ne h3))
          rw [z1, z2] at e1
          rw [c1, c3] at e2
          rw [c2, c4] at e3
          have y1 : dl p l * dl q l = 0 := dl_mul' h1
          have y2 : dl p r * dl q r = 0 := dl_mul' h1
          rw [show eW l r p q = dl p l * dl q r + dl p r * dl q l from rfl]
          generalize dl p l = u1 at *
          generalize dl q r = u2 at *
          generalize dl p r = u3 at *
          generalize dl q l = u4 at *
          clear c1 c2 c3 c4 z1 z2
          generalize sumV V (a.W m) = D at *
          generalize a.W p q = wpq at *
          generalize a.W p m = wpm at *
          generalize a.W m q = wmq at *
          have z1 : K * K * (k * (TA * B + A * TB) * (D * wpq + wpm * wmq)) = k * (TA * B + A * TB) * ((K * D) * (K * wpq) + (K * wpm) * (K * wmq)) := by clear e1 e2 e3 hD h y1 y2; grind
          have z2 : K * K * (a.s * D * ((TA * B + A * TB) * R p q + k * (TA * TB) * (u1 * u2 + u3 * u4))) = K * a.s * (K * D) * ((TA * B + A * TB) * R p q + k * (TA * TB) * (u1 * u2 + u3 * u4)) := by clear e1 e2 e3 hD h y1 y2 z1; grind
          rw [z1, z2, hD, e1, e2, e3, hKe]
          clear e1 e2 e3 hD h z1 z2
          grind
  · show K * (a.s * sumV V (a.W m)) = _
    grind
end Mine
end

section
set_option maxRecDepth 100000
set_option maxHeartbeats 400000
namespace Mine
/-- what striking a net's inner nodes, in the net's own order, makes of the state -/
theorem str {V : List Int} (hn : V.Nodup) : ∀ (n : Net) (ps : List Nat) (l r : Int) (R : Wt) (k : Int) (a : SM), Fine n ps l r → l ∈ V → r ∈ V → (∀ x ∈ innr n ps, x ∈ V) → (∀ x ∈ innr n ps, ∀ q, R x q = 0 ∧ R q x = 0) → (∀ p, R p p = 0) → 0 < k → 0 < a.s → 0 < a.t →
    (∀ p q, k * a.W p q = a.s * (R p q + k * netW n ps l r p q)) →
    (∀ p q, k * pairsN n * ((innr n ps).foldl (smS V) a).W p q = ((innr n ps).foldl (smS V) a).s * (pairsN n * R p q + k * treesN n * eW l r p q)) ∧
      ((innr n ps).foldl (smS V) a).s * a.t = pairsN n * ((innr n ps).foldl (smS V) a).t * a.s ∧ 0 < ((innr n ps).foldl (smS V) a).s ∧ 0 < ((innr n ps).foldl (smS V) a).t
  | .wire _ j, ps, l, r, R, k, a, hf, hl, hr, hi, hR, hd, hk, hs, ht, h => by
    refine ⟨fun p q => ?_, ?_, hs, ht⟩
    · have := h p q
      show k * 1 * a.W p q = a.s * (1 * R p q + k * wid j * eW l r p q)
      have e : netW (.wire ‹_› j) ps l r p q = wid j * eW l r p q := rfl
      rw [e] at this
      grind
    · show a.s * a.t = 1 * a.t * a.s
      grind
  | .ser na nb, ps, l, r, R, k, a, hf, hl, hr, hi, hR, hd, hk, hs, ht, h => by
    obtain ⟨fa, fb, hlm, hrm, hma, hmb, hA, hB⟩ := hf.ser
    have hpa := tp_pos na
    have hpb := tp_pos nb
    have hm : psM na ps ∈ V := hi _ (by simp [innr])
    have hia : ∀ x ∈ innr na (psA na ps), x ∈ innr (.ser na nb) ps := fun x hx => by simp [innr, hx]
    have hib : ∀ x ∈ innr nb (psB na nb ps), x ∈ innr (.ser na nb) ps := fun x hx => by simp [innr, hx]
    have hdb := netW_diag nb _ _ _ fb
    have ha := str hn na (psA na ps) l (psM na ps) (fun p q => R p q + k * netW nb (psB na nb ps) (psM na ps) r p q) k a fa hl hm (fun x hx => hi x (hia x hx))
      (fun x hx q => by
        have hx1 := hA x hx
        have hx2 : x ≠ psM na ps := fun e => hma (e ▸ hx)
        rw [netW_out nb _ _ _ x q (.inl ⟨hx2, hx1.2.1, hx1.2.2⟩), netW_out nb _ _ _ q x (.inr ⟨hx2, hx1.2.1, hx1.2.2⟩), (hR x (hia x hx) q).1, (hR x (hia x hx) q).2]
        exact ⟨by simp, by simp⟩)
      (fun p => by rw [hd, hdb]; simp) hk hs ht (fun p q => by
        have := h p q
        have e : netW (.ser na nb) ps l r p q = netW na (psA na ps) l (psM na ps) p q + netW nb (psB na nb ps) (psM na ps) r p q := rfl
        rw [this, e]; grind)
    have e0 : (innr (.ser na nb) ps).foldl (smS V) a = smS V ((innr nb (psB na nb ps)).foldl (smS V) ((innr na (psA na ps)).foldl (smS V) a)) (psM na ps) := by
      simp only [innr, List.foldl_append]; rfl
    rw [e0]
    generalize (innr na (psA na ps)).foldl (smS V) a = a1 at ha ⊢
    obtain ⟨ha1, ha2, ha3, ha4⟩ := ha
    have hb := str hn nb (psB na nb ps) (psM na ps) r (fun p q => pairsN na * R p q + k * treesN na * eW l (psM na ps) p q) (k * pairsN na) a1 fb hm hr (fun x hx => hi x (hib x hx))
      (fun x hx q => by
        have hx1 := hB x hx
        have hx2 : x ≠ psM na ps := fun e => hmb (e ▸ hx)
        rw [eW_out (l := l) (r := psM na ps) (p := x) (q := q) (.inl ⟨hx1.1, hx2⟩), eW_out (l := l) (r := psM na ps) (p := q) (q := x) (.inr ⟨hx1.1, hx2⟩), (hR x (hib x hx) q).1, (hR x (hib x hx) q).2]
        exact ⟨by simp, by simp⟩)
      (fun p => by rw [hd, eW_diag hlm]; simp) (Int.mul_pos hk hpa.2) ha3 ha4 (fun p q => by rw [ha1 p q]; grind)
    generalize (innr nb (psB na nb ps)).foldl (smS V) a1 = a2 at hb ⊢
    obtain ⟨hb1, hb2, hb3, hb4⟩ := hb
    have hAB := Int.mul_pos hpa.2 hpb.2
    have hP := (tp_pos (.ser na nb)).2
    obtain ⟨m1, m2, m3⟩ := meet (R := R) (A := pairsN na) (B := pairsN nb) (TA := treesN na) (TB := treesN nb) (k := k) (K := k * (pairsN na * pairsN nb)) hn hl hr hf.ne hlm hrm (hR _ (by simp [innr])) hd (Int.mul_pos hk hAB) hb3 (fun p q => by
      have := hb1 p q
      rw [show k * (pairsN na * pairsN nb) = k * pairsN na * pairsN nb by grind, this]
      grind) rfl hAB hk hP
    refine ⟨m1, ?_, m3, Int.mul_pos hb4 hb3⟩
    generalize hq : smS V a2 (psM na ps) = a3 at m1 m2 m3 ⊢
    have t3 : a3.t = a2.t * a2.s := by rw [← hq]; rfl
    clear h ha1 hb1 m1 hd hR hA hB
    have hK : 0 < k * (pairsN na * pairsN nb) * a1.t := Int.mul_pos (Int.mul_pos hk hAB) ha4
    refine Int.eq_of_mul_eq_mul_left (Int.ne_of_gt hK) ?_
    rw [t3]
    show _ = k * (pairsN na * pairsN nb) * a1.t * ((treesN na * pairsN nb + pairsN na * treesN nb) * (a2.t * a2.s) * a.s)
    calc k * (pairsN na * pairsN nb) * a1.t * (a3.s * a.t) = (k * (pairsN na * pairsN nb) * a3.s) * a.t * a1.t := by grind
      _ = (a2.s * a1.t) * a2.s * (k * (treesN na * pairsN nb + pairsN na * treesN nb)) * a.t := by rw [m2]; grind
      _ = pairsN nb * a2.t * a2.s * (k * (treesN na * pairsN nb + pairsN na * treesN nb)) * (a1.s * a.t) := by rw [hb2]; grind
      _ = _ := by rw [ha2]; grind
  | .par na nb, ps, l, r, R, k, a, hf, hl, hr, hi, hR, hd, hk, hs, ht, h => by
    obtain ⟨fa, fb, hA, hB⟩ := hf.par
    have hpa := tp_pos na
    have hpb := tp_pos nb
    have hia : ∀ x ∈ innr na (psA na ps), x ∈ innr (.par na nb) ps := fun x hx => by simp [innr, hx]
    have hib : ∀ x ∈ innr nb (psB na nb ps), x ∈ innr (.par na nb) ps := fun x hx => by simp [innr, hx]
    have hdb := netW_diag nb _ _ _ fb
    have ha := str hn na (psA na ps) l r (fun p q => R p q + k * netW nb (psB na nb ps) l r p q) k a fa hl hr (fun x hx => hi x (hia x hx))
      (fun x hx q => by
        have hx1 := hA x hx
        rw [netW_out nb _ _ _ x q (.inl hx1), netW_out nb _ _ _ q x (.inr hx1), (hR x (hia x hx) q).1, (hR x (hia x hx) q).2]
        exact ⟨by simp, by simp⟩)
      (fun p => by rw [hd, hdb]; simp) hk hs ht (fun p q => by
        have := h p q
        have e : netW (.par na nb) ps l r p q = netW na (psA na ps) l r p q + netW nb (psB na nb ps) l r p q := rfl
        rw [this, e]; grind)
    have e0 : (innr (.par na nb) ps).foldl (smS V) a = (innr nb (psB na nb ps)).foldl (smS V) ((innr na (psA na ps)).foldl (smS V) a) := by
      simp only [innr, List.foldl_append]
    rw [e0]
    generalize (innr na (psA na ps)).foldl (smS V) a = a1 at ha ⊢
    obtain ⟨ha1, ha2, ha3, ha4⟩ := ha
    have hb := str hn nb (psB na nb ps) l r (fun p q => pairsN na * R p q + k * treesN na * eW l r p q) (k * pairsN na) a1 fb hl hr (fun x hx => hi x (hib x hx))
      (fun x hx q => by
        have hx1 := hB x hx
        rw [eW_out (l := l) (r := r) (p := x) (q := q) (.inl hx1), eW_out (l := l) (r := r) (p := q) (q := x) (.inr hx1), (hR x (hib x hx) q).1, (hR x (hib x hx) q).2]
        exact ⟨by simp, by simp⟩)
      (fun p => by rw [hd, eW_diag hf.ne]; simp) (Int.mul_pos hk hpa.2) ha3 ha4 (fun p q => by rw [ha1 p q]; grind)
    generalize (innr nb (psB na nb ps)).foldl (smS V) a1 = a2 at hb ⊢
    obtain ⟨hb1, hb2, hb3, hb4⟩ := hb
    refine ⟨fun p q => ?_, ?_, hb3, hb4⟩
    · have := hb1 p q
      show k * (pairsN na * pairsN nb) * a2.W p q = a2.s * (pairsN na * pairsN nb * R p q + k * (treesN na * pairsN nb + pairsN na * treesN nb) * eW l r p q)
      rw [show k * (pairsN na * pairsN nb) = k * pairsN na * pairsN nb by grind, this]
      grind
    · clear h ha1 hb1 hd hR hA hB
      refine Int.eq_of_mul_eq_mul_left (Int.ne_of_gt ha4) ?_
      show _ = a1.t * (pairsN na * pairsN nb * a2.t * a.s)
      calc a1.t * (a2.s * a.t) = (a2.s * a1.t) * a.t := by grind
        _ = pairsN nb * a2.t * (a1.s * a.t) := by rw [hb2]; grind
        _ = _ := by rw [ha2]; grind
end Mine
end

section
set_option maxRecDepth 100000
set_option maxHeartbeats 400000
set_option linter.unusedVariables false
namespace Mine
/-! any order; bounds -/
theorem dl_nonneg (a b : Int) : 0 ≤ dl a b := by unfold dl; split <;> decide
theorem eW_nonneg (l r p q : Int) : 0 ≤ eW l r p q := Int.add_nonneg (Int.mul_nonneg (dl_nonneg _ _) (dl_nonneg _ _)) (Int.mul_nonneg (dl_nonneg _ _) (dl_nonneg _ _))
theorem eW_lr {l r : Int} (h : l ≠ r) : eW l r l r = 1 := by show dl l l * dl r r + dl l r * dl r l = 1; rw [dl_self, dl_self, dl_ne h, Int.zero_mul]; rfl
theorem netW_nonneg : ∀ (n : Net) (ps : List Nat) (l r p q : Int), 0 ≤ netW n ps l r p q
  | .wire _ k, _, l, r, p, q => Int.mul_nonneg (Int.le_of_lt (wid_pos k)) (eW_nonneg l r p q)
  | .ser a b, ps, l, r, p, q => Int.add_nonneg (netW_nonneg a _ _ _ _ _) (netW_nonneg b _ _ _ _ _)
  | .par a b, ps, l, r, p, q => Int.add_nonneg (netW_nonneg a _ _ _ _ _) (netW_nonneg b _ _ _ _ _)
theorem netW_sym : ∀ (n : Net) (ps : List Nat) (l r p q : Int), netW n ps l r p q = netW n ps l r q p
  | .wire _ k, _, l, r, p, q => by show wid k * _ = wid k * _; rw [eW_sym]
  | .ser a b, ps, l, r, p, q => by show _ + _ = _ + _; rw [netW_sym a, netW_sym b]
  | .par a b, ps, l, r, p, q => by show _ + _ = _ + _; rw [netW_sym a, netW_sym b]
theorem netW_rch {W : Wt} {bd : Int → Prop} : ∀ (n : Net) (ps : List Nat) (l r : Int), Fine n ps l r → (∀ p q, netW n ps l r p q ≤ W p q) → Rch W bd l → ∀ x ∈ r :: innr n ps, Rch W bd x
  | .wire _ k, ps, l, r, hf, h, hl, x, hx => by
    rcases List.mem_cons.mp hx with rfl | hx
    · refine .step (q := l) ?_ hl
      have h1 : wid k * eW l x x l ≤ W x l := h x l
      have e2 : eW l x x l = 1 := (eW_sym l x x l).trans (eW_lr hf.ne)
      have := wid_pos k
      rw [e2] at h1; omega
    · simp [innr] at hx
  | .ser a b, ps, l, r, hf, h, hl, x, hx => by
    have ha := netW_rch (W := W) a (psA a ps) l (psM a ps) hf.ser.1 (fun p q => by
      have := h p q; have := netW_nonneg b (psB a b ps) (psM a ps) r p q
      have e : netW (.ser a b) ps l r p q = netW a (psA a ps) l (psM a ps) p q + netW b (psB a b ps) (psM a ps) r p q := rfl
      omega) hl
    have hb := netW_rch (W := W) b (psB a b ps) (psM a ps) r hf.ser.2.1 (fun p q => by
      have := h p q; have := netW_nonneg a (psA a ps) l (psM a ps) p q
      have e : netW (.ser a b) ps l r p q = netW a (psA a ps) l (psM a ps) p q + netW b (psB a b ps) (psM a ps) r p q := rfl
      omega) (ha _ (.head _))
    simp only [innr, List.mem_cons, List.mem_append, List.not_mem_nil, or_false] at hx
    rcases hx with rfl | (hx | hx) | rfl
    · exact hb _ (.head _)
    · exact ha _ (.tail _ hx)
    · exact hb _ (.tail _ hx)
    · exact ha _ (.head _)
  | .par a b, ps, l, r, hf, h, hl, x, hx => by
    have ha := netW_rch (W := W) a (psA a ps) l r hf.par.1 (fun p q => by
      have := h p q; have := netW_nonneg b (psB a b ps) l r p q
      have e : netW (.par a b) ps l r p q = netW a (psA a ps) l r p q + netW b (psB a b ps) l r p q := rfl
      omega) hl
    have hb := netW_rch (W := W) b (psB a b ps) l r hf.par.2.1 (fun p q => by
      have := h p q; have := netW_nonneg a (psA a ps) l r p q
      have e : netW (.par a b) ps l r p q = netW a (psA a ps) l r p q + netW b (psB a b ps) l r p q := rfl
      omega) hl
    simp only [innr, List.mem_cons, List.mem_append] at hx
    rcases hx with rfl | hx | hx
    · exact hb _ (.head _)
    · exact ha _ (.tail _ hx)
    · exact hb _ (.tail _ hx)
abbrev ends (l r : Int) : Int → Prop := fun x => x = l ∨ x = r
theorem netInv {V : List Int} {n : Net} {ps : List Nat} {l r : Int} (hf : Fine n ps l r) (hl : l ∈ V) (hr : r ∈ V) (hi : ∀ x ∈ innr n ps, x ∈ V) : Inv V (ends l r) (netW n ps l r) (innr n ps) := by
  have h1 := (List.nodup_cons.mp hf)
  have h2 := (List.nodup_cons.mp h1.2)
  refine ⟨⟨netW_diag n ps l r hf, fun p q => netW_nonneg n ps l r p q, fun p q hq => netW_out n ps l r p q (.inr ⟨fun e => hq (e ▸ hl), fun e => hq (e ▸ hr), fun e => hq (hi q e)⟩)⟩, h2.2, hi, fun v hv e => ?_, fun v hv => netW_rch n ps l r hf (fun _ _ => Int.le_refl _) (.base (.inl rfl)) v (.tail _ hv)⟩
  rcases e with rfl | rfl
  · exact h1.1 (.tail _ hv)
  · exact h2.1 hv
/-- Kirchhoff: in any order -/
theorem struck_any {V : List Int} (hn : V.Nodup) {n : Net} {ps : List Nat} {l r : Int} (hf : Fine n ps l r) (hl : l ∈ V) (hr : r ∈ V) (hi : ∀ x ∈ innr n ps, x ∈ V) {ns : List Int} (hp : ns.Perm (innr n ps)) {b : SM} (hb : b = ns.foldl (smS V) ⟨netW n ps l r, 1, 1⟩) :
    b.s = pairsN n * b.t ∧ b.W l r = treesN n * b.t ∧ b.W r l = treesN n * b.t := by
  obtain ⟨s1, s2, s3, s4⟩ := str hn n ps l r (fun _ _ => 0) 1 ⟨netW n ps l r, 1, 1⟩ hf hl hr hi (fun _ _ _ => ⟨rfl, rfl⟩) (fun _ => rfl) Int.one_pos Int.one_pos Int.one_pos (fun p q => by simp)
  have hE := fold_perm hn hp.symm ⟨netW n ps l r, 1, 1⟩ (netInv hf hl hr hi)
  rw [← hb] at hE
  generalize (innr n ps).foldl (smS V) ⟨netW n ps l r, 1, 1⟩ = b0 at s1 s2 s3 s4 hE
  obtain ⟨c, d, hc, hd, e1, e2, e3⟩ := hE
  have hpn := (tp_pos n).2
  have key : ∀ p q, eW l r p q = 1 → b.W p q = treesN n * b.t := by
    intro p q he
    have := s1 p q
    rw [he] at this
    have x1 : b0.W p q = treesN n * b0.t := by
      refine Int.eq_of_mul_eq_mul_left (Int.ne_of_gt hpn) ?_
      grind
    refine Int.eq_of_mul_eq_mul_left (Int.ne_of_gt hd) ?_
    have := e1 p q
    grind
  refine ⟨?_, key l r (eW_lr hf.ne), key r l ((eW_sym l r r l).trans (eW_lr hf.ne))⟩
  refine Int.eq_of_mul_eq_mul_left (Int.ne_of_gt hd) ?_
  grind

/-- how large things get -/
def big (i : Nat) : Int := 2 ^ (9 * 2 ^ i)
theorem big_succ (i : Nat) : big (i + 1) = big i * big i := by
  unfold big; rw [← Int.pow_add]; congr 1; rw [Nat.pow_succ]; omega
theorem big_pos (i : Nat) : 0 < big i := Int.pow_pos (by decide)
structure BdS (V : List Int) (i : Nat) (a : SM) : Prop where
  deg : ∀ p ∈ V, sumV V (a.W p) ≤ big i
  s0 : 0 < a.s
  s1 : a.s ≤ big i
  t0 : 0 < a.t
  t1 : a.t ≤ big i
theorem mul_le {a b x y : Int} (ha : 0 ≤ a) (hx : a ≤ x) (hb : 0 ≤ b) (hy : b ≤ y) : a * b ≤ x * y := Int.mul_le_mul hx hy hb (Int.le_trans ha hx)
theorem BdS.step {V : List Int} (hn : V.Nodup) {i : Nat} {a : SM} {v : Int} (h : BdS V i a) (ok : OkW V a.W) (hv : v ∈ V) (hd : 0 < sumV V (a.W v)) : BdS V (i + 1) (smS V a v) := by
  have hs := Int.le_of_lt h.s0
  have hdv := h.deg v hv
  refine ⟨fun p hp => ?_, Int.mul_pos h.s0 hd, ?_, Int.mul_pos h.t0 h.s0, ?_⟩
  · show sumV V (smW V a.W v p) ≤ _
    rw [big_succ]
    have hB := Int.mul_pos (big_pos i) (big_pos i)
    by_cases e : p = v
    · rw [sumV_zero fun q _ => by unfold smW; rw [if_pos (.inr (.inl e))]]; exact Int.le_of_lt hB
    · rw [smW_deg hn hv hp (Ne.symm e) ok.diag]
      have h0 : 0 ≤ sumV V (a.W p) := sumV_nonneg fun q _ => ok.pos p q
      have h1 := mul_le (Int.le_of_lt hd) hdv h0 (h.deg p hp)
      have h2 := Int.mul_nonneg (ok.pos p v) (ok.pos v p)
      have e : sumV V (a.W v) * (sumV V (a.W p) - a.W p v) + a.W p v * (sumV V (a.W v) - a.W v p) = sumV V (a.W v) * sumV V (a.W p) - a.W p v * a.W v p := by grind
      omega
  · rw [big_succ]; exact mul_le hs h.s1 (Int.le_of_lt hd) hdv
  · rw [big_succ]; exact mul_le (Int.le_of_lt h.t0) h.t1 hs h.s1
theorem dl_deg {V : List Int} (hn : V.Nodup) (x : Int) : sumV V (fun q => dl q x) ≤ 1 := by
  by_cases hx : x ∈ V
  · rw [dl_sum hn hx]; exact Int.le_refl _
  · rw [sumV_zero fun q hq => dl_ne fun (e : q = x) => hx (e ▸ hq)]; decide
theorem eW_deg {V : List Int} (hn : V.Nodup) {l r : Int} (h : l ≠ r) (p : Int) : sumV V (eW l r p) ≤ 1 := by
  have e : sumV V (eW l r p) = dl p l * sumV V (fun q => dl q r) + dl p r * sumV V (fun q => dl q l) := by rw [← sumV_lin]; rfl
  rw [e]
  have h1 := dl_deg hn r
  have h2 := dl_deg hn l
  by_cases h3 : p = l
  · rw [h3, dl_self, dl_ne h, Int.one_mul, Int.zero_mul, Int.add_zero]; exact h1
  · rw [dl_ne h3, Int.zero_mul, Int.zero_add]
    by_cases h4 : p = r
    · rw [h4, dl_self, Int.one_mul]; exact h2
    · rw [dl_ne h4, Int.zero_mul]; decide
theorem wid_le (k : Fin 15) : wid k ≤ 54 := by revert k; decide
theorem netW_deg {V : List Int} (hn : V.Nodup) : ∀ (n : Net) (ps : List Nat) (l r p : Int), Fine n ps l r → sumV V (netW n ps l r p) ≤ 54 * nw n
  | .wire _ k, _, l, r, p, hf => by
    show sumV V (fun q => wid k * eW l r p q) ≤ 54 * ((1 : Nat) : Int)
    rw [sumV_mul]
    have h1 := eW_deg hn hf.ne p
    have h2 : wid k ≤ 54 := wid_le k
    have h3 := sumV_nonneg (V := V) fun q _ => eW_nonneg l r p q
    have := mul_le (Int.le_of_lt (wid_pos k)) h2 h3 h1
    exact this
  | .ser a b, ps, l, r, p, hf => by
    show sumV V (fun q => netW a (psA a ps) l (psM a ps) p q + netW b (psB a b ps) (psM a ps) r p q) ≤ 54 * ((nw a + nw b : Nat) : Int)
    rw [sumV_add]
    have := netW_deg hn a (psA a ps) l (psM a ps) p hf.ser.1
    have := netW_deg hn b (psB a b ps) (psM a ps) r p hf.ser.2.1
    omega
  | .par a b, ps, l, r, p, hf => by
    show sumV V (fun q => netW a (psA a ps) l r p q + netW b (psB a b ps) l r p q) ≤ 54 * ((nw a + nw b : Nat) : Int)
    rw [sumV_add]
    have := netW_deg hn a (psA a ps) l r p hf.par.1
    have := netW_deg hn b (psB a b ps) l r p hf.par.2.1
    omega
theorem BdS.start {V : List Int} (hn : V.Nodup) {n : Net} (h : nw n ≤ 5) {ps : List Nat} {l r : Int} (hf : Fine n ps l r) : BdS V 0 ⟨netW n ps l r, 1, 1⟩ :=
  ⟨fun p _ => Int.le_trans (netW_deg hn n ps l r p hf) (by show 54 * (nw n : Int) ≤ 512; omega), Int.one_pos, by show (1 : Int) ≤ 512; decide, Int.one_pos, by show (1 : Int) ≤ 512; decide⟩
theorem innr_len : ∀ (n : Net) (ps : List Nat), (innr n ps).length + 1 ≤ nw n
  | .wire _ _, _ => by simp [innr, nw]
  | .ser a b, ps => by
    have := innr_len a (psA a ps)
    have := innr_len b (psB a b ps)
    simp only [innr, nw, List.length_append, List.length_singleton]; omega
  | .par a b, ps => by
    have := innr_len a (psA a ps)
    have := innr_len b (psB a b ps)
    simp only [innr, nw, List.length_append]; omega
open PySem PyProof.Rows in
theorem mulOk_big {a b : Int} (ha0 : 0 ≤ a) (ha : a ≤ 2 ^ 250) (hb0 : 0 ≤ b) (hb : b ≤ 2 ^ 250) : IntMulOk a b := by
  have key : ∀ x : Int, 0 ≤ x → x ≤ 2 ^ 250 → Builtin.Int.intBits x ≤ 2 ^ 20 := by
    intro x h0 h1
    refine Nat.le_trans (intBits_le (k := 251) ?_) (by decide)
    obtain ⟨m, rfl⟩ := Int.eq_ofNat_of_zero_le h0
    rw [Int.natAbs_natCast]
    have : (m : Int) ≤ ((2 ^ 250 : Nat) : Int) := by exact_mod_cast h1
    have : m ≤ 2 ^ 250 := Int.ofNat_le.mp this
    exact Nat.lt_of_le_of_lt this (Nat.pow_lt_pow_right (by decide) (by decide))
  exact IntMulOk.of_bits (key a ha0 ha) (key b hb0 hb)
theorem big_le {i : Nat} (h : i ≤ 4) : big i ≤ 2 ^ 250 := by
  unfold big
  have : (2 : Nat) ^ (9 * 2 ^ i) ≤ 2 ^ 250 := Nat.pow_le_pow_right (by decide) (by
    have : 2 ^ i ≤ 2 ^ 4 := Nat.pow_le_pow_right (by decide) h
    omega)
  exact_mod_cast this
end Mine
end

section
set_option maxRecDepth 100000
set_option maxHeartbeats 400000
set_option linter.unusedVariables false
namespace Mine
/-! tables: their weights -/
section
variable {β γ : Type}
theorem at_nil (k : Int) : at? ([] : List (Int × β)) k = none := rfl
theorem at_cons (p : Int × β) (l : List (Int × β)) (k : Int) : at? (p :: l) k = if p.1 = k then some p.2 else at? l k := by
  unfold at?
  rw [List.find?_cons]
  by_cases h : p.1 = k <;> simp [h]
theorem at_append (l l' : List (Int × β)) (k : Int) : at? (l ++ l') k = (at? l k).or (at? l' k) := by
  induction l with
  | nil => rfl
  | cons p l ih =>
    rw [List.cons_append, at_cons, at_cons, ih]
    split <;> rfl
theorem at_none {l : List (Int × β)} {k : Int} : at? l k = none ↔ k ∉ l.map (·.1) := by
  induction l with
  | nil => simp [at_nil]
  | cons p l ih =>
    rw [at_cons, List.map_cons, List.mem_cons, not_or]
    by_cases h : p.1 = k
    · rw [if_pos h]; simp [h.symm]
    · rw [if_neg h, ih]; exact ⟨fun x => ⟨fun e => h e.symm, x⟩, fun x => x.2⟩
theorem at_of_mem {l : List (Int × β)} (hn : (l.map (·.1)).Nodup) {p : Int × β} (h : p ∈ l) : at? l p.1 = some p.2 := by
  induction l with
  | nil => cases h
  | cons q l ih =>
    have hn' := List.nodup_cons.mp hn
    rw [at_cons]
    rcases List.mem_cons.mp h with rfl | h
    · rw [if_pos rfl]
    · rw [if_neg fun (e : q.1 = p.1) => hn'.1 (List.mem_map.mpr ⟨p, h, e.symm⟩)]; exact ih hn'.2 h
theorem at_filter (l : List (Int × β)) (n k : Int) : at? (l.filter fun p => decide (p.1 ≠ n)) k = if k = n then none else at? l k := by
  induction l with
  | nil => simp [at_nil]
  | cons p l ih =>
    rw [List.filter_cons]
    by_cases h : p.1 = n
    · rw [if_neg (by simp [h]), ih, at_cons]
      by_cases e : k = n
      · rw [if_pos e, if_pos e]
      · rw [if_neg e, if_neg e, if_neg (by omega)]
    · rw [if_pos (by simp [h]), at_cons, ih, at_cons]
      by_cases e : k = n
      · rw [if_pos e, if_pos e, if_neg (by omega)]
      · rw [if_neg e, if_neg e]
theorem at_map (l : List (Int × β)) (f : Int → β → γ) (k : Int) : at? (l.map fun p => (p.1, f p.1 p.2)) k = (at? l k).map (f k) := by
  induction l with
  | nil => rfl
  | cons p l ih =>
    rw [List.map_cons, at_cons, at_cons, ih]
    by_cases h : p.1 = k
    · rw [if_pos h, if_pos h]; simp [h]
    · rw [if_neg h, if_neg h]
theorem keys_filter (l : List (Int × β)) (n : Int) : (l.filter fun p => decide (p.1 ≠ n)).map (·.1) = (l.map (·.1)).filter fun k => decide (k ≠ n) := by
  rw [List.filter_map]; rfl
theorem keys_put {l : List (Int × β)} {k : Int} {v : β} : (put l k v).map (·.1) = if k ∈ l.map (·.1) then l.map (·.1) else l.map (·.1) ++ [k] := by
  unfold put
  have e : (l.any fun kv => decide (kv.1 = k)) = true ↔ k ∈ l.map (·.1) := by
    rw [List.any_eq_true, List.mem_map]
    exact ⟨fun ⟨x, h1, h2⟩ => ⟨x, h1, of_decide_eq_true h2⟩, fun ⟨x, h1, h2⟩ => ⟨x, h1, decide_eq_true h2⟩⟩
  by_cases h : k ∈ l.map (·.1)
  · rw [if_pos (e.mpr h), if_pos h, List.map_map]
    refine List.map_congr_left fun x _ => ?_
    show (if x.1 = k then (x.1, v) else x).1 = x.1
    split <;> rfl
  · rw [if_neg (fun q => h (e.mp q)), if_neg h]; simp
theorem mem_keys_put {l : List (Int × β)} {k : Int} {v : β} {x : Int} : x ∈ (put l k v).map (·.1) ↔ x ∈ l.map (·.1) ∨ x = k := by
  rw [keys_put]
  split
  · rename_i h
    exact ⟨.inl, fun e => e.elim id fun e => e ▸ h⟩
  · rw [List.mem_append, List.mem_singleton]
theorem nodup_put {l : List (Int × β)} {k : Int} {v : β} (h : (l.map (·.1)).Nodup) : ((put l k v).map (·.1)).Nodup := by
  rw [keys_put]
  split
  · exact h
  · rename_i hk
    rw [List.nodup_append]
    exact ⟨h, by simp, fun a ha b hb e => hk (by rw [List.mem_singleton] at hb; rw [← hb, ← e]; exact ha)⟩
theorem at_put (l : List (Int × β)) (k : Int) (v : β) (x : Int) : at? (put l k v) x = if x = k then some v else at? l x := by
  unfold put
  split
  · rename_i h
    have hm : k ∈ l.map (·.1) := by
      obtain ⟨y, h1, h2⟩ := List.any_eq_true.mp h
      exact List.mem_map.mpr ⟨y, h1, of_decide_eq_true h2⟩
    clear h
    induction l with
    | nil => cases hm
    | cons p l ih =>
      rw [List.map_cons, at_cons, at_cons]
      by_cases hp : p.1 = k
      · rw [if_pos hp]
        by_cases e : x = k
        · rw [if_pos (by dsimp only; omega), if_pos e]
        · rw [if_neg (by dsimp only; omega), if_neg e, if_neg (by omega)]
          clear ih hm
          induction l with
          | nil => rfl
          | cons q l ih =>
            rw [List.map_cons, at_cons, at_cons, ih]
            by_cases hq : q.1 = k
            · rw [if_pos hq, if_neg (by dsimp only; omega), if_neg (by omega)]
            · rw [if_neg hq]
      · have hm' : k ∈ l.map (·.1) := by
          rw [List.map_cons] at hm
          exact (List.mem_cons.mp hm).resolve_left fun e => hp e.symm
        rw [if_neg hp, ih hm']
        by_cases e : x = k
        · subst e; rw [if_neg hp, if_pos rfl, if_pos rfl]
        · rw [if_neg e, if_neg e]
  · rename_i h
    have hm : k ∉ l.map (·.1) := fun hm => h (by
      obtain ⟨y, h1, h2⟩ := List.mem_map.mp hm
      exact List.any_eq_true.mpr ⟨y, h1, decide_eq_true h2⟩)
    rw [at_append, at_cons, at_nil]
    by_cases e : x = k
    · rw [if_pos e, if_pos e.symm, e, at_none.mpr hm]; rfl
    · rw [if_neg e, if_neg fun q => e q.symm]; simp
end
def gd (cs : List (Int × Int)) (k : Int) : Int := (at? cs k).getD 0
theorem gd_nil (k : Int) : gd [] k = 0 := rfl
theorem gd_cons (p : Int × Int) (l : List (Int × Int)) (k : Int) : gd (p :: l) k = if p.1 = k then p.2 else gd l k := by
  unfold gd; rw [at_cons]; split <;> rfl
theorem gd_out {l : List (Int × Int)} {k : Int} (h : k ∉ l.map (·.1)) : gd l k = 0 := by unfold gd; rw [at_none.mpr h]; rfl
theorem gd_mem {l : List (Int × Int)} (hn : (l.map (·.1)).Nodup) {p : Int × Int} (h : p ∈ l) : gd l p.1 = p.2 := by unfold gd; rw [at_of_mem hn h]; rfl
theorem gd_addC : ∀ (cs ct : List (Int × Int)) (k : Int), (cs.map (·.1)).Nodup → gd (addC ct cs) k = gd ct k + gd cs k
  | [], ct, k, _ => by rw [gd_nil]; exact (Int.add_zero _).symm
  | p :: cs, ct, k, hn => by
    have hn' := List.nodup_cons.mp hn
    show gd (addC (put ct p.1 (match at? ct p.1 with | some x => x + p.2 | none => p.2)) cs) k = _
    rw [gd_addC cs _ k hn'.2, gd_cons]
    have e : gd (put ct p.1 (match at? ct p.1 with | some x => x + p.2 | none => p.2)) k = if k = p.1 then gd ct k + p.2 else gd ct k := by
      unfold gd
      rw [at_put]
      by_cases h : k = p.1
      · rw [if_pos h, if_pos h, h]
        cases at? ct p.1 <;> simp
      · rw [if_neg h, if_neg h]
    rw [e]
    by_cases h : k = p.1
    · rw [if_pos h, if_pos h.symm, h, gd_out hn'.1]; omega
    · rw [if_neg h, if_neg fun q => h q.symm]
theorem keys_addC : ∀ (cs ct : List (Int × Int)) (x : Int), x ∈ (addC ct cs).map (·.1) ↔ x ∈ ct.map (·.1) ∨ x ∈ cs.map (·.1)
  | [], ct, x => by simp [addC]
  | p :: cs, ct, x => by
    show x ∈ (addC (put ct p.1 _) cs).map (·.1) ↔ _
    rw [keys_addC cs, mem_keys_put, List.map_cons, List.mem_cons]
    exact ⟨fun h => h.elim (fun h => h.elim .inl fun h => .inr (.inl h)) fun h => .inr (.inr h), fun h => h.elim (fun h => .inl (.inl h)) fun h => h.elim (fun h => .inl (.inr h)) .inr⟩
theorem nodup_addC : ∀ (cs ct : List (Int × Int)), (ct.map (·.1)).Nodup → ((addC ct cs).map (·.1)).Nodup
  | [], ct, h => h
  | p :: cs, ct, h => nodup_addC cs (put ct p.1 _) (nodup_put h)
theorem sumC_V {V : List Int} (hV : V.Nodup) : ∀ {cs : List (Int × Int)}, (cs.map (·.1)).Nodup → (∀ x ∈ cs.map (·.1), x ∈ V) → sumC cs = sumV V (gd cs)
  | [], _, _ => by rw [sumV_zero fun q _ => gd_nil q]; rfl
  | p :: cs, hn, hs => by
    have hn' := List.nodup_cons.mp hn
    have ih := sumC_V hV hn'.2 fun x hx => hs x (.tail _ hx)
    have e : sumV V (gd (p :: cs)) = p.2 * sumV V (fun q => if q = p.1 then 1 else 0) + 1 * sumV V (gd cs) := by
      rw [← sumV_lin]
      refine sumV_congr fun q _ => ?_
      rw [gd_cons]
      by_cases h : q = p.1
      · rw [if_pos h.symm, if_pos h, h, gd_out hn'.1]; omega
      · rw [if_neg fun e => h e.symm, if_neg h]; omega
    rw [e, sumV_one hV (hs p.1 (.head _)), ← ih]
    show (p.2 :: cs.map (·.2)).sum = _
    rw [List.sum_cons]; unfold sumC; omega
/-- a table's weights -/
def Wf (tab : Tab) : Wt := fun p q => match at? tab p with
  | some cs => gd cs q
  | none => 0
structure Good (V : List Int) (tab : Tab) : Prop where
  nd : (tab.map (·.1)).Nodup
  sub : ∀ x ∈ tab.map (·.1), x ∈ V
  rnd : ∀ p ∈ tab, (p.2.map (·.1)).Nodup
  self : ∀ p ∈ tab, p.1 ∉ p.2.map (·.1)
  rsub : ∀ p ∈ tab, ∀ x ∈ p.2.map (·.1), x ∈ tab.map (·.1)
section
variable {V : List Int} {tab : Tab} {n : Int} {bs : List (Int × Int)}
theorem gd_far (w : Int) (cs : List (Int × Int)) (k : Int) : gd (farL w n cs) k = if k = n then 0 else w * gd cs k := by
  unfold gd farL
  rw [at_map (f := fun _ x => w * x), at_filter]
  split
  · rfl
  · cases at? cs k <;> simp
theorem keys_far (w : Int) (cs : List (Int × Int)) : (farL w n cs).map (·.1) = (cs.map (·.1)).filter fun k => decide (k ≠ n) := by
  unfold farL
  rw [List.map_map, ← keys_filter]; rfl
theorem gd_thr (near k : Int) : gd (thrL bs near) k = if k = near then 0 else gd bs near * gd bs k := by
  unfold thrL thrJ
  have e : gd bs near = (at? bs near).getD 0 := rfl
  rw [e]
  cases at? bs near with
  | none => simp [gd_nil]
  | some b =>
    unfold gd
    dsimp only
    rw [at_map (f := fun _ x => b * x), at_filter]
    split
    · rfl
    · cases at? bs k <;> simp
theorem keys_thr (near : Int) : ∀ x, x ∈ (thrL bs near).map (·.1) → x ∈ bs.map (·.1) ∧ x ≠ near := by
  intro x hx
  unfold thrL thrJ at hx
  split at hx
  · rw [List.map_map] at hx
    have : x ∈ (bs.filter fun p => decide (p.1 ≠ near)).map (·.1) := hx
    rw [keys_filter, List.mem_filter] at this
    exact ⟨this.1, of_decide_eq_true this.2⟩
  · cases hx
theorem nodup_thr (near : Int) (h : (bs.map (·.1)).Nodup) : ((thrL bs near).map (·.1)).Nodup := by
  unfold thrL thrJ
  split
  · rw [List.map_map]
    show ((bs.filter fun p => decide (p.1 ≠ near)).map (·.1)).Nodup
    rw [keys_filter]; exact h.filter _
  · exact .nil
theorem keys_struck : (struckT tab n bs).map (·.1) = (tab.map (·.1)).filter fun k => decide (k ≠ n) := by
  unfold struckT
  rw [List.map_map, ← keys_filter]; rfl
theorem Good.struck (h : Good V tab) (hb : at? tab n = some bs) : Good V (struckT tab n bs) := by
  have hbm := at_mem hb
  have row : ∀ p ∈ struckT tab n bs, ∃ q ∈ tab, q.1 ≠ n ∧ p.1 = q.1 ∧ p.2 = addC (farL (sumC bs) n q.2) (thrL bs q.1) := by
    intro p hp
    obtain ⟨q, hq, rfl⟩ := List.mem_map.mp hp
    obtain ⟨h1, h2⟩ := List.mem_filter.mp hq
    exact ⟨q, h1, of_decide_eq_true h2, rfl, rfl⟩
  refine ⟨?_, fun x hx => ?_, fun p hp => ?_, fun p hp hx => ?_, fun p hp x hx => ?_⟩
  · rw [keys_struck]; exact h.nd.filter _
  · rw [keys_struck] at hx; exact h.sub x (List.mem_filter.mp hx).1
  · obtain ⟨q, hq, _, _, e⟩ := row p hp
    rw [e]
    refine nodup_addC _ _ ?_
    rw [keys_far]; exact (h.rnd q hq).filter _
  · obtain ⟨q, hq, hqn, e1, e2⟩ := row p hp
    rw [e2, keys_addC, keys_far] at hx
    rcases hx with hx | hx
    · exact h.self q hq (e1 ▸ (List.mem_filter.mp hx).1)
    · exact (keys_thr _ _ hx).2 e1
  · obtain ⟨q, hq, hqn, e1, e2⟩ := row p hp
    rw [e2, keys_addC, keys_far] at hx
    rw [keys_struck]
    refine List.mem_filter.mpr ?_
    rcases hx with hx | hx
    · obtain ⟨h1, h2⟩ := List.mem_filter.mp hx
      exact ⟨h.rsub q hq x h1, h2⟩
    · have h1 := (keys_thr _ _ hx).1
      refine ⟨h.rsub _ hbm x h1, decide_eq_true fun e => ?_⟩
      exact h.self _ hbm (e ▸ h1)
theorem Wf_at {p : Int} {cs : List (Int × Int)} (h : at? tab p = some cs) (q : Int) : Wf tab p q = gd cs q := by unfold Wf; rw [h]
theorem Wf_none {p : Int} (h : p ∉ tab.map (·.1)) (q : Int) : Wf tab p q = 0 := by unfold Wf; rw [at_none.mpr h]
theorem Wf_struck (h : Good V tab) (hV : V.Nodup) (hb : at? tab n = some bs) (hsym : ∀ p q, Wf tab p q = Wf tab q p) : Wf (struckT tab n bs) = smW V (Wf tab) n := by
  have hbm := at_mem hb
  have hD : sumC bs = sumV V (Wf tab n) := by
    rw [sumC_V hV (h.rnd _ hbm) fun x hx => h.sub x (h.rsub _ hbm x hx)]
    exact sumV_congr fun q _ => (Wf_at hb q).symm
  funext p q
  have e : at? (struckT tab n bs) p = if p = n then none else (at? tab p).map fun cs => addC (farL (sumC bs) n cs) (thrL bs p) := by
    unfold struckT
    rw [at_map (f := fun k cs => addC (farL (sumC bs) n cs) (thrL bs k)), at_filter]
    split <;> rfl
  have hbn : gd bs n = 0 := gd_out (h.self _ hbm)
  unfold smW
  by_cases hp : p = n
  · subst hp
    rw [if_pos (.inr (.inl rfl))]
    unfold Wf; rw [e, if_pos rfl]
  · cases hc : at? tab p with
    | none =>
      have hk := at_none.mp hc
      have hx : Wf tab (struckT tab n bs |> fun _ => p) q = 0 := Wf_none hk q
      have hx2 : Wf tab p n = 0 := Wf_none hk n
      have : Wf (struckT tab n bs) p q = 0 := by unfold Wf; rw [e, if_neg hp, hc]; rfl
      rw [this, show Wf tab p q = 0 from Wf_none hk q, hx2]
      split <;> simp
    | some cs =>
      have hcm := at_mem hc
      have hpp : gd cs p = 0 := gd_out (h.self _ hcm)
      have e2 : Wf (struckT tab n bs) p q = (if q = n then 0 else sumC bs * gd cs q) + (if q = p then 0 else gd bs p * gd bs q) := by
        unfold Wf
        rw [e, if_neg hp, hc]
        show gd (addC (farL (sumC bs) n cs) (thrL bs p)) q = _
        rw [gd_addC _ _ _ (nodup_thr p (h.rnd _ hbm)), gd_far, gd_thr]
      rw [e2]
      have w1 : Wf tab p n = gd bs p := (hsym p n).trans (Wf_at hb p)
      rw [w1, Wf_at hc q, Wf_at hb q, ← hD]
      by_cases h1 : q = p
      · subst h1; rw [if_pos rfl, hpp, if_neg hp]; simp
      · rw [if_neg h1]
        by_cases h2 : q = n
        · subst h2; rw [if_pos rfl, hbn]; simp
        · rw [if_neg h2, if_neg (by simp [Ne.symm h1, hp, h2])]
theorem smW_sym {W : Wt} (hsym : ∀ p q, W p q = W q p) (v p q : Int) : smW V W v p q = smW V W v q p := by
  unfold smW
  by_cases h : p = q ∨ p = v ∨ q = v
  · rw [if_pos h, if_pos (by omega)]
  · rw [if_neg h, if_neg (by omega), hsym p q, hsym p v, hsym v q]; grind
end
end Mine
end

section
set_option maxRecDepth 100000
set_option maxHeartbeats 400000
set_option linter.unusedVariables false
namespace Mine
/-! the profile -/
def tabOf (p : Prof) : Tab := p.map fun x => (x.1, x.2.cs)
theorem tabOf_keys (p : Prof) : (tabOf p).map (·.1) = p.map (·.1) := by unfold tabOf; rw [List.map_map]; rfl
theorem tabOf_at (p : Prof) (k : Int) : at? (tabOf p) k = (at? p k).map (·.cs) := at_map p (fun _ e => e.cs) k
theorem mem_put' {β : Type} {kvs : List (Int × β)} {k : Int} {v : β} {x : Int × β} (h : x ∈ put kvs k v) : x ∈ kvs ∨ x = (k, v) := by
  unfold put at h
  split at h
  · obtain ⟨y, hy, rfl⟩ := List.mem_map.mp h
    by_cases e : y.1 = k
    · rw [if_pos e, e]; exact .inr rfl
    · rw [if_neg e]; exact .inl hy
  · rcases List.mem_append.mp h with h | h
    · exact .inl h
    · exact .inr (List.mem_singleton.mp h)
theorem sumC_addC {ct cs : List (Int × Int)} (h1 : (ct.map (·.1)).Nodup) (h2 : (cs.map (·.1)).Nodup) : sumC (addC ct cs) = sumC ct + sumC cs := by
  have hn := nodup_addC cs ct h1
  rw [sumC_V hn hn fun x hx => hx, sumC_V hn h1 fun x hx => (keys_addC cs ct x).mpr (.inl hx), sumC_V hn h2 fun x hx => (keys_addC cs ct x).mpr (.inr hx), ← sumV_add]
  exact sumV_congr fun q _ => gd_addC cs ct q h2
structure GoodP (p : Prof) : Prop where
  nd : (p.map (·.1)).Nodup
  rnd : ∀ x ∈ p, (x.2.cs.map (·.1)).Nodup
  self : ∀ x ∈ p, x.1 ∉ x.2.cs.map (·.1)
  wd : ∀ x ∈ p, x.2.wid = sumC x.2.cs
/-- a booked entry -/
theorem book_row {p : Prof} {node beyond wd : Int} {x : Int × Ent} (h : x ∈ book p node beyond wd) : x ∈ p ∨ (x.1 = node ∧ ∃ e0 : Ent, ((node, e0) ∈ p ∨ e0 = ⟨0, []⟩) ∧ x.2 = ⟨wd + e0.wid, addC e0.cs [(beyond, wd)]⟩) := by
  unfold book at h
  rcases mem_put' h with h | h
  · exact .inl h
  · refine .inr ⟨by rw [h], ?_⟩
    rw [h]
    dsimp only
    split
    · rename_i e he
      exact ⟨e, .inl (at_mem he), rfl⟩
    · exact ⟨⟨0, []⟩, .inr rfl, rfl⟩
theorem GoodP.book {p : Prof} {node beyond wd : Int} (h : GoodP p) (hne : node ≠ beyond) : GoodP (book p node beyond wd) := by
  have one : (([(beyond, wd)] : List (Int × Int)).map (·.1)).Nodup := by simp
  have s1 : sumC [(beyond, wd)] = wd := by simp [sumC]
  refine ⟨nodup_put h.nd, fun x hx => ?_, fun x hx => ?_, fun x hx => ?_⟩
  · rcases book_row hx with hx | ⟨_, e0, he, e⟩
    · exact h.rnd x hx
    · rw [e]
      refine nodup_addC _ _ ?_
      rcases he with he | rfl
      · exact h.rnd _ he
      · exact .nil
  · rcases book_row hx with hx | ⟨e1, e0, he, e⟩
    · exact h.self x hx
    · rw [e, e1, keys_addC]
      intro hm
      rcases hm with hm | hm
      · rcases he with he | rfl
        · exact h.self _ he hm
        · cases hm
      · rw [List.map_cons, List.map_nil, List.mem_singleton] at hm
        exact hne hm
  · rcases book_row hx with hx | ⟨_, e0, he, e⟩
    · exact h.wd x hx
    · rw [e]
      rcases he with he | rfl
      · rw [sumC_addC (h.rnd _ he) one, s1, ← h.wd _ he]; exact Int.add_comm _ _
      · rw [sumC_addC (ct := []) .nil one, s1]; show wd + 0 = 0 + wd; omega
theorem book_keys {p : Prof} {node beyond wd x : Int} : x ∈ (book p node beyond wd).map (·.1) ↔ x ∈ p.map (·.1) ∨ x = node := mem_keys_put
theorem book_rkeys {p : Prof} {node beyond wd : Int} {x : Int × Ent} (h : x ∈ book p node beyond wd) {y : Int} (hy : y ∈ x.2.cs.map (·.1)) : (∃ x' ∈ p, y ∈ x'.2.cs.map (·.1)) ∨ y = beyond := by
  rcases book_row h with hx | ⟨e1, e0, he, e⟩
  · exact .inl ⟨x, hx, hy⟩
  · rw [e, keys_addC] at hy
    rcases hy with hy | hy
    · rcases he with he | rfl
      · exact .inl ⟨_, he, hy⟩
      · cases hy
    · rw [List.map_cons, List.map_nil, List.mem_singleton] at hy
      exact .inr hy
theorem book_W {p : Prof} {node beyond wd : Int} (x y : Int) : Wf (tabOf (book p node beyond wd)) x y = Wf (tabOf p) x y + wd * (dl x node * dl y beyond) := by
  have g1 : gd [(beyond, wd)] y = wd * dl y beyond := by
    rw [gd_cons]
    by_cases h : y = beyond
    · rw [if_pos h.symm, h, dl_self, Int.mul_one]
    · rw [if_neg fun e => h e.symm, dl_ne h, Int.mul_zero]; rfl
  have one : (([(beyond, wd)] : List (Int × Int)).map (·.1)).Nodup := by simp
  unfold Wf
  rw [tabOf_at, tabOf_at]
  unfold book
  rw [at_put]
  by_cases h : x = node
  · subst h
    rw [if_pos rfl, dl_self, Int.one_mul]
    cases hx : at? p x with
    | none =>
      show gd (addC [] [(beyond, wd)]) y = 0 + _
      rw [gd_addC _ _ _ one, g1, gd_nil]
    | some e =>
      show gd (addC e.cs [(beyond, wd)]) y = gd e.cs y + _
      rw [gd_addC _ _ _ one, g1]
  · rw [if_neg h, dl_ne h, Int.zero_mul, Int.mul_zero, Int.add_zero]
abbrev RS (p : Prof) : Prop := ∀ x ∈ p, ∀ y ∈ x.2.cs.map (·.1), y ∈ p.map (·.1)
structure LayF (n : Net) (ps : List Nat) (l r : Int) (p q : Prof) : Prop where
  good : GoodP q
  keys : ∀ x, x ∈ q.map (·.1) ↔ x ∈ p.map (·.1) ∨ x = l ∨ x = r ∨ x ∈ innr n ps
  rs : RS q
  W : ∀ x y, Wf (tabOf q) x y = Wf (tabOf p) x y + netW n ps l r x y
theorem lay_facts : ∀ (n : Net) (ps : List Nat) (l r : Int) (p : Prof), Fine n ps l r → GoodP p → RS p → LayF n ps l r p (layN n ps l r p)
  | .wire _ k, ps, l, r, p, hf, hg, hr => by
    have hne := hf.ne
    refine ⟨(hg.book hne).book (Ne.symm hne), fun x => ?_, fun x hx y hy => ?_, fun x y => ?_⟩
    · show x ∈ (book (book p l r (wid k)) r l (wid k)).map (·.1) ↔ _
      rw [book_keys, book_keys]
      simp only [innr, List.not_mem_nil, or_false]
      exact ⟨fun h => h.elim (fun h => h.elim .inl fun h => .inr (.inl h)) fun h => .inr (.inr h), fun h => h.elim (fun h => .inl (.inl h)) fun h => h.elim (fun h => .inl (.inr h)) .inr⟩
    · show y ∈ (book (book p l r (wid k)) r l (wid k)).map (·.1)
      rw [book_keys, book_keys]
      rcases book_rkeys hx hy with ⟨x', hx', hy'⟩ | h
      · rcases book_rkeys hx' hy' with ⟨x'', hx'', hy''⟩ | h
        · exact .inl (.inl (hr x'' hx'' y hy''))
        · exact .inr h
      · exact .inl (.inr h)
    · show Wf (tabOf (book (book p l r (wid k)) r l (wid k))) x y = _
      rw [book_W, book_W]
      show _ = _ + wid k * (dl x l * dl y r + dl x r * dl y l)
      rw [Int.mul_add, Int.add_assoc]
  | .ser a b, ps, l, r, p, hf, hg, hr => by
    have h1 := lay_facts a (psA a ps) l (psM a ps) p hf.ser.1 hg hr
    have h2 := lay_facts b (psB a b ps) (psM a ps) r _ hf.ser.2.1 h1.good h1.rs
    refine ⟨h2.good, fun x => ?_, h2.rs, fun x y => ?_⟩
    · refine (h2.keys x).trans ?_
      rw [h1.keys x]
      simp only [innr, List.mem_append, List.mem_singleton]
      grind
    · refine (h2.W x y).trans ?_
      rw [h1.W x y]
      show _ = _ + (netW a (psA a ps) l (psM a ps) x y + netW b (psB a b ps) (psM a ps) r x y)
      omega
  | .par a b, ps, l, r, p, hf, hg, hr => by
    have h1 := lay_facts a (psA a ps) l r p hf.par.1 hg hr
    have h2 := lay_facts b (psB a b ps) l r _ hf.par.2.1 h1.good h1.rs
    refine ⟨h2.good, fun x => ?_, h2.rs, fun x y => ?_⟩
    · refine (h2.keys x).trans ?_
      rw [h1.keys x]
      simp only [innr, List.mem_append]
      grind
    · refine (h2.W x y).trans ?_
      rw [h1.W x y]
      show _ = _ + (netW a (psA a ps) l r x y + netW b (psB a b ps) l r x y)
      omega
theorem GoodP.nil : GoodP [] := ⟨.nil, fun _ h => (nomatch h), fun _ h => (nomatch h), fun _ h => (nomatch h)⟩
theorem GoodP.tab {p : Prof} (h : GoodP p) (hr : RS p) : Good (p.map (·.1)) (tabOf p) := by
  refine ⟨by rw [tabOf_keys]; exact h.nd, fun x hx => by rw [tabOf_keys] at hx; exact hx, fun x hx => ?_, fun x hx => ?_, fun x hx y hy => ?_⟩
  · obtain ⟨q, hq, rfl⟩ := List.mem_map.mp hx
    exact h.rnd q hq
  · obtain ⟨q, hq, rfl⟩ := List.mem_map.mp hx
    exact h.self q hq
  · obtain ⟨q, hq, rfl⟩ := List.mem_map.mp hx
    rw [tabOf_keys]
    exact hr q hq y hy

/-! places -/
theorem ps_split {la : Nat} {ps : List Nat} (h : 1 + la < ps.length) : ∃ p0 : Nat, ps = p0 :: ((ps.drop 1).take la ++ ps.getD (1 + la) 0 :: ps.drop (2 + la)) ∧ ((ps.drop 1).take la).length = la := by
  obtain ⟨p0, r, rfl⟩ : ∃ p0 r, ps = p0 :: r := by
    cases ps with
    | nil => simp at h
    | cons a r => exact ⟨a, r, rfl⟩
  have hl : la < r.length := by simp at h; omega
  refine ⟨p0, ?_, by simp; omega⟩
  have e1 : (p0 :: r).drop 1 = r := rfl
  have e2 : (p0 :: r).getD (1 + la) 0 = r[la] := by
    rw [Nat.add_comm, List.getD_cons_succ, List.getD_eq_getElem?_getD, List.getElem?_eq_getElem hl]; rfl
  have e3 : (p0 :: r).drop (2 + la) = r.drop (la + 1) := by rw [show 2 + la = (la + 1) + 1 by omega, List.drop_succ_cons]
  rw [e1, e2, e3, ← List.drop_eq_getElem_cons hl, List.take_append_drop]
theorem innr_places : ∀ (n : Net) (ps : List Nat), ps.Nodup → (T n).length ≤ ps.length → (innr n ps).Nodup ∧ ∀ x ∈ innr n ps, ∃ q ∈ ps, x = ((q : Nat) : Int)
  | .wire _ _, ps, _, _ => ⟨.nil, fun _ h => (nomatch h)⟩
  | .ser a b, ps, hn, hl => by
    have hl' : (T a).length + (T b).length + 3 ≤ ps.length := by simp [T] at hl; omega
    obtain ⟨p0, e, hA⟩ := ps_split (la := (T a).length) (ps := ps) (by omega)
    rw [e, List.nodup_cons, List.nodup_append, List.nodup_cons] at hn
    obtain ⟨_, n1, ⟨n2, n3⟩, n4⟩ := hn
    have memA : ∀ x ∈ psA a ps, x ∈ ps := fun x hx => List.mem_of_mem_drop (List.mem_of_mem_take hx)
    have memB : ∀ x ∈ psB a b ps, x ∈ ps.drop (2 + (T a).length) := fun x hx => List.mem_of_mem_take hx
    obtain ⟨a1, a2⟩ := innr_places a (psA a ps) n1 (by rw [hA]; exact Nat.le_refl _)
    obtain ⟨b1, b2⟩ := innr_places b (psB a b ps) (n3.sublist (List.take_sublist _ _)) (by rw [List.length_take, List.length_drop]; omega)
    have hM : ps.getD (1 + (T a).length) 0 ∈ ps := by
      rw [List.getD_eq_getElem?_getD, List.getElem?_eq_getElem (by omega)]; exact List.getElem_mem _
    refine ⟨?_, fun x hx => ?_⟩
    · simp only [innr]
      rw [List.nodup_append, List.nodup_append]
      refine ⟨⟨a1, b1, fun x hx y hy e => ?_⟩, by simp, fun x hx y hy e => ?_⟩
      · obtain ⟨q, hq, rfl⟩ := a2 x hx
        obtain ⟨q', hq', rfl⟩ := b2 y hy
        have : q = q' := Int.ofNat.inj e
        exact n4 q hq q' (.tail _ (memB q' hq')) this
      · rw [List.mem_singleton] at hy
        rw [e, hy] at hx
        rcases List.mem_append.mp hx with hx | hx
        · obtain ⟨q, hq, e'⟩ := a2 _ hx
          exact n4 q hq _ (.head _) (Int.ofNat.inj e').symm
        · obtain ⟨q, hq, e'⟩ := b2 _ hx
          have : ps.getD (1 + (T a).length) 0 = q := Int.ofNat.inj e'
          exact n2 (this ▸ memB q hq)
    · simp only [innr, List.mem_append, List.mem_singleton] at hx
      rcases hx with (hx | hx) | rfl
      · obtain ⟨q, hq, e'⟩ := a2 _ hx
        exact ⟨q, memA q hq, e'⟩
      · obtain ⟨q, hq, e'⟩ := b2 _ hx
        exact ⟨q, List.mem_of_mem_drop (memB q hq), e'⟩
      · exact ⟨_, hM, rfl⟩
  | .par a b, ps, hn, hl => by
    have hl' : (T a).length + (T b).length + 3 ≤ ps.length := by simp [T] at hl; omega
    obtain ⟨p0, e, hA⟩ := ps_split (la := (T a).length) (ps := ps) (by omega)
    rw [e, List.nodup_cons, List.nodup_append, List.nodup_cons] at hn
    obtain ⟨_, n1, ⟨n2, n3⟩, n4⟩ := hn
    have memA : ∀ x ∈ psA a ps, x ∈ ps := fun x hx => List.mem_of_mem_drop (List.mem_of_mem_take hx)
    have memB : ∀ x ∈ psB a b ps, x ∈ ps.drop (2 + (T a).length) := fun x hx => List.mem_of_mem_take hx
    obtain ⟨a1, a2⟩ := innr_places a (psA a ps) n1 (by rw [hA]; exact Nat.le_refl _)
    obtain ⟨b1, b2⟩ := innr_places b (psB a b ps) (n3.sublist (List.take_sublist _ _)) (by rw [List.length_take, List.length_drop]; omega)
    refine ⟨?_, fun x hx => ?_⟩
    · simp only [innr]
      rw [List.nodup_append]
      refine ⟨a1, b1, fun x hx y hy e => ?_⟩
      obtain ⟨q, hq, rfl⟩ := a2 x hx
      obtain ⟨q', hq', rfl⟩ := b2 y hy
      have : q = q' := Int.ofNat.inj e
      exact n4 q hq q' (.tail _ (memB q' hq')) this
    · simp only [innr, List.mem_append] at hx
      rcases hx with hx | hx
      · obtain ⟨q, hq, e'⟩ := a2 _ hx
        exact ⟨q, memA q hq, e'⟩
      · obtain ⟨q, hq, e'⟩ := b2 _ hx
        exact ⟨q, List.mem_of_mem_drop (memB q hq), e'⟩
theorem fine_places {n : Net} {ps : List Nat} (hn : ps.Nodup) (hl : (T n).length ≤ ps.length) : Fine n ps (-1) (-2) := by
  obtain ⟨h1, h2⟩ := innr_places n ps hn hl
  refine List.nodup_cons.mpr ⟨fun h => ?_, List.nodup_cons.mpr ⟨fun h => ?_, h1⟩⟩
  · rcases List.mem_cons.mp h with h | h
    · cases h
    · obtain ⟨q, _, e⟩ := h2 _ h; omega
  · obtain ⟨q, _, e⟩ := h2 _ h; omega
theorem esc_places : ∀ (x : List Nat) (b : Bool) (i : Nat), (b = true → 1 ≤ i) → ((escS b i x).map (·.1)).Nodup ∧ ∀ p ∈ (escS b i x).map (·.1), (if b then i - 1 else i) ≤ p
  | [], false, i, _ => ⟨.nil, fun _ h => (nomatch h)⟩
  | [], true, i, hb => by simp [escS]; omega
  | c :: r, true, i, hb => by
    obtain ⟨h1, h2⟩ := esc_places r false (i + 1) (by simp)
    rw [escS, List.map_cons]
    refine ⟨List.nodup_cons.mpr ⟨fun h => ?_, h1⟩, fun p hp => ?_⟩
    · have := h2 _ h; simp at this; omega
    · rcases List.mem_cons.mp hp with rfl | hp
      · simp
      · have := h2 _ hp; simp at this ⊢; omega
  | c :: r, false, i, hb => by
    rw [escS]
    split
    · obtain ⟨h1, h2⟩ := esc_places r true (i + 1) (by simp)
      exact ⟨h1, fun p hp => by have := h2 p hp; simpa using this⟩
    · obtain ⟨h1, h2⟩ := esc_places r false (i + 1) (by simp)
      rw [List.map_cons]
      refine ⟨List.nodup_cons.mpr ⟨fun h => ?_, h1⟩, fun p hp => ?_⟩
      · have := h2 _ h; simp at this; omega
      · rcases List.mem_cons.mp hp with rfl | hp
        · simp
        · have := h2 _ hp; simp at this ⊢; omega
end Mine
end

section
set_option maxRecDepth 100000
set_option maxHeartbeats 400000
set_option linter.unusedVariables false
open PySem PySem.W PySem.Calls PyProof.Rows
namespace Mine
/-! what holds between the strikes -/
theorem mulOk_i {i : Nat} (hi : i ≤ 4) {a b : Int} (ha : 0 ≤ a) (ha' : a ≤ big i) (hb : 0 ≤ b) (hb' : b ≤ big i) : IntMulOk a b :=
  mulOk_big ha (Int.le_trans ha' (big_le hi)) hb (Int.le_trans hb' (big_le hi))
structure TI (V : List Int) (i : Nat) (tab : Tab) (s t : Int) (rest : List Int) : Prop where
  good : Good V tab
  inv : Inv V (ends (-1) (-2)) (Wf tab) rest
  sym : ∀ p q, Wf tab p q = Wf tab q p
  keys : ∀ x, x ∈ tab.map (·.1) ↔ x = -1 ∨ x = -2 ∨ x ∈ rest
  bd : BdS V i ⟨Wf tab, s, t⟩
  len : tab.length ≤ 10 ∧ ∀ p ∈ tab, p.2.length ≤ 10 * 2 ^ i
theorem len_far (w n : Int) (cs : List (Int × Int)) : (farL w n cs).length ≤ cs.length := by
  unfold farL; rw [List.length_map]; exact List.length_filter_le _ _
theorem len_thr (bs : List (Int × Int)) (near : Int) : (thrL bs near).length ≤ bs.length := by
  unfold thrL thrJ
  split
  · rw [List.length_map]; exact List.length_filter_le _ _
  · exact Nat.zero_le _
theorem TI.val {V : List Int} {i : Nat} {tab : Tab} {s t : Int} {rest : List Int} (h : TI V i tab s t rest) {p : Int × List (Int × Int)} (hp : p ∈ tab) {q : Int × Int} (hq : q ∈ p.2) : 0 ≤ q.2 ∧ q.2 ≤ big i := by
  have e : Wf tab p.1 q.1 = q.2 := by rw [Wf_at (at_of_mem h.good.nd hp), gd_mem (h.good.rnd p hp) hq]
  have hp1 : p.1 ∈ V := h.good.sub _ (List.mem_map_of_mem hp)
  have hq1 : q.1 ∈ V := h.good.sub _ (h.good.rsub p hp _ (List.mem_map_of_mem hq))
  have h1 := h.inv.ok.pos p.1 q.1
  have h2 := sumV_ge (f := Wf tab p.1) (fun q _ => h.inv.ok.pos p.1 q) hq1
  have h3 : sumV V (Wf tab p.1) ≤ big i := h.bd.deg p.1 hp1
  omega
theorem TI.step {V : List Int} (hV : V.Nodup) {i : Nat} {tab : Tab} {s t v : Int} {rest : List Int} (h : TI V i tab s t (v :: rest)) (hi : i ≤ 3) :
    ∃ bs, at? tab v = some bs ∧ TI V (i + 1) (struckT tab v bs) (s * sumC bs) (t * s) rest ∧ (⟨Wf (struckT tab v bs), s * sumC bs, t * s⟩ : SM) = smS V ⟨Wf tab, s, t⟩ v ∧
      tab.length ≤ 100 ∧ (∀ p ∈ tab, p.2.length ≤ 100) ∧ (∀ p ∈ tab, ∀ q ∈ p.2, IntMulOk (sumC bs) q.2) ∧ (∀ p ∈ bs, ∀ q ∈ bs, IntMulOk p.2 q.2) ∧ IntMulOk t s ∧ IntMulOk s (sumC bs) := by
  have hvk : v ∈ tab.map (·.1) := (h.keys v).mpr (.inr (.inr (.head _)))
  obtain ⟨bs, hb⟩ : ∃ bs, at? tab v = some bs := by
    cases e : at? tab v with
    | none => exact absurd hvk (at_none.mp e)
    | some bs => exact ⟨bs, rfl⟩
  have hbm := at_mem hb
  have hW := Wf_struck h.good hV hb h.sym
  have hD : sumC bs = sumV V (Wf tab v) := by
    rw [sumC_V hV (h.good.rnd _ hbm) fun x hx => h.good.sub x (h.good.rsub _ hbm x hx)]
    exact sumV_congr fun q _ => (Wf_at hb q).symm
  have hvV : v ∈ V := h.inv.sub v (.head _)
  have hve : ¬ends (-1) (-2) v := h.inv.inner v (.head _)
  have hdeg := h.inv.ok.deg_pos hve (h.inv.rch v (.head _))
  have hDle : sumV V (Wf tab v) ≤ big i := h.bd.deg v hvV
  have hst : (⟨Wf (struckT tab v bs), s * sumC bs, t * s⟩ : SM) = smS V ⟨Wf tab, s, t⟩ v := by
    rw [hW, hD]; rfl
  have h10 : 10 * 2 ^ i ≤ 80 := by
    have : 2 ^ i ≤ 2 ^ 3 := Nat.pow_le_pow_right (by decide) hi
    omega
  have hs0 : 0 < s := h.bd.s0
  have hs1 : s ≤ big i := h.bd.s1
  have ht0 : 0 < t := h.bd.t0
  have ht1 : t ≤ big i := h.bd.t1
  refine ⟨bs, hb, ⟨h.good.struck hb, by rw [hW]; exact h.inv.step, fun p q => by rw [hW]; exact smW_sym h.sym v p q, fun x => ?_, by rw [hst]; exact h.bd.step hV h.inv.ok hvV hdeg, ?_, ?_⟩, hst, by have := h.len.1; omega, fun p hp => by have := h.len.2 p hp; omega, fun p hp q hq => ?_, fun p hp q hq => ?_, ?_, ?_⟩
  · rw [keys_struck, List.mem_filter, h.keys x, List.mem_cons]
    have hn := (List.nodup_cons.mp h.inv.nd).1
    have e1 : v ≠ -1 := fun e => hve (.inl e)
    have e2 : v ≠ -2 := fun e => hve (.inr e)
    constructor
    · rintro ⟨h1, h2⟩
      have h2 := of_decide_eq_true h2
      grind
    · intro h1
      refine ⟨by grind, decide_eq_true ?_⟩
      rintro rfl
      rcases h1 with h1 | h1 | h1
      · exact e1 h1
      · exact e2 h1
      · exact hn h1
  · unfold struckT
    rw [List.length_map]
    exact Nat.le_trans (List.length_filter_le _ _) h.len.1
  · intro p hp
    obtain ⟨q, hq, rfl⟩ := List.mem_map.mp hp
    have hq' := (List.mem_filter.mp hq).1
    have h1 := addC_length (thrL bs q.1) (farL (sumC bs) v q.2)
    have h2 := len_far (sumC bs) v q.2
    have h3 := len_thr bs q.1
    have h4 := h.len.2 q hq'
    have h5 := h.len.2 _ hbm
    rw [Nat.pow_succ]
    dsimp only at h5 ⊢
    omega
  · have := h.val hp hq
    exact mulOk_i (i := i) (by omega) (by omega) (by omega) this.1 this.2
  · have h1 := h.val hbm hp
    have h2 := h.val hbm hq
    exact mulOk_i (i := i) (by omega) h1.1 h1.2 h2.1 h2.2
  · exact mulOk_i (i := i) (by omega) (by omega) ht1 (by omega) hs1
  · exact mulOk_i (i := i) (by omega) (by omega) hs1 (by omega) (by omega)

/-- the profile of a net, and the start -/
abbrev prof0 (n : Net) (ps : List Nat) : Prof := layN n ps (-1) (-2) []
abbrev keys0 (n : Net) (ps : List Nat) : List Int := (prof0 n ps).map (·.1)
theorem prof_facts {n : Net} {ps : List Nat} (hf : Fine n ps (-1) (-2)) : LayF n ps (-1) (-2) [] (prof0 n ps) :=
  lay_facts n ps (-1) (-2) [] hf .nil fun _ h => (nomatch h)
theorem prof_W {n : Net} {ps : List Nat} (hf : Fine n ps (-1) (-2)) : Wf (tabOf (prof0 n ps)) = netW n ps (-1) (-2) := by
  funext x y
  rw [(prof_facts hf).W x y]
  show Wf [] x y + _ = _
  unfold Wf; rw [at_nil]; simp
theorem prof_keys {n : Net} {ps : List Nat} (hf : Fine n ps (-1) (-2)) (x : Int) : x ∈ keys0 n ps ↔ x = -1 ∨ x = -2 ∨ x ∈ innr n ps := by
  rw [(prof_facts hf).keys x]; simp
theorem prof_len {n : Net} (hn : nw n ≤ 5) (ps : List Nat) : (prof0 n ps).length ≤ 10 ∧ ∀ x ∈ prof0 n ps, x.2.cs.length ≤ 10 := by
  have h := Bnd.lay n ps (-1) (-2) 0 [] ⟨Nat.le_refl _, fun _ h => (nomatch h)⟩
  exact ⟨Nat.le_trans h.1 (by omega), fun x hx => Nat.le_trans (h.2 x hx) (by omega)⟩
theorem perm_of_mem {l l' : List Int} (h : l.Nodup) (h' : l'.Nodup) (hm : ∀ x, x ∈ l ↔ x ∈ l') : l.Perm l' := by
  rw [List.perm_iff_count]
  intro a
  by_cases e : a ∈ l
  · rw [h.count, h'.count, if_pos e, if_pos ((hm a).mp e)]
  · rw [List.count_eq_zero_of_not_mem e, List.count_eq_zero_of_not_mem fun q => e ((hm a).mpr q)]
theorem line_perm {n : Net} {ps : List Nat} (hps : ps.Nodup) (hl : (T n).length ≤ ps.length) {ns : List Int} (hp : ns.Perm ((keys0 n ps).filter (0 ≤ ·))) : ns.Perm (innr n ps) := by
  have hf := fine_places hps hl
  refine hp.trans (perm_of_mem ((prof_facts hf).good.nd.filter _) (innr_places n ps hps hl).1 fun x => ?_)
  rw [List.mem_filter, prof_keys hf]
  constructor
  · rintro ⟨h1 | h1 | h1, h2⟩
    · subst h1; simp at h2
    · subst h1; simp at h2
    · exact h1
  · intro h
    obtain ⟨q, _, rfl⟩ := (innr_places n ps hps hl).2 x h
    exact ⟨.inr (.inr h), by simp⟩
theorem TI.start {n : Net} {ps : List Nat} (hn : nw n ≤ 5) (hf : Fine n ps (-1) (-2)) {ns : List Int} (hp : ns.Perm (innr n ps)) : TI (keys0 n ps) 0 (tabOf (prof0 n ps)) 1 1 ns := by
  have F := prof_facts hf
  have hV : (keys0 n ps).Nodup := F.good.nd
  have hk := prof_keys hf
  have hW := prof_W hf
  refine ⟨F.good.tab F.rs, ?_, fun p q => by rw [hW]; exact netW_sym n ps _ _ p q, fun x => ?_, by rw [hW]; exact BdS.start hV hn hf, ?_, ?_⟩
  · rw [hW]
    exact (netInv hf ((hk _).mpr (.inl rfl)) ((hk _).mpr (.inr (.inl rfl))) fun x hx => (hk x).mpr (.inr (.inr hx))).perm hp.symm
  · rw [tabOf_keys]
    exact (hk x).trans (by rw [hp.mem_iff])
  · unfold tabOf; rw [List.length_map]; exact (prof_len hn ps).1
  · intro p hp
    obtain ⟨q, hq, rfl⟩ := List.mem_map.mp hp
    exact (prof_len hn ps).2 q hq
theorem line_len {n : Net} {ps : List Nat} (hn : nw n ≤ 5) {ns : List Int} (hp : ns.Perm (innr n ps)) : ns.length ≤ 4 := by
  have := innr_len n ps
  rw [hp.length_eq]; omega
theorem TI.fin {n : Net} {ps : List Nat} (hn : nw n ≤ 5) (hf : Fine n ps (-1) (-2)) {ns : List Int} (hp : ns.Perm (innr n ps)) {i : Nat} (hi : i ≤ 4) {tab : Tab} {s t : Int} (h : TI (keys0 n ps) i tab s t [])
    (he : (⟨Wf tab, s, t⟩ : SM) = ns.foldl (smS (keys0 n ps)) ⟨Wf (tabOf (prof0 n ps)), 1, 1⟩) :
    s = pairsN n * t ∧ (tab.Perm [(-1, [(-2, treesN n * t)]), (-2, [(-1, treesN n * t)])]) ∧ IntMulOk (treesN n) t ∧ IntMulOk (pairsN n) t := by
  have F := prof_facts hf
  have hV : (keys0 n ps).Nodup := F.good.nd
  have hk := prof_keys hf
  rw [prof_W hf] at he
  obtain ⟨h1, h2, h3⟩ := struck_any hV hf ((hk _).mpr (.inl rfl)) ((hk _).mpr (.inr (.inl rfl))) (fun x hx => (hk x).mpr (.inr (.inr hx))) hp he
  dsimp only at h1 h2 h3
  have ht0 : 0 < t := h.bd.t0
  have ht1 : t ≤ big i := h.bd.t1
  obtain ⟨⟨a1, a2⟩, a3, a4⟩ := tp_small hn
  refine ⟨h1, ?_, mulOk_small a1 a2, mulOk_small a3 a4⟩
  have hpos := Int.mul_pos (tp_pos n).1 ht0
  have row : ∀ p ∈ tab, ∀ o : Int, (p.1 = -1 ∧ o = -2 ∨ p.1 = -2 ∧ o = -1) → p.2 = [(o, treesN n * t)] := by
    intro p hpt o ho
    have hat := at_of_mem h.good.nd hpt
    have hw : gd p.2 o = treesN n * t := by
      rw [← Wf_at hat o]
      rcases ho with ⟨e1, e2⟩ | ⟨e1, e2⟩
      · rw [e1, e2]; exact h2
      · rw [e1, e2]; exact h3
    have hks : ∀ y ∈ p.2.map (·.1), y = o := by
      intro y hy
      have hy1 := (h.keys y).mp (h.good.rsub p hpt y hy)
      have hy2 : y ≠ p.1 := fun e => h.good.self p hpt (e ▸ hy)
      simp only [List.not_mem_nil, or_false] at hy1
      omega
    have hnd := h.good.rnd p hpt
    match hc : p.2, hw, hks, hnd with
    | [], hw, _, _ => rw [gd_nil] at hw; omega
    | [(k, v)], hw, hks, _ =>
      have : k = o := hks k (.head _)
      subst this
      rw [gd_cons, if_pos rfl] at hw
      dsimp only at hw
      rw [hw]
    | (k, v) :: (k', v') :: r, _, hks, hnd =>
      have e1 : k = o := hks k (.head _)
      have e2 : k' = o := hks k' (.tail _ (.head _))
      exact absurd (e1.trans e2.symm) fun e => (List.nodup_cons.mp hnd).1 (by rw [e]; exact .head _)
  have keyperm : (tab.map (·.1)).Perm [-1, -2] := perm_of_mem h.good.nd (by decide) fun x => by
    rw [h.keys x]; simp
  have e : tab = (tab.map (·.1)).map fun k => (k, [(if k = -1 then -2 else -1, treesN n * t)]) := by
    rw [List.map_map]
    have : tab = tab.map id := by simp
    conv => lhs; rw [this]
    refine List.map_congr_left fun p hpt => ?_
    have hk1 := (h.keys p.1).mp (List.mem_map_of_mem hpt)
    simp only [List.not_mem_nil, or_false] at hk1
    show p = (p.1, [(if p.1 = -1 then -2 else -1, treesN n * t)])
    rw [← row p hpt (if p.1 = -1 then -2 else -1) (by split <;> omega)]
  rw [e]
  exact keyperm.map _
end Mine
end

section
set_option maxRecDepth 100000
set_option maxHeartbeats 400000
set_option linter.unusedVariables false
namespace Mine
/-! the text -/
def ridU (r : Fin 6) : List (List Nat) := [[], [[34], [40], [34]], [[92, 41]], [[34], [43], [41], [34]], [[92, 124]], [[34], [92, 34], [40], [34]]].getD r.val []
/-- the units of a net's text with its riders -/
def TX : Net → List (List Nat)
  | .wire r k => ridU r ++ [[sgn k]]
  | .ser a b => [40] :: TX a ++ [43] :: TX b ++ [[41]]
  | .par a b => [40] :: TX a ++ [124] :: TX b ++ [[41]]
theorem ridU_flat (r : Fin 6) : (ridU r).flatten = ridT r := by revert r; decide
theorem TX_flat : ∀ n : Net, (TX n).flatten = X n
  | .wire r k => by simp [TX, X, ridU_flat]
  | .ser a b => by simp [TX, X, TX_flat a, TX_flat b]
  | .par a b => by simp [TX, X, TX_flat a, TX_flat b]
def unitsX : List (List Nat) := [34] :: [92, 34] :: unitsAll
theorem ridU_all (r : Fin 6) (k : Fin 15) : ∀ u ∈ ridU r ++ [[sgn k]], u ∈ unitsX := by revert r k; decide
theorem TX_all : ∀ (n : Net), ∀ u ∈ TX n, u ∈ unitsX
  | .wire r k => ridU_all r k
  | .ser a b => by
    intro u hu
    simp only [TX, List.cons_append, List.append_assoc, List.mem_cons, List.mem_append, List.not_mem_nil, or_false] at hu
    rcases hu with rfl | h | rfl | h | rfl
    · decide
    · exact TX_all a u h
    · decide
    · exact TX_all b u h
    · decide
  | .par a b => by
    intro u hu
    simp only [TX, List.cons_append, List.append_assoc, List.mem_cons, List.mem_append, List.not_mem_nil, or_false] at hu
    rcases hu with rfl | h | rfl | h | rfl
    · decide
    · exact TX_all a u h
    · decide
    · exact TX_all b u h
    · decide
theorem unitsX_wf : ∀ u ∈ unitsX, WFu u := by
  intro u hu
  rcases List.mem_cons.mp hu with rfl | hu
  · exact .inl ⟨34, by decide, rfl⟩
  · rcases List.mem_cons.mp hu with rfl | hu
    · exact .inr ⟨34, rfl⟩
    · exact unitsAll_wf u hu
/-- units with their places -/
def pl : Nat → List (List Nat) → List (Nat × List Nat)
  | _, [] => []
  | i, u :: us => (i + u.length - 1, u) :: pl (i + u.length) us
theorem pl_append : ∀ (us vs : List (List Nat)) (i : Nat), pl i (us ++ vs) = pl i us ++ pl (i + us.flatten.length) vs
  | [], vs, i => by simp [pl]
  | u :: us, vs, i => by simp [pl, pl_append us vs, Nat.add_assoc]
theorem escS_pl : ∀ (us : List (List Nat)) (i : Nat), (∀ u ∈ us, WFu u) → escS false i us.flatten = pl i us
  | [], _, _ => rfl
  | u :: us, i, h => by
    have hr := fun j => escS_pl us j fun v hv => h v (.tail _ hv)
    rcases h u (.head _) with ⟨c, hc, rfl⟩ | ⟨c, rfl⟩
    · rw [List.flatten_cons]
      show escS false i (c :: us.flatten) = (i + 1 - 1, [c]) :: pl (i + 1) us
      rw [escS, if_neg hc, hr]; rfl
    · rw [List.flatten_cons]
      show escS false i (92 :: c :: us.flatten) = (i + 2 - 1, [92, c]) :: pl (i + 2) us
      rw [escS, if_pos rfl, escS, hr]; rfl
abbrev Qst := Nat × Option Nat × List (List Nat)
/-- what the strip keeps of some units -/
def Keeps (us : List (List Nat)) (tx : List Nat) : Prop := ∀ (x pre post : List Nat), x = pre ++ us.flatten ++ post → ∀ (st : Nat) (acc : List (List Nat)), st ≤ pre.length →
  ∃ st' acc', (pl pre.length us).foldl (qstep x) ((st, none, acc) : Qst) = (st', none, acc') ∧ st' ≤ pre.length + us.flatten.length ∧
    acc'.flatten ++ (x.take (pre.length + us.flatten.length)).drop st' = acc.flatten ++ (x.take pre.length).drop st ++ tx
theorem Keeps.nil : Keeps [] [] := fun x pre post hx st acc h => ⟨st, acc, rfl, h, by simp⟩
theorem Keeps.append {us vs : List (List Nat)} {tx ty : List Nat} (a : Keeps us tx) (b : Keeps vs ty) : Keeps (us ++ vs) (tx ++ ty) := by
  intro x pre post hx st acc h
  obtain ⟨st1, acc1, e1, l1, k1⟩ := a x pre (vs.flatten ++ post) (by rw [hx]; simp) st acc h
  obtain ⟨st2, acc2, e2, l2, k2⟩ := b x (pre ++ us.flatten) post (by rw [hx]; simp) st1 acc1 (by rw [List.length_append]; exact l1)
  refine ⟨st2, acc2, ?_, ?_, ?_⟩
  · rw [pl_append, List.foldl_append, e1]
    rw [List.length_append] at e2
    exact e2
  · rw [List.flatten_append, List.length_append, ← Nat.add_assoc, ← List.length_append]; exact l2
  · rw [List.flatten_append, List.length_append, ← Nat.add_assoc, ← List.length_append, k2, List.length_append, k1, List.append_assoc]
theorem qstep_id {x : List Nat} {st : Qst} {u : Nat × List Nat} (h : u.2 ≠ [34]) : qstep x st u = st := by unfold qstep; rw [if_neg h]
theorem qfold_id {x : List Nat} : ∀ (us : List (List Nat)) (i : Nat) (st : Qst), (∀ u ∈ us, u ≠ [34]) → (pl i us).foldl (qstep x) st = st
  | [], _, _, _ => rfl
  | u :: us, i, st, h => by
    show (pl (i + u.length) us).foldl (qstep x) (qstep x st (i + u.length - 1, u)) = st
    rw [qstep_id (h u (.head _))]
    exact qfold_id us _ st fun v hv => h v (.tail _ hv)
theorem take_pre {pre m post : List Nat} : (pre ++ m ++ post).take pre.length = pre ∧ (pre ++ m ++ post).take (pre.length + m.length) = pre ++ m := by
  constructor
  · rw [List.append_assoc, List.take_append_of_le_length (Nat.le_refl _), List.take_length]
  · rw [← List.length_append, List.take_append_of_le_length (Nat.le_refl _), List.take_length]
theorem Keeps.plain {us : List (List Nat)} (h : ∀ u ∈ us, u ≠ [34]) : Keeps us us.flatten := by
  intro x pre post hx st acc hst
  refine ⟨st, acc, qfold_id us _ _ h, Nat.le_trans hst (Nat.le_add_right _ _), ?_⟩
  obtain ⟨t1, t2⟩ := take_pre (pre := pre) (m := us.flatten) (post := post)
  rw [hx, t1, t2, List.drop_append_of_le_length hst, List.append_assoc]
theorem Keeps.quoted {us : List (List Nat)} (h : ∀ u ∈ us, u ≠ [34]) : Keeps ([34] :: us ++ [[34]]) [] := by
  intro x pre post hx st acc hst
  obtain ⟨t1, t2⟩ := take_pre (pre := pre) (m := ([34] :: us ++ [[34]]).flatten) (post := post)
  have e : (pl pre.length ([34] :: us ++ [[34]])).foldl (qstep x) ((st, none, acc) : Qst) = (pre.length + 1 + us.flatten.length + 1, none, if st ≠ pre.length then acc ++ [(x.take pre.length).drop st] else acc) := by
    rw [List.cons_append]
    show (pl (pre.length + 1) (us ++ [[34]])).foldl (qstep x) (qstep x (st, none, acc) (pre.length + 1 - 1, [34])) = _
    have q1 : qstep x ((st, none, acc) : Qst) (pre.length + 1 - 1, [34]) = (st, some pre.length, acc) := rfl
    rw [q1, pl_append, List.foldl_append, qfold_id us _ _ h]
    rfl
  refine ⟨_, _, e, ?_, ?_⟩
  · simp; omega
  · have hlen : pre.length + ([34] :: us ++ [[34]]).flatten.length = pre.length + 1 + us.flatten.length + 1 := by simp; omega
    rw [hlen]
    have e1 : (x.take (pre.length + 1 + us.flatten.length + 1)).drop (pre.length + 1 + us.flatten.length + 1) = [] := List.drop_of_length_le (by rw [List.length_take]; omega)
    rw [e1, List.append_nil, List.append_nil]
    by_cases hs : st = pre.length
    · rw [if_neg (fun q => q hs), hs, hx, t1]; simp
    · rw [if_pos hs]; simp
theorem keeps_rid (r : Fin 6) (k : Fin 15) : Keeps (ridU r ++ [[sgn k]]) ((rid r).flatten ++ [sgn k]) := by
  have hk : Keeps [[sgn k]] [sgn k] := by
    have := Keeps.plain (us := [[sgn k]]) (by revert k; decide)
    simpa using this
  refine Keeps.append ?_ hk
  match r with
  | 0 => exact Keeps.nil
  | 1 => exact Keeps.quoted (us := [[40]]) (by decide)
  | 2 => exact Keeps.plain (us := [[92, 41]]) (by decide)
  | 3 => exact Keeps.quoted (us := [[43], [41]]) (by decide)
  | 4 => exact Keeps.plain (us := [[92, 124]]) (by decide)
  | 5 => exact Keeps.quoted (us := [[92, 34], [40]]) (by decide)
theorem keeps_X : ∀ n : Net, Keeps (TX n) (T n).flatten
  | .wire r k => by
    have := keeps_rid r k
    have e : (T (.wire r k)).flatten = (rid r).flatten ++ [sgn k] := by simp [T]
    rw [e]; exact this
  | .ser a b => by
    have h := (((Keeps.plain (us := [[40]]) (by decide)).append (keeps_X a)).append (Keeps.plain (us := [[43]]) (by decide))).append (keeps_X b) |>.append (Keeps.plain (us := [[41]]) (by decide))
    have e1 : TX (.ser a b) = [[40]] ++ TX a ++ [[43]] ++ TX b ++ [[41]] := by simp [TX]
    have e2 : (T (.ser a b)).flatten = [[40]].flatten ++ (T a).flatten ++ [[43]].flatten ++ (T b).flatten ++ [[41]].flatten := by simp [T]
    rw [e1, e2]; exact h
  | .par a b => by
    have h := (((Keeps.plain (us := [[40]]) (by decide)).append (keeps_X a)).append (Keeps.plain (us := [[124]]) (by decide))).append (keeps_X b) |>.append (Keeps.plain (us := [[41]]) (by decide))
    have e1 : TX (.par a b) = [[40]] ++ TX a ++ [[124]] ++ TX b ++ [[41]] := by simp [TX]
    have e2 : (T (.par a b)).flatten = [[40]].flatten ++ (T a).flatten ++ [[124]].flatten ++ (T b).flatten ++ [[41]].flatten := by simp [T]
    rw [e1, e2]; exact h
/-- what the strip leaves of a net's text -/
theorem strip_X (n : Net) : stripL (X n) = (T n).flatten := by
  obtain ⟨st, acc, e, l, k⟩ := keeps_X n (X n) [] [] (by simp [TX_flat]) 0 [] (Nat.le_refl _)
  rw [TX_flat] at l k
  simp only [List.length_nil, Nat.zero_add, List.take_length, List.flatten_nil, List.take_zero, List.drop_nil, List.nil_append] at k l e
  have eq : qrun (X n) (escS false 0 (X n)) = (st, none, acc) := by
    unfold qrun
    conv => lhs; rw [show escS false 0 (X n) = pl 0 (TX n) from by rw [← escS_pl (TX n) 0 fun u hu => unitsX_wf u (TX_all n u hu), TX_flat]]
    exact e
  unfold stripL
  by_cases h : 34 ∈ X n
  · rw [if_pos h]
    dsimp only
    rw [eq]
    dsimp only
    rw [← k, List.flatten_append]
    congr 1
    by_cases hs : st < (X n).length
    · rw [if_pos hs]; simp
    · rw [if_neg hs, List.drop_of_length_le (by omega)]; rfl
  · rw [if_neg h]
    have hid := qfold_id (x := X n) (TX n) 0 ((0, none, []) : Qst) fun u hu q => h (by rw [← TX_flat]; exact List.mem_flatten.mpr ⟨u, hu, by rw [q]; exact .head _⟩)
    rw [hid] at e
    have e1 : st = 0 := (Prod.mk.inj e).1.symm
    have e2 : acc = [] := (Prod.mk.inj (Prod.mk.inj e).2).2.symm
    subst e1; subst e2
    simpa using k
theorem check_X (n : Net) : checkL (X n) = true := by
  unfold checkL
  rw [strip_X, prun_map, escS_flat (T n) 0 fun u hu => unitsAll_wf u (T_all n u hu), foldT n 0 (by decide)]
  rfl
theorem X_ascii (n : Net) : ∀ c ∈ X n, c < 128 := by
  intro c hc
  rw [← TX_flat] at hc
  obtain ⟨u, hu, hcu⟩ := List.mem_flatten.mp hc
  have hall : ∀ u ∈ unitsX, ∀ c ∈ u, c < 128 := by decide
  exact hall u (TX_all n u hu) c hcu
theorem T_ascii (n : Net) : ∀ c ∈ (T n).flatten, c < 128 := by
  intro c hc
  obtain ⟨u, hu, hcu⟩ := List.mem_flatten.mp hc
  exact (unitsAll_34 u (T_all n u hu)).2 c hcu
/-- the units of a net's stripped text -/
abbrev unitsN (n : Net) : List (Nat × List Nat) := escS false 0 (T n).flatten
theorem unitsN_snd (n : Net) : (unitsN n).map (·.2) = T n := escS_flat (T n) 0 fun u hu => unitsAll_wf u (T_all n u hu)
theorem unitsN_fst (n : Net) : ((unitsN n).map (·.1)).Nodup ∧ (T n).length ≤ ((unitsN n).map (·.1)).length := by
  refine ⟨(esc_places _ false 0 (by simp)).1, ?_⟩
  rw [← unitsN_snd n, List.length_map, List.length_map]; exact Nat.le_refl _
end Mine
end

section
open PySem PySem.W PySem.Calls PyProof.Rows
set_option maxRecDepth 100000
set_option maxHeartbeats 4000000
namespace Mine
/-- what the law answers -/
def LawP : Prop := ∀ (w : World) (A : Around) (s : Shared) (Q E : Value → Shared → Prop) (S : Addr) (items : Array Value) (ns : List Int), Wd w s.heap → A.depth + 40 < recursionLimit → A.handled = none → A.units + 200 < cLine →
  s.heap.IsList S items → All2 isI items.toList ns → items.size ≤ 1000 → (∀ s', Sub s.heap s'.heap → Rel s s' → Q (.bool true) s') → wpAny (model PR w) A (call (.ref 112) [.ref S]) Q E s
theorem all2_ints {vs : List Value} {ns : List Int} (h : IntsAre vs ns) : All2 isI vs ns := by
  induction h with
  | nil => exact .nil
  | cons n t _ ih => exact .cons ⟨t, rfl⟩ ih
end Mine
end

section
open PySem PySem.W PySem.Calls PyProof.Rows
set_option maxRecDepth 100000
set_option maxHeartbeats 1000000
namespace Mine
section
variable {w : World} {A : Around} {s : Shared} {Q E : Value → Shared → Prop}
theorem code_init {R : Result → Shared → Prop} {name qual : Str} {params : Arguments} {body : List Stmt} {scope : Scope} {dV kV doc pm cdv ct oc : Value} {an od : Option Addr} {osl : Array (Option Value)} {f : Addr} {args : List Value} {binds : List (Str × Value)}
    (W : Wd w s.heap) (ho : (K0 w.params).lookup f = some ⟨oc, od, .func (fnOf name qual params body scope dV kV doc pm an cdv ct), osl⟩) (hcd : codeIn (K0 w.params) cdv qual = true) (hroom : A.depth < recursionLimit)
    (hbind : BindsTo s (fnOf name qual params body scope dV kV doc pm an cdv ct) ⟨args, []⟩ binds) (hloc : ∀ y ∈ binds, scope.names.lookup y.1 = some .local)
    (h : ∀ h₁ L, L = s.heap.objs.size → h₁.Ns L (fun x => binds.reverse.lookup x) → Sub s.heap h₁ →
      wpAny (model PR w) (A.deeper (envOf qual scope L f cdv)) (execs body (envOf qual scope L f cdv))
        (fun fl s' => R (.ok (.ret (match fl with | .ret v => v | _ => .none))) s') (fun _ _ => False) { s with heap := h₁, toks := s.toks + binds.length })
    (hco : scope.isCoroutine = false) (hgen : scope.isGenerator = false) (hk : scope.kind = .function)
    (hcell : ∀ x ∈ scope.names, x.2 ≠ .cell) : codeAny (model PR w) A (.call (.ref f) ⟨args, []⟩) R s := by
  refine codeAny_call_def (fd := fnOf name qual params body scope dV kV doc pm an cdv ct) (body := body) hroom (W.X _ _ ho) rfl W.nolimit (codeRec_of W.X hcd) rfl hbind hcell hloc (fun h₁ hns hk₁ => ?_) hco hgen hk
  exact wpAny_mono (h h₁ _ rfl hns hk₁) (fun _ _ x => x) (fun _ _ x => x.elim)
theorem nmN {M : Model} {env : Env} {m : Str → Option Value} {x : Str} {v : Value} {pos : Pos} {s : Shared} {Q E : Value → Shared → Prop} (F : s.heap.Ns env.locals m) (hv : m x = some v) (h : Q v s)
    (hk : env.scope.kind = .function := by rfl) (hl : env.kindOf x = some .local := by rfl) (hd : (x == ("__debug__" : Str)) = false := by decide) :
    wpAny M A (eval (.Name x pos) env) Q E s := wpAny_Name (wpAny_loadName_local hk hl F hv h) hd
theorem tupleComp_ok (W : Wd w s.heap) (hd : A.depth + 2 < recursionLimit) (T : Addr)
    (h : ∀ s' x dx tk, Sub s.heap s'.heap → Rel s s' → s.heap.get? x = none → s.heap.get? dx = none → s'.heap.get? x = some (instObj 38 dx) → s'.heap.get? dx = some (dictOf [⟨PyData.keyHash w.params (Str.ofString "comp_select_list"), .str (Str.ofString "comp_select_list") tk, .ref T⟩] 1) → Q (.ref x) s') :
    wpAny (model PR w) A (call (.ref 38) [.ref T]) Q E s := by
  have X := W.X
  have hm : makesIn (K0 w.params) 38 = true := by k_is
  have hi : findIn (K0 w.params) (.ref 38) "__init__" = some (some (.ref 28)) := by k_is
  have hf : typeIn (K0 w.params) (.ref 28) = some (.type "function") := by k_is
  obtain ⟨hp, gn, dr, tk, os⟩ := s
  refine wpAny_call (make_core (makes_of X hm) (looks_findIn X hi) (fun self => bind_fn X self hf) (.inl rfl) ?_)
  generalize hh1 : (hp.push emptyDict).push (instObj 38 hp.objs.size) = h1
  have hs1 : Sub hp h1 := by rw [← hh1]; exact (Sub.push _ _).trans (Sub.push _ _)
  have W1 : Wd w h1 := W.keeps hs1
  have hx1 : h1.get? (hp.objs.size + 1) = some (instObj 38 hp.objs.size) := by
    rw [← hh1]
    have := Heap.get?_push_size (hp.push emptyDict) (o := instObj 38 hp.objs.size) rfl
    rwa [Heap.size_push] at this
  have hdx1 : h1.get? hp.objs.size = some (dictOf [] 0) := by
    rw [← hh1]
    exact Heap.get?_push_of_some _ (Heap.get?_push_size hp (o := emptyDict) rfl)
  have hnone := get_size hp
  refine' code_init (s := ⟨h1, gn, dr, tk, os⟩) W1 ?k6 ?k7 (by rw [depth_under_make]; omega) (binds := [(Str.ofString "self", .ref (hp.objs.size + 1)), (Str.ofString "comp_select_list", .ref T)]) ?k9 ?kB ?_ ?c2 ?c3 ?c4 ?c5
  (case k6 => k_is)
  (case k7 => k_is)
  (case k9 => exact BindsTo.of_eq rfl)
  (case kB => exact locs rfl)
  (case c2 => exact rfl)
  (case c3 => exact rfl)
  (case c4 => exact rfl)
  (case c5 => decide)
  intro h2 L hL hns hs2
  have hL' : L = h1.objs.size := hL
  have hdx2 := hs2 _ _ hdx1
  have hx2 := hs2 _ _ hx1
  have hkeep : ∀ b o, (hideAll h1 [hp.objs.size]).get? b = some o → h2.get? b = some o := fun b o e => hs2 _ _ (of_hideAll _ e)
  have F : Fr (hideAll h1 [hp.objs.size]) L h2 _ := ⟨hns, hkeep, by rw [hideAll_size, hL']; exact Nat.le_refl _⟩
  have hLd : hp.objs.size ≠ L := fun e => by
    have := Heap.lt_size hdx1
    rw [← hL', ← e] at this; exact Nat.lt_irrefl _ this
  have N : News (hideAll h1 [hp.objs.size]) L h2 [(hp.objs.size, dictOf [] 0)] := fun p hp' => by
    rw [List.mem_singleton.mp hp']; exact ⟨hdx2, hLd, hideAll_none _ (.head _)⟩
  have X2 : (K0 w.params).In (hideAll h1 [hp.objs.size]) := fun b o e => hideAll_get _ (hs1 _ _ (X _ _ e)) fun hb => by
    have e' : hp.get? b = some o := X _ _ e
    rw [List.mem_singleton.mp hb, hnone] at e'; cases e'
  refine wpAny_execs_cons (plainObj_wpAny_Assign_Attribute (nmN (s := { heap := h2, gens := gn, drawn := dr, toks := _, os := os }) hns rfl (nmN (s := { heap := h2, gens := gn, drawn := dr, toks := _, os := os }) hns rfl ?_)))
  refine' set_dict (s := { heap := h2, gens := gn, drawn := dr, toks := _, os := os }) F X2 N (C := 38) (ox := instObj 38 hp.objs.size) ⟨hx2, rfl, rfl, hdx2⟩ rfl ?s1 ?s2 ?s3 ?s4 ?s5 ?s6 ?s7 ?s8 ?_
  (case s1 => k_is)
  (case s2 => k_is)
  (case s3 => k_is)
  (case s4 => k_is)
  (case s5 => rfl)
  (case s6 => rfl)
  (case s7 => exact .head (fun _ h => (nomatch h)))
  (case s8 => exact Nat.le_of_ble_eq_true rfl)
  intro h3 F3 N3
  refine wpAny_execs_nil ⟨rfl, ?_⟩
  refine h _ _ hp.objs.size _ (fun b o e => F3.keep _ _ (hideAll_get _ (hs1 _ _ e) fun hb => by rw [List.mem_singleton.mp hb, hnone] at e; cases e)) ⟨id, rfl⟩ (none_of_ge (h := hp) (Nat.le_succ _)) hnone (F3.keep _ _ (hideAll_get _ hx1 fun hb => ?_)) (N3 _ (.head _)).1
  exact absurd (List.mem_singleton.mp hb) (Nat.succ_ne_self _)
end
end Mine
end

section
open PySem PySem.W PySem.Calls PyProof.Rows
set_option maxRecDepth 100000
set_option maxHeartbeats 1000000
namespace Mine
section
variable {w : World} {A : Around} {env : Env} {it d : Addr} {g₀ g : Heap} {E : Value → Shared → Prop} {s : Shared} {led : Led} {m : Str → Option Value}
/-- a tuple's items, each to a name -/
theorem Source.tuple {l : Addr} {items : Array Value} {xv : Str} {pv : Pos} (hh : A.handled = none) (hl : g₀.IsTuple l items) (hk : env.scope.kind = .function) (hxv : env.kindOf xv = some .local) :
    Source w A env (.Name xv pv) it g₀ items.size (fun i il => ∃ o : Obj, il = [(it, o)] ∧ o.cls = .type "tuple_iterator" ∧ o.data = .fields #[.ref l, .int i 0])
      (fun i _ m m' => ∃ v, items[i]? = some v ∧ m' = fun y => if y = xv then some v else m y) where
  item := by
    rintro i il g led s m Q E K hlt ⟨o, rfl, hc, hdt⟩ hg F hK h
    have he : s.heap.IsTupleIter it l i := ⟨o, F.here, hc, hdt⟩
    have hm : s.heap.IsTuple l items := IsTuple.sub hl (fun _ _ e => F.keep _ _ (hg _ _ e))
    obtain ⟨v, hx⟩ : ∃ v, items[i]? = some v := ⟨items[i], by simp [hlt]⟩
    refine wpAny_pyNext_tuple_item he hm hx fun h₁ he₁ hs₁ => hK _ _ ?_
    obtain ⟨o₁, ho₁, hc₁, hd₁⟩ := he₁
    have F₁ := F.upd hs₁ ho₁
    refine wpAny_of_eq (rfl : letOwnedTupleGo (.Name xv pv) (.ref it) v = pure ()) ?_
    exact storeT (s := { s with heap := h₁ }) F₁ hk hxv fun h₂ tk₂ F₂ => h h₂ tk₂ [(it, o₁)] _ g (fun _ _ e => e) ⟨o₁, rfl, hc₁, hd₁⟩ F₂ ⟨v, hx, rfl⟩
  done := by
    rintro il g led s m E K ⟨o, rfl, hc, hdt⟩ hg F h
    have he : s.heap.IsTupleIter it l items.size := ⟨o, F.here, hc, hdt⟩
    have hm : s.heap.IsTuple l items := IsTuple.sub hl (fun _ _ e => F.keep _ _ (hg _ _ e))
    exact wpAny_pyNext_tuple_end hh he hm (by simp) fun h' hx => h h' s.toks (F.out hx)
/-- list(d.values()) -/
theorem list_values {kvs : List (Int × Value)} {r : Addr} {Q : Value → Shared → Prop} (hh : A.handled = none) (hv : s.heap.IsValuesView r d) (hd : s.heap.DictOf (intKind PR w) d kvs) (hn : kvs.length ≤ 1000)
    (h : ∀ h' tk c, Sub s.heap h' → h'.get? s.heap.objs.size = some (lstObj (kvs.map (·.2)).toArray c) → Q (.ref s.heap.objs.size) { s with heap := h', toks := tk }) :
    wpAny (model PR w) A (call (.type "list") [.ref r]) Q E s := by
  obtain ⟨ep, hat⟩ := hd.dictAt
  refine kdl_call (kdl_values (knd := intKind PR w) (kvs := kvs) (ep := ep)) hh ⟨hv, hat⟩ (by rw [sizeLine_eq]; omega) fun h' tk acc c hk hl hi => ?_
  have e : acc = (kvs.map (·.2)).toArray := by
    have := kdl_vals_eq (kvs := kvs) acc.toList (by rw [Array.length_toList]; exact hi.1) fun j v e => hi.2 j v (by rw [← Array.getElem?_toList]; exact e)
    rw [← this]
  rw [e] at hl
  exact h h' tk c hk hl
/-- two lists of ints that are alike -/
theorem ne_same {a b : Addr} {xs ys : Array Value} {na nb : Nat} {ns : List Int} {Q : Value → Shared → Prop} (ha : s.heap.get? a = some (lstObj xs na)) (hb : s.heap.get? b = some (lstObj ys nb)) (hx : All2 isI xs.toList ns) (hy : All2 isI ys.toList ns) (hu : A.units + 64 < cLine)
    (h : Q (.bool false) s) : wpAny (model PR w) A (compareOp .NotEq (.ref a) (.ref b)) Q E s := by
  have conv : ∀ {vs : List Value} {ms : List Int}, All2 isI vs ms → IntsAre vs ms := by
    intro vs ms hv
    induction hv with
    | nil => exact .nil
    | cons x _ ih => obtain ⟨t, rfl⟩ := x; exact .cons _ t ih
  refine ne_intsK (vs := xs.toList) (us := ys.toList) (ns := ns) (ms := ns) ⟨_, ha, rfl, _, rfl⟩ (conv hx) ⟨_, hb, rfl, _, rfl⟩ (conv hy) hu ?_
  simpa using h
theorem pairs_any {prog : Program} {w' : World} {es : List DictEntry} {kvs : List (Int × Value)} (h : Pairs (intKind PR w) es kvs) : Pairs (intKind prog w') es kvs := by
  induction h with
  | nil => exact .nil
  | cons h1 h2 _ ih => exact .cons h1 h2 ih
theorem dictOf_any {prog : Program} {w' : World} {h : Heap} {a : Addr} {kvs : List (Int × Value)} (x : h.DictOf (intKind PR w) a kvs) : h.DictOf (intKind prog w') a kvs := by
  obtain ⟨o, es, ep, ho, hx, hd, hk, hp, hn⟩ := x
  exact ⟨o, es, ep, ho, hx, hd, fun e he => hk e he, pairs_any hp, hn⟩
/-- dicts of one int by an int: alike -/
theorem eqAt_DI {a b : Addr} {k v : Int} (h1 : DI w s.heap a [(k, v)]) (h2 : DI w s.heap b [(k, v)]) (hu : A.units < cLine) : SeqAt.EqAt A s (.ref a) (.ref b) true := by
  by_cases hab : a = b
  · subst hab; exact SeqAt.EqAt.same _
  · obtain ⟨l1, ka, d1, r1⟩ := h1
    obtain ⟨l2, kb, d2, r2⟩ := h2
    obtain ⟨va, rfl, t1, rfl⟩ : ∃ va, ka = [(k, va)] ∧ ∃ t1, va = .int v t1 := by
      cases r1 with
      | cons x r =>
        cases r with
        | nil =>
          rename_i p
          obtain ⟨x1, t, x2⟩ := x
          obtain ⟨pk, pv⟩ := p
          dsimp only at x1 x2
          exact ⟨pv, by rw [x1], t, x2⟩
    obtain ⟨vb, rfl, t2, rfl⟩ : ∃ va, kb = [(k, va)] ∧ ∃ t1, va = .int v t1 := by
      cases r2 with
      | cons x r =>
        cases r with
        | nil =>
          rename_i p
          obtain ⟨x1, t, x2⟩ := x
          obtain ⟨pk, pv⟩ := p
          dsimp only at x1 x2
          exact ⟨pv, by rw [x1], t, x2⟩
    refine SeqAt.EqAt.of_refs hab fun prog w' E Q hq => ?_
    have e1 : s.heap.DictOf (intKind prog w') a [(k, .int v t1)] := dictOf_any d1
    have e2 : s.heap.DictOf (intKind prog w') b [(k, .int v t2)] := dictOf_any d2
    have hit : KeqHits A.in1 s [(k, .int v t2)] [(k, .int v t1)] ((v == v) && true) := .hit (y := .int v t2) (by simp [valueAt]) (SeqAt.EqAt.int_int v t1 v t2) .nil
    have hit' : KeqHits A.in1 s [(k, .int v t2)] [(k, .int v t1)] true := by simpa using hit
    exact keq_eq (prog := prog) (w := w') (low_ne l1) (low_ne l2) e1 e2 hu (fun _ => hit') hq
theorem keqHits_all {kb : List (Int × Value)} : ∀ (ka : List (Int × Value)), (∀ p ∈ ka, ∃ y, valueAt kb p.1 = some y ∧ SeqAt.EqAt A s p.2 y true) → KeqHits A s kb ka true
  | [], _ => .nil
  | (k, v) :: r, h => by
    obtain ⟨y, h1, h2⟩ := h (k, v) (.head _)
    have := KeqHits.hit h1 h2 (keqHits_all r fun p hp => h p (.tail _ hp))
    simpa using this
/-- two tables of the two ends that are alike -/
theorem ne_tables {a b d1 d2 : Addr} {ka : List (Int × Value)} {tab : Tab} {V : Int} {Q : Value → Shared → Prop} (la : sysModules < a) (lb : sysModules < b) (da : s.heap.DictOf (intKind PR w) a ka) (hk : Kvs (TblV w s.heap) ka tab)
    (ht : tab.Perm [(-1, [(-2, V)]), (-2, [(-1, V)])]) (db : s.heap.DictOf (intKind PR w) b [(-1, .ref d1), (-2, .ref d2)]) (h1 : DI w s.heap d1 [(-2, V)]) (h2 : DI w s.heap d2 [(-1, V)]) (hu : A.units + 10 < cLine) (h : Q (.bool false) s) :
    wpAny (model PR w) A (compareOp .NotEq (.ref a) (.ref b)) Q E s := by
  have hl : ka.length = 2 := by rw [hk.length, ht.length_eq]; rfl
  refine keq_ne (r := true) (low_ne la) (low_ne lb) da db (by omega) (fun _ => keqHits_all ka fun p hp => ?_) ?_
  · obtain ⟨i, hi⟩ := List.getElem?_of_mem hp
    obtain ⟨q, hq, e1, d, e2, hd⟩ := hk.get hi
    have hqm := ht.mem_iff.mp (List.mem_of_getElem? hq)
    have hu' : A.in1.units < cLine := by show A.units + 1 < cLine; omega
    simp only [List.mem_cons, List.not_mem_nil, or_false] at hqm
    rcases hqm with rfl | rfl
    · dsimp only at e1 hd
      refine ⟨.ref d1, by rw [e1]; rfl, ?_⟩
      rw [e2]; exact eqAt_DI hd h1 hu'
    · dsimp only at e1 hd
      refine ⟨.ref d2, by rw [e1]; rfl, ?_⟩
      rw [e2]; exact eqAt_DI hd h2 hu'
  · rw [hl]; exact h
end
section
variable {w : World} {A : Around} {E : Value → Shared → Prop} {s : Shared} {env : Env} {g : Heap} {L : Addr} {led : Led} {m : Str → Option Value}
theorem dict2 {k1 v1 k2 v2 : Expr} {pos : Pos} {Q : Value → Shared → Prop} (F : Fx g L led s.heap m)
    (h : Fx g L ((s.heap.objs.size, dictObj0) :: led) (s.heap.push dictObj0) m → wpAny (model PR w) A (eval k1 env) (fun kv1 s₁ => wpAny (model PR w) A (eval v1 env) (fun vv1 s₂ => wpAny (model PR w) A (eval k2 env) (fun kv2 s₃ => wpAny (model PR w) A (eval v2 env) (fun vv2 s₄ =>
      ∃ i t j u g' m', i ≠ j ∧ kv1 = .int i t ∧ kv2 = .int j u ∧ Fx g' L ((s.heap.objs.size, dictObj0) :: led) s₄.heap m' ∧
      (∀ h' o', Fx g' L ((s.heap.objs.size, o') :: led) h' m' → o'.IsDictOf (intKind PR w) [(i, vv1), (j, vv2)] → ∀ tk, Q (.ref s.heap.objs.size) { s₄ with heap := h', toks := tk })) E s₃) E s₂) E s₁) E { s with heap := s.heap.push dictObj0 }) :
    wpAny (model PR w) A (eval (.Dict [some k1, some k2] [v1, v2] pos) env) Q E s := by
  refine wpAny_Dict_pairs (knd := intKind PR w) (pairs := [(eval k1 env, do let x ← eval v1 env; standAt pos; pure x), (eval k2 env, do let x ← eval v2 env; standAt pos; pure x)]) rfl (by simp) (by simp) ?_
  refine evalPairs_cons (wpAny_mono (h F.push) (fun kv s₁ h₁ => wpAny_bind (wpAny_mono h₁ (fun vv s₂ h₂ => wpAny_bind (wpAny_standAt (wpAny_pure (evalPairs_cons (wpAny_mono h₂ (fun kv2 s₃ h₃ => wpAny_bind (wpAny_mono h₃ (fun vv2 s₄ h₄ => wpAny_bind (wpAny_standAt (wpAny_pure (evalPairs_nil ?_)))) fun _ _ x => x)) fun _ _ x => x))))) fun _ _ x => x)) fun _ _ x => x)
  obtain ⟨i, t, j, u, g', m', hij, rfl, rfl, F', h'⟩ := h₄
  have isK : ∀ (k : Int) (t : Tok), (intKind PR w).is k (.int k t) = true := fun k t => by show Value.isInt k (.int k t) = true; simp [Value.isInt]
  refine ⟨[(i, vv), (j, vv2)], ⟨isK i t, rfl, isK j u, rfl, trivial⟩, Heap.dictOf_iff.mpr ⟨_, F'.here, empty_dict⟩, fun hh hd hs => ?_⟩
  obtain ⟨o', ho', hdo⟩ := Heap.dictOf_iff.mp hd
  exact h' hh o' (F'.upd hs ho') (by simpa [merged, stored, hij] using hdo) _
end
end Mine
end

section
open PySem PySem.W PySem.Calls PyProof.Rows
set_option maxRecDepth 100000
set_option maxHeartbeats 8000000
namespace Mine
local macro_rules | `(tactic| walk_at "my_enter") => `(tactic| (
  (case k6 => k_is); (case k7 => k_is); (case k9 => exact BindsTo.of_eq rfl); (case kB => exact locs rfl); (case c2 => exact rfl); (case c3 => exact rfl); (case c4 => exact rfl); (case c5 => decide)))
theorem cut {M : Model} {A : Around} {α : Type} {t : Sem α} {Q : α → Shared → Prop} {E : Value → Shared → Prop} {s s0 : Shared} {g : Heap} {L : Addr} {led : Led} {m : Str → Option Value} (F : Fx g L led s.heap m) (hr : Rel s0 s)
    (h : ∀ s', Rel s0 s' → Fx g L led s'.heap m → wpAny M A t Q E s') : wpAny M A t Q E s := h s hr F
theorem Fx.all {g h : Heap} {L : Addr} {led : Led} {m : Str → Option Value} (F : Fx g L led h m) : ∃ g', Fx g' L [] h m ∧ Sub g g' ∧ ∀ b o, h.get? b = some o → b ≠ L → g'.get? b = some o := by
  obtain ⟨g', F', hs, hg⟩ := F.anew (List.nil_sublist _)
  exact ⟨g', F', hs, fun b o e hb => hg b o e hb fun p hp => (nomatch hp)⟩
theorem cutA {A : Around} {env : Env} {M : Model} {α : Type} {t : Sem α} {Q : α → Shared → Prop} {E : Value → Shared → Prop} {s : Shared} (h : ∀ A' : Around, A'.depth = A.depth + 1 → A'.handled = A.handled → A'.units = A.units + 3 → wpAny M A' t Q E s) : wpAny M (A.deeper env) t Q E s := h _ rfl rfl rfl
theorem tupR {M : Model} {A : Around} {env : Env} {elts : List Expr} {k : Nat} {pos : Pos} {Q E : Value → Shared → Prop} {s : Shared}
    (h : wpAny M A (spliced (backTo pos (starEach elts env))) (fun vs s₁ => vs.length ≤ 100 ∧ ∀ s₂ T, Rel s₁ s₂ → Sub s₁.heap s₂.heap → s₁.heap.get? T = none → s₂.heap.IsTuple T vs.toArray → Q (.ref T) s₂) E s) : wpAny M A (eval (.Tuple elts k pos) env) Q E s :=
  wpAny_Tuple (wpAny_mono h (fun vs s₁ x => ⟨Nat.le_trans x.1 (by rw [sizeLine_eq]; omega), x.2 _ _ ⟨id, rfl⟩ (Sub.push _ _) (get_size _) ⟨_, Heap.get?_push_size _ rfl, rfl, 0, rfl⟩⟩) fun _ _ e => e)
theorem IsTuple.fresh {h h' : Heap} {T : Addr} {xs : Array Value} (x : h'.IsTuple T xs) (n : h.get? T = none) : (freshOf h h').IsTuple T xs := let ⟨o, e, r⟩ := x; ⟨o, freshOf_get e n, r⟩
theorem TI.turn {V : List Int} (hV : V.Nodup) {ns : List Int} {i : Nat} {z : Int} (hz : ns[i]? = some z) {tab : Tab} {s t : Int} {r : SM} (h : TI V i tab s t (ns.drop i)) (hi : i ≤ 3) (he : (ns.drop i).foldl (smS V) ⟨Wf tab, s, t⟩ = r) :
    ∃ bs, at? tab z = some bs ∧ TI V (i + 1) (struckT tab z bs) (s * sumC bs) (t * s) (ns.drop (i + 1)) ∧ (ns.drop (i + 1)).foldl (smS V) ⟨Wf (struckT tab z bs), s * sumC bs, t * s⟩ = r ∧
      tab.length ≤ 100 ∧ (∀ p ∈ tab, p.2.length ≤ 100) ∧ (∀ p ∈ tab, ∀ q ∈ p.2, IntMulOk (sumC bs) q.2) ∧ (∀ p ∈ bs, ∀ q ∈ bs, IntMulOk p.2 q.2) ∧ IntMulOk t s ∧ IntMulOk s (sumC bs) := by
  have hd : ns.drop i = z :: ns.drop (i + 1) := by
    obtain ⟨h1, h2⟩ := List.getElem?_eq_some_iff.mp hz
    rw [List.drop_eq_getElem_cons h1, h2]
  rw [hd] at h he
  obtain ⟨bs, h1, h2, h3, h4⟩ := h.step hV hi
  refine ⟨bs, h1, h2, ?_, h4⟩
  rw [h3]; exact he
/-- between the strikes -/
inductive LoopU (w : World) (V : List Int) (a0 : SM) (g₈ : Heap) (P : Addr) (n : Net) (ns : List Int) (il : Led) (i : Nat) (m : Str → Option Value) (g : Heap) (led : Led) : Prop
  | mk (e : led = il) (hs : Sub g₈ g) (m1 : m (Str.ofString "profile") = some (.ref P)) (m2 : ∃ t, m (Str.ofString "trees") = some (.int (treesN n) t)) (m3 : ∃ t, m (Str.ofString "pairs") = some (.int (pairsN n) t))
    (T : Addr) (kv : List (Int × Value)) (tab : Tab) (sc scs : Int) (t1 t2 : Tok) (m4 : m (Str.ofString "table") = some (.ref T)) (m5 : m (Str.ofString "scale") = some (.int sc t1)) (m6 : m (Str.ofString "scales") = some (.int scs t2))
    (lo : sysModules < T) (hd : g.DictOf (intKind PR w) T kv) (hk : Kvs (TblV w g) kv tab) (ti : TI V i tab sc scs (ns.drop i)) (hf : (ns.drop i).foldl (smS V) ⟨Wf tab, sc, scs⟩ = ns.foldl (smS V) a0) : LoopU w V a0 g₈ P n ns il i m g led
theorem LoopU.mono {w : World} {V : List Int} {a0 : SM} {g₈ : Heap} {P : Addr} {n : Net} {ns : List Int} {il : Led} {i : Nat} {m : Str → Option Value} {g g' : Heap} {led : Led} (hs : Sub g g') (h : LoopU w V a0 g₈ P n ns il i m g led) : LoopU w V a0 g₈ P n ns il i m g' led := by
  obtain ⟨h1, h2, h3, h4, h5, T, kv, tab, sc, scs, t1, t2, k1, k2, k3, k4, k5, k6, k7, k8⟩ := h
  exact ⟨h1, h2.trans hs, h3, h4, h5, T, kv, tab, sc, scs, t1, t2, k1, k2, k3, k4, k5.at fun o e => hs _ _ e, k6.mono fun a b x => ⟨x.1, x.2.sub hs⟩, k7, k8⟩
section
variable {w : World} {A : Around} {E : Value → Shared → Prop} {s : Shared} {env : Env} {g : Heap} {L : Addr} {led : Led} {m : Str → Option Value}
theorem dict1L {ke ve : Expr} {pos : Pos} {Q : Value → Shared → Prop} (F : Fx g L led s.heap m) (W : Wd w g)
    (h : sysModules < s.heap.objs.size → Fx g L ((s.heap.objs.size, dictObj0) :: led) (s.heap.push dictObj0) m → wpAny (model PR w) A (eval ke env) (fun kv s₁ => wpAny (model PR w) A (eval ve env) (fun vv s₂ => ∃ k t m', kv = .int k t ∧ Fx g L ((s.heap.objs.size, dictObj0) :: led) s₂.heap m' ∧
      (∀ h' o', Fx g L ((s.heap.objs.size, o') :: led) h' m' → o'.IsDictOf (intKind PR w) [(k, vv)] → Q (.ref s.heap.objs.size) { s₂ with heap := h', toks := s₂.toks + 1 })) E s₁) E { s with heap := s.heap.push dictObj0 }) :
    wpAny (model PR w) A (eval (.Dict [some ke] [ve] pos) env) Q E s := dict1 F (h (modules_low (W.keeps F.toSub).nolimit))
theorem di_one {d : Addr} {o : Obj} {k v : Int} {t : Tok} {h : Heap} (lo : sysModules < d) (hg : h.get? d = some o) (ho : o.IsDictOf (intKind PR w) [(k, .int v t)]) : DI w h d [(k, v)] :=
  ⟨lo, _, Heap.dictOf_iff.mpr ⟨o, hg, ho⟩, .cons ⟨rfl, _, rfl⟩ .nil⟩
theorem dictN1 {a v : Int} {t : Tok} {x : Str} {kk : Nat} {p1 p2 p3 pos : Pos} {Q : Value → Shared → Prop} (F : Fx g env.locals led s.heap m) (W : Wd w g) (hx : m x = some (.int v t))
    (h : ∀ s' d g', Rel s s' → Sub g g' → Fx g' env.locals led s'.heap m → DI w g' d [(-a, v)] → Q (.ref d) s')
    (hk : env.scope.kind = .function := by rfl) (hl : env.kindOf x = some .local := by rfl) (hd : (x == ("__debug__" : Str)) = false := by decide) :
    wpAny (model PR w) A (eval (.Dict [some (.UnaryOp .USub (.Constant (.int a) kk p1) p2)] [.Name x p3] pos) env) Q E s := by
  refine dict1L F W fun low F => wpAny_UnaryOp (wpAny_Constant_int (neg_int (nm (s := { s with heap := _, toks := _ }) F hx ⟨-a, _, _, rfl, F, fun h' o' F ho => ?_⟩ hk hl hd)))
  obtain ⟨g', F, hg, ho'⟩ := F.still
  exact h _ _ g' ⟨id, rfl⟩ hg F (di_one low ho' ho)
theorem dictTwo {v : Int} {t : Tok} {x : Str} {k1 k2 k3 k4 : Nat} {p1 p2 p3 p4 p5 p6 p7 p8 p9 p10 p11 p12 pos : Pos} {Q : Value → Shared → Prop} (F : Fx g env.locals led s.heap m) (W : Wd w g) (hx : m x = some (.int v t))
    (h : ∀ s' b d1 d2 o g', Rel s s' → sysModules < b → Sub g g' → Fx g' env.locals ((b, o) :: led) s'.heap m → o.IsDictOf (intKind PR w) [(-1, .ref d1), (-2, .ref d2)] → DI w g' d1 [(-2, v)] → DI w g' d2 [(-1, v)] → Q (.ref b) s')
    (hk : env.scope.kind = .function := by rfl) (hl : env.kindOf x = some .local := by rfl) (hd : (x == ("__debug__" : Str)) = false := by decide) :
    wpAny (model PR w) A (eval (.Dict [some (.UnaryOp .USub (.Constant (.int 1) k1 p1) p2), some (.UnaryOp .USub (.Constant (.int 2) k2 p3) p4)]
      [.Dict [some (.UnaryOp .USub (.Constant (.int 2) k3 p5) p6)] [.Name x p7] p8, .Dict [some (.UnaryOp .USub (.Constant (.int 1) k4 p9) p10)] [.Name x p11] p12] pos) env) Q E s := by
  have low : sysModules < s.heap.objs.size := modules_low (W.keeps F.toSub).nolimit
  refine dict2 F fun F => wpAny_UnaryOp (wpAny_Constant_int (neg_int ?_))
  refine cut (s0 := s) F ⟨id, rfl⟩ fun s₁ r₁ F => ?_
  refine dictN1 (s := s₁) F W hx (fun s₂ d1 g₂ r₂ hg₂ F hd1 => wpAny_UnaryOp (wpAny_Constant_int (neg_int ?_))) hk hl hd
  refine cut (s0 := s) F ⟨fun x => r₂.gens (r₁.gens x), r₂.os.trans r₁.os⟩ fun s₃ r₃ F => ?_
  refine dictN1 (s := s₃) F (W.keeps hg₂) hx (fun s₄ d2 g₄ r₄ hg₄ F hd2 => ?_) hk hl hd
  refine ⟨-1, _, -2, _, g₄, _, by decide, rfl, rfl, F, fun h' o' F ho tk => ?_⟩
  exact h _ _ d1 d2 o' g₄ ⟨fun x => r₄.gens (r₃.gens x), r₄.os.trans r₃.os⟩ low (hg₂.trans hg₄) F ho (hd1.sub hg₄) hd2
end
theorem law_ok : LawP := by
  intro w A s Q E S items ns W hd hh hu hS hns hlen h
  refine' enterX (binds := [(Str.ofString "script", .ref S)]) W (fun _ _ e => e) ?k6 ?k7 (by omega) ?k9 ?kB ?_ ?c2 ?c3 ?c4 ?c5
  walk_at "my_enter"
  intro h₁ L hL hs F
  refine cutA fun B hBd hBh hBu => ?_
  replace hh : B.handled = none := hBh.trans hh
  replace hd : B.depth + 39 < recursionLimit := by omega
  replace hu : B.units + 190 < cLine := by omega
  clear hBd hBh hBu
  -- text, trees, pairs
  refine wpAny_execs_cons (Assign_Tuple (fcall F W (by k_is) (by k_is) ?_))
  refine wpAny_items_cons (nm F rfl (wpAny_items_nil ⟨F.toSub, ?_⟩))
  refine drawn_ok (W.keeps F.toSub) (by omega) hh S items ns (hS.at fun o e => F.keep _ _ e) hns hlen fun s₁ v n hs₁ hr₁ hrow hn5 => ?_
  obtain ⟨t, k0, k1, k2, rfl, ht⟩ := hrow
  have F := F.ext hs₁
  refine wpAny_assign_Tuple hh ht rfl rfl fun h' hx => ?_
  have F := F.ext (sub_of_size hx)
  refine wpAny_assignInOrder_more (storeT (s := { s₁ with heap := h', toks := _ }) F rfl rfl fun h₂ tk₂ F => ?_)
  refine wpAny_assignInOrder_more (storeT (s := { s₁ with heap := h₂, toks := _ }) F rfl rfl fun h₂ tk₂ F => ?_)
  refine wpAny_assignInOrder_more (storeT (s := { s₁ with heap := h₂, toks := _ }) F rfl rfl fun h₂ tk₂ F => wpAny_assignInOrder_none ?_)
  refine cut (s0 := s) F ⟨hr₁.gens, hr₁.os⟩ fun s₂ hr₂ F => ?_
  clear hr₁ hs₁ ht hx
  have hXl := X_len n
  have hXs : (⟨(X n).toArray⟩ : Str).length ≤ 2000 := by simp only [Str.length, List.size_toArray]; omega
  have hXa : (⟨(X n).toArray⟩ : Str).cps.all (· < 128) = true := by
    rw [Array.all_eq_true']
    intro c hc
    exact decide_eq_true (X_ascii n c (by simpa using hc))
  -- the text's brackets
  refine wpAny_execs_cons (wpAny_If (wpAny_isTrue_Compare1 (fcall (s := s₂) F W (by k_is) (by k_is) ?_)))
  refine wpAny_items_cons (nm (s := s₂) F rfl (wpAny_items_nil ⟨F.toSub, ?_⟩))
  refine check_ok (W.keeps F.toSub) (by omega) hh _ _ hXa hXs fun s₃ hs₃ hr₃ => ?_
  have F := F.ext hs₃
  have hck : checkL (⟨(X n).toArray⟩ : Str).cps.toList = true := check_X n
  rw [hck]
  refine wpAny_Constant_bool (isnot_bool (wpAny_truthy_bool ?_))
  refine ite_neg (by decide) (wpAny_execs_nil ?_)
  replace hr₃ := hr₂.trans hr₃
  clear hr₂ hs₃
  -- profile
  have lowP : sysModules < s₃.heap.objs.size := modules_low (W.keeps F.toSub).nolimit
  refine wpAny_execs_cons (wpAny_Assign_Name (wpAny_Dict_empty (sto (s := { s₃ with heap := _, toks := _ }) (F.push (o := dictObj0)) fun h₄ F => ?_)))
  generalize s₃.heap.objs.size = P at lowP F ⊢
  refine cut (s0 := s) F ⟨hr₃.gens, hr₃.os⟩ fun s₄ hr₄ F => ?_
  clear hr₃
  -- _law_lay
  refine wpAny_execs_cons (wpAny_Expr (fcall (s := s₄) F W (by k_is) (by k_is) ?_))
  refine wpAny_items_cons (nm (s := s₄) F rfl (wpAny_items_cons (btype (s := s₄) F W (by k_is) (by boot_fast) (by decide) ?_)))
  refine wpAny_items_cons (fcall (s := s₄) F W (by k_is) (by k_is) ?_)
  refine wpAny_items_cons (fcall (s := s₄) F W (by k_is) (by k_is) ?_)
  refine wpAny_items_cons (nm (s := s₄) F rfl (wpAny_items_nil ⟨F.toSub, ?_⟩))
  refine strip_ok (W.keeps F.toSub) (by omega) hh _ _ hXa hXs fun s₅ tx hs₅ hr₅ => ?_
  have F := F.ext hs₅
  have hst : stripL (⟨(X n).toArray⟩ : Str).cps.toList = (T n).flatten := strip_X n
  rw [hst]
  refine wpAny_items_nil ⟨F.toSub, ?_⟩
  have hTa : (⟨(T n).flatten.toArray⟩ : Str).cps.all (· < 128) = true := by
    rw [Array.all_eq_true']
    intro c hc
    exact decide_eq_true (T_ascii n c (by simpa using hc))
  refine iter_call_ok (s := s₅) (W.keeps F.toSub) (by omega) _ _ hTa fun a own s₆ hs₆ hr₆ ha hown hown2 hG => ?_
  refine wpAny_items_nil ?_
  have hUl : (unitsOf (⟨(T n).flatten.toArray⟩ : Str)).length ≤ sizeLine := by
    have e : (unitsN n).length = (T n).length := by rw [← unitsN_snd n, List.length_map]
    have := T_len n
    show (unitsN n).length ≤ sizeLine
    rw [e, sizeLine_eq]; omega
  refine call_list_units (h0 := s₅.heap) hh (by omega) hUl (hG _ hh) (W.keeps F.toSub) hs₆ hown (fun b hb e => hown2 b hb (e ▸ get_size _)) fun s₇ l its hits hs₇ hl hln hr₇ => ?_
  obtain ⟨g₂, F, hg₂, hgf⟩ := F.take hs₇ (gf := freshOf s₅.heap s₇.heap) fun b o e => freshOf_of e
  have W₂ := W.keeps hg₂
  replace hr₇ : Rel s s₇ := ⟨fun x => hr₇.gens (hr₆.gens (hr₅.gens (hr₄.gens x))), hr₇.os.trans (hr₆.os.trans (hr₅.os.trans hr₄.os))⟩
  have hunits : All2 (UnitAt g₂) its.toList (unitsN n) := hits.mono fun a b x => x.sub hgf
  have hl₂ : g₂.IsList l its := by
    obtain ⟨ol, e, r⟩ := hl
    exact ⟨ol, hgf _ _ (freshOf_get e hln), r⟩
  clear hs₅ hr₅ hs₆ hr₆ hown hown2 hG hgf hits hl hln hr₄
  refine wpAny_items_cons (wpAny_UnaryOp (wpAny_Constant_int (neg_int ?_)))
  refine wpAny_items_cons (wpAny_UnaryOp (wpAny_Constant_int (neg_int (wpAny_items_nil ⟨hg₂.trans F.toSub, ?_⟩))))
  have hdep := dep_nw n
  have hoP := F.at_ _ (.head _)
  refine lay_all n B { s₇ with toks := _ } _ _ g₂ P l its (unitsN n) (-1) (-2) _ _ dictObj0 [] [] 0 hh (by omega) W₂ F.toSub hoP.1 hoP.2.2 lowP empty_dict .nil hl₂ hunits (unitsN_snd n) ⟨Nat.le_refl _, fun _ h => (nomatch h)⟩ (by omega) (by omega)
    fun s₈ g' o' kvs' hg' hg's hor hP' ho' hk' hoth hr₈ => ?_
  replace hr₈ : Rel s s₈ := ⟨fun x => hr₈.gens (hr₇.gens x), hr₈.os.trans hr₇.os⟩
  have hF7 := F
  have F := F.updE hoth hP'
  obtain ⟨g₃, F, hg₃, hall⟩ := F.all
  have hPL := hoP.2.1
  obtain ⟨hps, hpl⟩ := unitsN_fst n
  have hf : Fine n ((unitsN n).map (·.1)) (-1) (-2) := fine_places hps hpl
  obtain ⟨hpn1, hpn2⟩ := prof_len (n := n) (by omega) ((unitsN n).map (·.1))
  have hPF := prof_facts hf
  replace hk' : Kvs (EntAt w g') kvs' (prof0 n ((unitsN n).map (·.1))) := hk'
  generalize hprof : prof0 n ((unitsN n).map (·.1)) = prof at hk' hpn1 hpn2 hPF
  have hsub3 : Sub g' g₃ := by
    intro b o e
    refine hall b o (hg's _ _ e) fun q => ?_
    rcases hor _ _ e with e' | e'
    · have h2 := F.off
      rw [← q, hg₃ _ _ e'] at h2; cases h2
    · exact hF7.isSomeL (q ▸ e')
  have hP₃ : g₃.DictOf (intKind PR w) P kvs' := Heap.dictOf_iff.mpr ⟨o', hall P o' hP' hPL, ho'⟩
  have hk₃ : Kvs (EntAt w g₃) kvs' prof := hk'.mono fun a b x => ⟨x.1, x.2.sub hsub3⟩
  have hs₃ : Sub s.heap g₃ := hg₂.trans hg₃
  have W₃ : Wd w g₃ := W.keeps hs₃
  have hkl := hk₃.length
  clear hsub3 hk' hg' hg's hor hP' ho' hoth hall hF7 hPL hoP hunits hl₂ W₂ hg₃ hg₂
  refine cut (s0 := s) F hr₈ fun sA hrA F => ?_
  clear hr₈ hr₇
  -- entries
  refine wpAny_execs_cons (wpAny_Assign_Name (btype (s := sA) F W₃ (by k_is) (by boot_fast) (by decide) ?_))
  refine wpAny_items_cons (call_values (s := sA) (low_ne lowP) (hP₃.at fun o e => F.keep _ _ e) (by rfl) (by rfl) (fun Q' hq => nm F rfl hq) (wpAny_items_nil ?_))
  have F := F.ext (Sub.push sA.heap { cls := .type "dict_values", data := .fields #[.ref P] })
  refine list_values (s := { sA with heap := _ }) hh ⟨_, Heap.get?_push_size _ rfl, rfl, rfl⟩ (hP₃.at fun o e => F.keep _ _ e) (by omega) fun h₉ tk₉ c hs₉ hl₉ => ?_
  have F := F.new hs₉ (get_size _) hl₉
  generalize Array.size (Heap.objs (Heap.push sA.heap { cls := .type "dict_values", data := .fields #[.ref P] })) = EL at F hl₉ ⊢
  obtain ⟨g₄, F, hg₄, hEL⟩ := F.still
  refine sto (s := { sA with heap := h₉, toks := _ }) F fun hA F => ?_
  refine cut (s0 := s) F ⟨hrA.gens, hrA.os⟩ fun sB hrB F => ?_
  clear hs₉ hl₉ hrA
  have hk₄ : Kvs (EntAt w g₄) kvs' prof := hk₃.mono fun a b x => ⟨x.1, x.2.sub hg₄⟩
  have W₄ : Wd w g₄ := W₃.keeps hg₄
  have hELs : (kvs'.map (·.2)).toArray.size = prof.length := by simp [hkl]
  -- the widths
  refine wpAny_execs_cons (wpAny_If (wpAny_isTrue_Compare1 (eval_listcomp (cl := []) ?lc1 ?cf1)))
  (case cf1 => exact closureFor_none (by decide))
  refine nm (s := sB) F rfl (wpAny_pyIter_list ⟨_, F.keep _ _ hEL, rfl, _, rfl⟩ ?_)
  have F := F.push (o := listItObj EL 0)
  have hent : ∀ (j : Nat) (v : Value), (kvs'.map (·.2)).toArray[j]? = some v → ∃ x, prof[j]? = some x ∧ EntAt w g₄ v x.2 := by
    intro j v hv
    rw [List.getElem?_toArray, List.getElem?_map] at hv
    obtain ⟨kv, h1, rfl⟩ := Option.map_eq_some_iff.mp hv
    obtain ⟨x, h2, _, h3⟩ := hk₄.get h1
    exact ⟨x, h2, h3⟩
  refine blockL (s₂ := { sB with heap := _, toks := _ }) (il := [_]) (led₂ := []) (N := (kvs'.map (·.2)).toArray.size) (g₂ := g₄) (St := fun i il => ∃ o : Obj, il = [(_, o)] ∧ o.cls = .type "list_iterator" ∧ o.data = .fields #[.ref EL, .int i 0])
    (fun j xs => All2 isI xs.toList ((prof.map (·.2.wid)).take j)) F (fun C => Source.list ?hh1 ⟨_, hEL, rfl, _, rfl⟩ rfl rfl)
    (fun s' G C led' m' F' Q' E' hq => wpAny_pyIter_listiter ⟨_, F'.here, rfl, rfl⟩ hq) ⟨_, rfl, rfl, rfl⟩ .nil (by omega) ?_ ?_ ?_ (by decide) rfl
  (case hh1 => exact hh)
  · intro j xs hx
    have h1 := hx.length
    rw [List.length_take, Array.length_toList] at h1
    omega
  · rintro C D j m₅ m₆ G₂ il₅ its nn s₅ hjl hgG hled hP ⟨v, hv, rfl⟩ F₅ hr₅
    obtain ⟨x, hx, t0, c0, c2, c3, d, k0, k1, k2, k3, rfl, ht, _⟩ := hent j v hv
    refine wpAny_tests_nil ((if_pos rfl).mpr (Subscript_ (nm F₅ rfl (wpAny_Constant_int ?_))))
    refine item_tuple (j := 1) (IsTuple.sub ht (hgG.trans F₅.toSub)) (by decide) (by decide) rfl rfl ?_
    refine ⟨⟨id, rfl⟩, _, F₅, ?_⟩
    rw [Array.toList_push, List.take_add_one, List.getElem?_map, hx]
    exact hP.append (.cons ⟨_, rfl⟩ .nil)
  intro s₆ C D its₁ nn₁ mC hD hCn hDC hPa hnC hFx hCL hr₆
  refine ⟨mC, hnC, fun h₇ hs₇ => ?_⟩
  have F := hFx h₇ hs₇
  refine cut (s0 := s) F ⟨fun x => hr₆.gens (hrB.gens x), hr₆.os.trans hrB.os⟩ fun sC hrC F => ?_
  clear hFx hs₇ hnC hr₆ hrB
  rw [List.take_of_length_le (by rw [List.length_map, hELs]; exact Nat.le_refl _)] at hPa
  refine eval_listcomp (cl := []) ?lc2 ?cf2
  (case cf2 => exact closureFor_none (by decide))
  refine nm (s := sC) F rfl (wpAny_pyIter_list ⟨_, F.keep _ _ hEL, rfl, _, rfl⟩ ?_)
  have F := F.push (o := listItObj EL 0)
  refine blockL (s₂ := { sC with heap := _, toks := _ }) (il := [_]) (led₂ := [_]) (N := (kvs'.map (·.2)).toArray.size) (g₂ := g₄) (St := fun i il => ∃ o : Obj, il = [(_, o)] ∧ o.cls = .type "list_iterator" ∧ o.data = .fields #[.ref EL, .int i 0])
    (fun j xs => All2 isI xs.toList ((prof.map (fun x => sumC x.2.cs)).take j)) F (fun C => Source.list ?hh2 ⟨_, hEL, rfl, _, rfl⟩ rfl rfl)
    (fun s' G C led' m' F' Q' E' hq => wpAny_pyIter_listiter ⟨_, F'.here, rfl, rfl⟩ hq) ⟨_, rfl, rfl, rfl⟩ .nil (by omega) ?_ ?_ ?_ (by decide) rfl
  (case hh2 => exact hh)
  · intro j xs hx
    have h1 := hx.length
    rw [List.length_take, Array.length_toList] at h1
    omega
  · rintro C D j m₅ m₆ G₂ il₅ its nn s₅ hjl hgG hled hP ⟨v, hv, rfl⟩ F₅ hr₅
    obtain ⟨x, hx, t0, c0, c2, c3, d, k0, k1, k2, k3, rfl, ht, hd'⟩ := hent j v hv
    refine wpAny_tests_nil ((if_pos rfl).mpr (fcall (s := s₅) F₅ (W₄.keeps hgG) (by k_is) (by k_is) (wpAny_items_cons (Subscript_ (nm F₅ rfl (wpAny_Constant_int ?_))))))
    refine item_tuple (j := 4) (IsTuple.sub ht (hgG.trans F₅.toSub)) (by decide) (by decide) rfl rfl (wpAny_items_nil ⟨F₅.toSub, ?_⟩)
    show wpAny (model PR w) B (call (.ref 63) [.ref d]) _ _ _
    refine count_calls_ok (s := { s₅ with toks := s₅.toks + 1 }) (W₄.keeps (hgG.trans F₅.toSub)) (by omega) hh d x.2.cs (hd'.sub (hgG.trans F₅.toSub)) fun s₈ t₈ hs₈ hr₈ => ?_
    refine ⟨⟨hr₈.gens, hr₈.os⟩, _, F₅.ext hs₈, ?_⟩
    rw [Array.toList_push, List.take_add_one, List.getElem?_map, hx]
    exact hP.append (.cons ⟨_, rfl⟩ .nil)
  intro s₆ C₂ D₂ its₂ nn₂ mC₂ hD₂ hCn₂ hDC₂ hPb hnC₂ hFx₂ hCL₂ hr₆
  refine ⟨mC₂, hnC₂, fun h₇ hs₇ => ?_⟩
  have F := hFx₂ h₇ hs₇
  rw [List.take_of_length_le (by rw [List.length_map, hELs]; exact Nat.le_refl _)] at hPb
  have hww : prof.map (·.2.wid) = prof.map (fun x => sumC x.2.cs) := List.map_congr_left fun x hx => hPF.good.wd x hx
  rw [hww] at hPa
  refine ne_same (s := { s₆ with heap := h₇ }) (F.get (.tail _ (.head _))) F.here hPa hPb (by omega) (wpAny_truthy_bool ?_)
  refine ite_neg Bool.false_ne_true (wpAny_execs_nil ?_)
  have F := F.drop (List.nil_sublist _)
  refine cut (s0 := s) F ⟨fun x => hr₆.gens (hrC.gens x), hr₆.os.trans hrC.os⟩ fun sD hrD F => ?_
  clear hFx₂ hs₇ hnC₂ hr₆ hrC hPa hPb hww hent hEL hELs
  -- the judges
  refine wpAny_execs_cons (for_start fun R hR => ?_)
  have FD := F
  refine tupR (wpAny_items_cons (fcall (s := sD) F W₄ (by k_is) (by k_is) ?_))
  refine wpAny_items_cons (tupR (wpAny_items_cons (tupR (wpAny_items_cons (wpAny_Constant_int (wpAny_items_cons (wpAny_Constant_int (wpAny_items_nil ⟨Nat.le_of_ble_eq_true rfl, fun s₁ T1 r1 u1 n1 ht1 => ?_⟩))))))))
  refine wpAny_items_cons (tupR (wpAny_items_cons (wpAny_Constant_int (wpAny_items_cons (wpAny_Constant_int (wpAny_items_nil ⟨Nat.le_of_ble_eq_true rfl, fun s₂ T2 r2 u2 n2 ht2 => ?_⟩))))))
  refine wpAny_items_nil ⟨Nat.le_of_ble_eq_true rfl, fun s₃ T3 r3 u3 n3 ht3 => ?_⟩
  have F := ((F.ext u1).ext u2).ext u3
  refine wpAny_items_nil ⟨F.toSub, ?_⟩
  refine tupleComp_ok (W₄.keeps F.toSub) (by omega) T3 fun s₄ x1 dx1 tk1 u4 r4 nx ndx hx1 hdx1 => ?_
  have F := F.ext u4
  replace u1 : Sub sD.heap s₁.heap := u1
  replace u2 : Sub s₁.heap s₂.heap := u2
  replace n1 : sD.heap.get? T1 = none := n1
  replace n2 : s₁.heap.get? T2 = none := n2
  have v2 := u1.trans u2
  have v3 := v2.trans u3
  have J1 : JudgeAt w (freshOf sD.heap s₄.heap) x1 := ⟨dx1, T3, T1, T2, tk1, 1, _, _, 1, _, _, freshOf_get hx1 (none_of_sub v3 nx), freshOf_get hdx1 (none_of_sub v3 ndx), IsTuple.fresh (IsTuple.sub ht3 u4) (none_of_sub v2 n3), IsTuple.fresh (IsTuple.sub ht1 (u2.trans (u3.trans u4))) n1, IsTuple.fresh (IsTuple.sub ht2 (u3.trans u4)) (none_of_sub u1 n2)⟩
  have hD4 : Sub sD.heap s₄.heap := v3.trans u4
  replace hrD : Rel s s₄ := ⟨fun x => r4.gens (r3.gens (r2.gens (r1.gens (hrD.gens x)))), r4.os.trans (r3.os.trans (r2.os.trans (r1.os.trans hrD.os)))⟩
  clear r1 r2 r3 r4 u1 u2 u3 u4 ht1 ht2 ht3 hx1 hdx1 nx ndx n1 n2 n3 v2 v3
  refine wpAny_items_cons (fcall (s := s₄) F W₄ (by k_is) (by k_is) ?_)
  refine wpAny_items_cons (tupR (wpAny_items_cons (tupR (wpAny_items_cons (wpAny_Constant_int (wpAny_items_cons (wpAny_UnaryOp (wpAny_Constant_int (neg_int (wpAny_items_nil ⟨Nat.le_of_ble_eq_true rfl, fun s₁ T1 r1 u1 n1 ht1 => ?_⟩))))))))))
  refine wpAny_items_cons (tupR (wpAny_items_cons (wpAny_Constant_int (wpAny_items_cons (wpAny_UnaryOp (wpAny_Constant_int (neg_int (wpAny_items_nil ⟨Nat.le_of_ble_eq_true rfl, fun s₂ T2 r2 u2 n2 ht2 => ?_⟩))))))))
  refine wpAny_items_nil ⟨Nat.le_of_ble_eq_true rfl, fun s₃ T3 r3 u3 n3 ht3 => ?_⟩
  have F := ((F.ext u1).ext u2).ext u3
  refine wpAny_items_nil ⟨F.toSub, ?_⟩
  refine tupleComp_ok (W₄.keeps F.toSub) (by omega) T3 fun s₅ x2 dx2 tk2 u4 r4 nx ndx hx2 hdx2 => ?_
  have F := F.ext u4
  replace u1 : Sub s₄.heap s₁.heap := u1
  replace u2 : Sub s₁.heap s₂.heap := u2
  replace n1 : s₄.heap.get? T1 = none := n1
  replace n2 : s₁.heap.get? T2 = none := n2
  have v2 := u1.trans u2
  have v3 := v2.trans u3
  have J2 : JudgeAt w (freshOf s₄.heap s₅.heap) x2 := ⟨dx2, T3, T1, T2, tk2, -1, _, _, -1, _, _, freshOf_get hx2 (none_of_sub v3 nx), freshOf_get hdx2 (none_of_sub v3 ndx), IsTuple.fresh (IsTuple.sub ht3 u4) (none_of_sub v2 n3), IsTuple.fresh (IsTuple.sub ht1 (u2.trans (u3.trans u4))) n1, IsTuple.fresh (IsTuple.sub ht2 (u3.trans u4)) (none_of_sub u1 n2)⟩
  have h45 : Sub s₄.heap s₅.heap := v3.trans u4
  replace hrD : Rel s s₅ := ⟨fun x => r4.gens (r3.gens (r2.gens (r1.gens (hrD.gens x)))), r4.os.trans (r3.os.trans (r2.os.trans (r1.os.trans hrD.os)))⟩
  clear r1 r2 r3 r4 u1 u2 u3 u4 ht1 ht2 ht3 hx2 hdx2 nx ndx n1 n2 n3 v2 v3
  refine wpAny_items_nil ⟨Nat.le_of_ble_eq_true rfl, fun s₆ TJ r6 u6 nJ htJ => ?_⟩
  replace hrD : Rel s s₆ := ⟨fun x => r6.gens (hrD.gens x), r6.os.trans hrD.os⟩
  replace J1 := J1.sub (freshOf_push (h := sD.heap) (h45.trans u6))
  replace J2 := (J2.sub (freshOf_sub hD4)).sub (freshOf_push (h := sD.heap) u6)
  replace htJ := IsTuple.fresh (h := sD.heap) htJ (none_of_sub (hD4.trans h45) nJ)
  obtain ⟨g₅, F, hg₅, hgf⟩ := FD.take (hD4.trans (h45.trans u6)) (gf := freshOf sD.heap s₆.heap) fun b o e => freshOf_of e
  replace J1 := J1.sub hgf
  replace J2 := J2.sub hgf
  replace htJ := IsTuple.sub htJ hgf
  clear r6 u6 nJ hD4 h45 FD hgf
  have hk₅ : Kvs (EntAt w g₅) kvs' prof := hk₄.mono fun a b x => ⟨x.1, x.2.sub hg₅⟩
  have hP₅ : g₅.DictOf (intKind PR w) P kvs' := hP₃.at fun o e => hg₅ _ _ (hg₄ _ _ e)
  have hs₅ : Sub s.heap g₅ := hs₃.trans (hg₄.trans hg₅)
  have W₅ : Wd w g₅ := W.keeps hs₅
  have hnd : ((tabOf prof).map (·.1)).Nodup := by rw [tabOf_keys]; exact hPF.good.nd
  clear hk₄ hk₃ hP₃ W₃ W₄ hs₃ hg₄ hg₅
  refine wpAny_pyIter_tuple (IsTuple.sub htJ F.toSub) ?_
  have F := F.push (o := tupItObj TJ 0)
  refine forSR (s := { s₆ with heap := _ }) (Source.tuple (items := [Value.ref x1, Value.ref x2].toArray) (g₀ := g₅) ?hh3 htJ ?ek3 ?ev3)
    (fun i m g led => led = [] ∧ Sub g₅ g ∧ m (Str.ofString "profile") = some (.ref P) ∧ (∃ t, m (Str.ofString "trees") = some (.int (treesN n) t)) ∧ (∃ t, m (Str.ofString "pairs") = some (.int (pairsN n) t)))
    (il := [_]) (led := []) F (fun _ _ e => e) ⟨_, rfl, rfl, rfl⟩ ⟨rfl, fun _ _ e => e, rfl, ⟨_, rfl⟩, ⟨_, rfl⟩⟩ (fun i m g g' led hs ⟨h1, h2, h3⟩ => ⟨h1, h2.trans hs, h3⟩) ?st3 ?dn3
  (case hh3 => exact hh)
  (case ek3 => rfl)
  (case ev3 => rfl)
  case dn3 =>
    rintro s' m' g' led' hg' ⟨rfl, hgg, _⟩ F hr
    refine hR _ _ ?_
    refine wpAny_execs_cons (wpAny_Return_some (wpAny_Constant_bool ?_))
    exact h _ (hs₅.trans (hgg.trans F.toSub)) ⟨fun x => hr.gens (hrD.gens x), hr.os.trans hrD.os⟩
  rintro i m₁ m₂ g₆ il₂ led₁ s₇ hlt hg₆ ⟨rfl, hg₆', hm1, ⟨t1, hm2⟩, ⟨t2, hm3⟩⟩ ⟨v, hv, rfl⟩ F hr
  obtain ⟨J, rfl, hJ⟩ : ∃ J, v = .ref J ∧ JudgeAt w g₅ J := by
    match i, hv with
    | 0, hv => exact ⟨x1, (Option.some.inj hv).symm, J1⟩
    | 1, hv => exact ⟨x2, (Option.some.inj hv).symm, J2⟩
    | i + 2, hv => simp at hv
  rw [List.append_nil] at F
  replace hr := Rel.refl s₇
  have hP₆ : g₆.DictOf (intKind PR w) P kvs' := hP₅.at fun o e => hg₆' _ _ e
  have hk₆ : Kvs (EntAt w g₆) kvs' prof := hk₅.mono fun a b x => ⟨x.1, x.2.sub hg₆'⟩
  have W₆ := W₅.keeps hg₆'
  replace hJ := hJ.sub hg₆'
  obtain ⟨oP, es, ep, hoP, rP⟩ := id hP₆
  -- table
  refine wpAny_execs_cons (assign_dictcomp (cl := []) ?dc ?cf3)
  (case cf3 => exact closureFor_none (by decide))
  refine wpAny_Call_items (s := s₇) (low_ne lowP) (hP₆.at fun o e => F.keep _ _ e) (by rfl) (by rfl) (fun Q' hq => nm F hm1 hq) ?_
  have F := F.ext (Sub.push s₇.heap { cls := .type "dict_items", data := .fields #[.ref P] })
  refine wpAny_pyIter_items (s := { s₇ with heap := _ }) (knd := intKind PR w) (d := P) (kvs := kvs') (ep := ep) ⟨_, Heap.get?_push_size _ rfl, rfl, rfl⟩ ⟨oP, es, F.keep _ _ hoP, rP⟩ ?_
  have F := F.push (o := itemObj P 0 kvs'.length ep .none .none)
  refine blockD (s₂ := { s₇ with heap := _ }) (il := [_]) (led₂ := il₂) (N := kvs'.length) (g₂ := g₆) (St := itemSt _ P kvs'.length ep)
    (fun j xs => Kvs (TblV w g₆) xs ((tabOf prof).take j)) F (fun C => Source.items ?hh4 ⟨oP, es, hoP, rP⟩ rfl rfl rfl) ?slf ⟨.none, .none, rfl⟩ .nil (by omega) ?sz ?stp ?don (by decide) rfl
  (case hh4 => exact hh)
  (case slf => exact fun s' G C led' m' F' Q' E' hq => pyIter_itemiter F'.here hq)
  (case sz =>
    intro j xs hx
    have h1 := hx.length
    rw [List.length_take] at h1
    omega)
  (case stp =>
    rintro C D j m₅ m₆ G₂ il₅ kvD oD s₈ hj hgG hled hP' hoD ⟨k, v, t, hx, rfl⟩ F₈ hr₈
    obtain ⟨⟨xk, xe⟩, hx2, e1, t0, c0, c2, c3, d, k0, k1, k2, k3, e2, ht, hDI⟩ := hk₆.get hx
    dsimp only at e1 e2 hDI ht
    subst e1 e2
    refine wpAny_tests_nil ((if_pos rfl).mpr (nm F₈ rfl (Subscript_ (nm F₈ rfl (wpAny_Constant_int ?_)))))
    refine item_tuple (j := 4) (x := .ref d) (IsTuple.sub ht (hgG.trans F₈.toSub)) (by decide) (by decide) rfl rfl ?_
    refine ⟨⟨id, rfl⟩, _, k, t, rfl, F₈, ?_⟩
    have ht2 : (tabOf prof)[j]? = some (k, xe.cs) := by unfold tabOf; rw [List.getElem?_map, hx2]; rfl
    rw [← put_take hnd ht2]
    exact hP'.put k ⟨d, rfl, hDI⟩)
  intro s₈ C D kv1 o1 mC hD hDsz hC hDC hP1 ho1 hnC hFx hCL hr₈
  have lowT : sysModules < D := by rw [hDsz]; exact modules_low (W₆.keeps F.toSub).nolimit
  rw [List.take_of_length_le (by unfold tabOf; rw [List.length_map, hkl]; exact Nat.le_refl _)] at hP1
  refine useStore (hFx s₈.heap (Heap.SameBut.refl _ _)) hnC hCL (none_of_sub F.toSub hC) (fun hm => ?_) rfl rfl fun h₇ tk₇ F => ?_
  · rcases List.mem_cons.mp hm with q | q
    · exact hDC q.symm
    · exact F.isSome (.tail _ q) hC
  show wpAny _ _ _ _ _ _
  obtain ⟨g₇, F, hg₇, hT⟩ := F.still
  refine cut (s0 := s₇) F ⟨fun x => hr₈.gens (hr.gens x), hr₈.os.trans hr.os⟩ fun sE hrE F => ?_
  clear hFx hnC hr₈ hr
  have hTab : g₇.DictOf (intKind PR w) D kv1 := Heap.dictOf_iff.mpr ⟨o1, hT, ho1⟩
  have hTk : Kvs (TblV w g₇) kv1 (tabOf prof) := hP1.mono fun a b x => ⟨x.1, x.2.sub hg₇⟩
  have W₇ := W₆.keeps hg₇
  -- scale, scales
  refine wpAny_execs_cons (Assign_Tuple (tupR (wpAny_items_cons (wpAny_Constant_int (wpAny_items_cons (wpAny_Constant_int (wpAny_items_nil ⟨Nat.le_of_ble_eq_true rfl, fun sF TF rF uF nF htF => ?_⟩)))))))
  refine wpAny_assign_Tuple hh htF rfl rfl fun h' hx => ?_
  have F := (F.ext uF).ext (sub_of_size hx)
  refine wpAny_assignInOrder_more (storeT (s := { sF with heap := h', toks := _ }) F rfl rfl fun h₂ tk₂ F => ?_)
  refine wpAny_assignInOrder_more (storeT (s := { sF with heap := h₂, toks := _ }) F rfl rfl fun h₂ tk₂ F => wpAny_assignInOrder_none ?_)
  refine cut (s0 := s₇) F ⟨fun x => rF.gens (hrE.gens x), rF.os.trans hrE.os⟩ fun sG hrG F => ?_
  clear rF uF nF htF hx hrE
  -- the line
  refine wpAny_execs_cons (for_start fun R₂ hR₂ => ?_)
  refine fcall (s := sG) F W₇ (by k_is) (by k_is) ?_
  refine wpAny_items_cons (nm (s := sG) F hm1 (wpAny_items_cons (nm (s := sG) F rfl (wpAny_items_nil ⟨F.toSub, ?_⟩))))
  refine line_ok (s := sG) (W₇.keeps F.toSub) (by omega) hh P J kvs' prof lowP (hP₆.at fun o e => F.keep _ _ (hg₇ _ _ e)) (hk₆.mono fun a b x => ⟨x.1, x.2.sub (hg₇.trans F.toSub)⟩) (hJ.sub (hg₇.trans F.toSub)) (by omega) fun s₉ Lr its ns' hs₉ hr₉ hLr hlr hns' hperm => ?_
  obtain ⟨oL, hoL, rL⟩ := hlr
  obtain ⟨g₈, F, hg₈, hLg⟩ := (F.new hs₉ hLr hoL).still
  have hLl : g₈.IsList Lr its := ⟨oL, hLg, rL⟩
  have hpi : ns'.Perm (innr n ((unitsN n).map (·.1))) := line_perm hps hpl (by rw [keys0, hprof]; exact hperm)
  have hlen4 : ns'.length ≤ 4 := line_len (by omega) hpi
  have hitl := hns'.length
  rw [Array.length_toList] at hitl
  refine wpAny_pyIter_list ⟨_, F.keep _ _ hLg, rL⟩ ?_
  have F := F.push (o := listItObj Lr 0)
  have hTI0 : TI (keys0 n ((unitsN n).map (·.1))) 0 (tabOf prof) 1 1 ns' := by rw [← hprof]; exact TI.start (by omega) hf hpi
  have hV : (keys0 n ((unitsN n).map (·.1))).Nodup := by show ((prof0 n ((unitsN n).map (·.1))).map (·.1)).Nodup; rw [hprof]; exact hPF.good.nd
  refine forSR (s := { s₉ with heap := _ }) (Source.list (items := its) (g₀ := g₈) ?hh5 hLl ?ek5 ?ev5) (LoopU w (keys0 n ((unitsN n).map (·.1))) ⟨Wf (tabOf prof), 1, 1⟩ g₈ P n ns' il₂)
    (il := [_]) (led := il₂) F (fun _ _ e => e) ⟨_, rfl, rfl, rfl⟩ ⟨rfl, fun _ _ e => e, hm1, ⟨t1, hm2⟩, ⟨t2, hm3⟩, D, kv1, tabOf prof, 1, 1, _, _, rfl, rfl, rfl, lowT, hTab.at fun o e => hg₈ _ _ e, hTk.mono fun a b x => ⟨x.1, x.2.sub hg₈⟩, hTI0, rfl⟩
    (fun i m g g' led hs hU => hU.mono hs) ?st5 ?dn5
  (case hh5 => exact hh)
  (case ek5 => rfl)
  (case ev5 => rfl)
  case st5 =>
    rintro j m₃ m₄ g₉ il₃ led₃ sH hlt hg₉ ⟨rfl, hgg, hp1, hp2, hp3, T, kv, tab, sc, scs, u1, u2, ht1, ht2, ht3, lowT', hTd, hTk', hTI, hfold⟩ ⟨v, hv, rfl⟩ F hrH
    obtain ⟨z, hz, tz, rfl⟩ := hns'.get (i := j) (by rw [Array.getElem?_toList]; exact hv)
    obtain ⟨bs, hb, hTI', hfold', l1, l2, mu1, mu2, mu3, mu4⟩ := hTI.turn hV hz (by omega) hfold
    have W₉ : Wd w g₉ := W₇.keeps (hg₈.trans hg₉)
    refine wpAny_execs_cons (Assign_Tuple (fcall (s := sH) F W₉ (by k_is) (by k_is) ?_))
    refine wpAny_items_cons (nm (s := sH) F ht1 (wpAny_items_cons (nm (s := sH) F rfl (wpAny_items_nil ⟨F.toSub, ?_⟩))))
    refine struck_ok (s := sH) (W₉.keeps F.toSub) (by omega) hh T kv tab z tz bs lowT' (hTd.at fun o e => F.keep _ _ e) (hTk'.mono fun a b x => ⟨x.1, x.2.sub F.toSub⟩) hb l1 l2 mu1 mu2 fun sI Tt Lf kv' tt hsI hrI htt lowLf hLf hkf => ?_
    refine wpAny_assign_Tuple hh htt rfl rfl fun h' hx => ?_
    obtain ⟨g₁₀, F, hg₁₀, hgf⟩ := F.take hsI (gf := freshOf sH.heap sI.heap) fun b o e => freshOf_of e
    have F := F.ext (sub_of_size hx)
    refine wpAny_assignInOrder_more (storeT (s := { sI with heap := h', toks := _ }) F rfl rfl fun h₂ tk₂ F => ?_)
    refine wpAny_assignInOrder_more (storeT (s := { sI with heap := h₂, toks := _ }) F rfl rfl fun h₂ tk₂ F => wpAny_assignInOrder_none ?_)
    refine cut (s0 := sH) F ⟨hrI.gens, hrI.os⟩ fun sJ hrJ F => ?_
    refine wpAny_execs_cons (wpAny_Assign_Name (wpAny_BinOp (nm (s := sJ) F ht3 (nm (s := sJ) F ht2 (mul_int ?_ mu3)))))
    refine stoR (s0 := sH) F ⟨hrJ.gens, hrJ.os⟩ fun sK hrK F => ?_
    refine wpAny_execs_cons (wpAny_Assign_Name (wpAny_BinOp (nm (s := sK) F ht2 (nm (s := sK) F rfl (mul_int ?_ mu4)))))
    refine stoR (s0 := sH) F ⟨hrK.gens, hrK.os⟩ fun sL hrL F => wpAny_execs_nil ?_
    exact ⟨hrL, _, g₁₀, led₃, hg₁₀, F, rfl, hgg.trans hg₁₀, hp1, hp2, hp3, Lf, kv', _, _, _, _, _, rfl, rfl, rfl, lowLf, hLf.at fun o e => hgf _ _ e, hkf.mono fun a b x => ⟨x.1, x.2.sub hgf⟩, hTI', hfold'⟩
  rintro s₁₀ m₃ g₉ led₃ hg₉ ⟨rfl, hgg, hp1, hp2, hp3, T, kv, tab, sc, scs, u1, u2, ht1, ht2, ht3, lowT', hTd, hTk', hTI, hfold⟩ F hr₁₀
  obtain ⟨v1, hp2⟩ := hp2
  obtain ⟨v2, hp3⟩ := hp3
  refine hR₂ _ _ ?_
  rw [List.drop_of_length_le (by omega)] at hTI hfold
  obtain ⟨hsc, hperm2, muA, muB⟩ := TI.fin (by omega) hf hpi (i := its.size) (by omega) hTI (by rw [hprof]; exact hfold)
  have W₉ : Wd w g₉ := W₇.keeps (hg₈.trans hg₉)
  replace hr₁₀ : Rel s₇ s₁₀ := ⟨fun x => hr₁₀.gens (hr₉.gens (hrG.gens x)), hr₁₀.os.trans (hr₉.os.trans hrG.os)⟩
  -- last
  refine wpAny_execs_cons (wpAny_Assign_Name (wpAny_BinOp (nm (s := s₁₀) F hp2 (nm (s := s₁₀) F ht3 (mul_int ?_ muA)))))
  refine stoR (s0 := s₇) F ⟨hr₁₀.gens, hr₁₀.os⟩ fun s₁₁ hr₁₁ F => ?_
  refine wpAny_execs_cons (wpAny_If (isTrue_or (wpAny_isTrue_Compare1 (nm (s := s₁₁) F ht2 (wpAny_BinOp (nm (s := s₁₁) F hp3 (nm (s := s₁₁) F ht3 (mul_int ?_ muB))))))))
  refine PyProof.Rows.ne_int (wpAny_truthy_bool ?_)
  refine (if_neg (by rw [hsc]; simp)).mpr (isTrue_or (wpAny_isTrue_Compare1 (nm (s := { s₁₁ with toks := _ }) F ht1 ?_)))
  refine dictTwo (s := { s₁₁ with toks := _ }) F W₉ rfl fun s₁₂ b d1 d2 o g₁₂ hr₁₂ lowB hg₁₂ F ho hd1 hd2 => ?_
  refine ne_tables (s := s₁₂) lowT' lowB (hTd.at fun o e => F.keep _ _ (hg₁₂ _ _ e)) (hTk'.mono fun a b x => ⟨x.1, x.2.sub (hg₁₂.trans F.toSub)⟩) hperm2 (Heap.dictOf_iff.mpr ⟨o, F.here, ho⟩) (hd1.sub F.toSub) (hd2.sub F.toSub) (by omega) (wpAny_truthy_bool ?_)
  refine (if_neg Bool.false_ne_true).mpr (isTrue_or_nil ?_)
  refine ite_neg Bool.false_ne_true (wpAny_execs_nil (wpAny_execs_nil ?_))
  have F := F.tail
  rw [← List.append_nil led₃] at F
  exact ⟨⟨fun x => hr₁₂.gens (hr₁₁.gens x), hr₁₂.os.trans hr₁₁.os⟩, _, g₁₂, [], hg₇.trans (hg₈.trans (hg₉.trans hg₁₂)), F, rfl, hg₆'.trans (hg₇.trans (hg₈.trans (hg₉.trans hg₁₂))), hp1, ⟨v1, hp2⟩, ⟨v2, hp3⟩⟩
end Mine
end

section
open PySem PySem.W PySem.Calls PyProof.Rows
namespace Mine
/-! These names stand where the kit would lay its quick copies of the head's parts (each with a long proof that the copy is the part): with the place taken it goes on without them. They say nothing. -/
theorem fin.tw7896837427191650641 : True := trivial
theorem fin.tw4684940682943077961 : True := trivial
theorem fin.tw4312942655851389009 : True := trivial
theorem fin.tw10098057777631523497 : True := trivial
theorem fin.tw9357874355931990178 : True := trivial
theorem fin.tw17933470926392208243 : True := trivial
theorem fin.tw15815952407149668801 : True := trivial
theorem fin.tw2415902012162501839 : True := trivial
theorem fin.tw15344004072050561172 : True := trivial
theorem fin.tw17628183408451194143 : True := trivial
theorem fin.tw9746901515087519452 : True := trivial
theorem fin.tw13177410634674063896 : True := trivial
theorem fin.tw480829909506669009 : True := trivial
theorem fin.tw3314143786362844604 : True := trivial
theorem fin.tw8408514402456403777 : True := trivial
theorem fin.tw12409915417874342407 : True := trivial
theorem fin.tw12740692763255036000 : True := trivial
theorem fin.tw16540275574145912595 : True := trivial
theorem fin.tw11154830654865731599 : True := trivial
theorem fin.tw612862322836996645 : True := trivial
theorem fin.tw15566928917628492161 : True := trivial
theorem fin.tw4759752924163587094 : True := trivial
theorem fin.tw16496857829328116044 : True := trivial
theorem fin.tw8269367382603917829 : True := trivial
theorem fin.tw7055459427971326715 : True := trivial
theorem fin.tw8119881530291889089 : True := trivial
theorem fin.tw13294311002278339166 : True := trivial
theorem fin.tw6381419901266130222 : True := trivial
theorem fin.tw4171678462856256454 : True := trivial
theorem fin.tw11079828417688620724 : True := trivial
theorem fin.tw5293390819737331289 : True := trivial
theorem fin.tw11298980531735778240 : True := trivial
theorem fin.tw13929302177132474383 : True := trivial
theorem fin.tw7380833856163905736 : True := trivial
theorem fin.tw16175276709679454751 : True := trivial
theorem fin.tw2866121171748074186 : True := trivial
theorem fin.tw12180539936304867106 : True := trivial
theorem fin.tw10147658903529517814 : True := trivial
theorem fin.tw12212933522069011988 : True := trivial
theorem fin.tw10874316729293906858 : True := trivial
theorem fin.tw12118000046449163591 : True := trivial
theorem fin.tw14574801432027512755 : True := trivial
theorem fin.tw10895054467252067526 : True := trivial
theorem fin.tw17656766251404061198 : True := trivial
theorem fin.tw13516622038369049944 : True := trivial
theorem fin.tw1963134401048803436 : True := trivial
theorem fin.tw16196181902256332553 : True := trivial
theorem fin.tw8656503046869711584 : True := trivial
theorem fin.tw6081921254191324426 : True := trivial
theorem fin.tw17717364068325071970 : True := trivial
theorem fin.tw15205425988870721313 : True := trivial
theorem fin.tw14517287926952318261 : True := trivial
theorem fin.tw3173534031939492945 : True := trivial
theorem fin.tw7000300075881102575 : True := trivial
theorem fin.tw3975253019698251321 : True := trivial
theorem fin.tw8383268338085895543 : True := trivial
theorem fin.tw16958243865122950064 : True := trivial
theorem fin.tw744865244796547220 : True := trivial
theorem fin.tw15583698165555649274 : True := trivial
theorem fin.tw17067295170570645592 : True := trivial
theorem fin.tw10383673109516279431 : True := trivial
theorem fin.tw14210890002308233579 : True := trivial
theorem fin.tw757079261281740938 : True := trivial
theorem fin.tw10891054232620793217 : True := trivial
theorem fin.tw16407147864228438881 : True := trivial
theorem fin.tw5846108543349505696 : True := trivial
theorem fin.tw17981271138414752243 : True := trivial
theorem fin.tw12812245514280695025 : True := trivial
theorem fin.tw2789392123140438235 : True := trivial
theorem fin.tw16889484823980962733 : True := trivial
theorem fin.tw11112386831996348380 : True := trivial
theorem fin.tw16557315269071840648 : True := trivial
theorem fin.tw15473448878953726420 : True := trivial
theorem fin.tw9462194772922662784 : True := trivial
theorem fin.tw6131478504467597330 : True := trivial
theorem fin.tw3817654288837886093 : True := trivial
theorem fin.tw9643181986401743491 : True := trivial
theorem fin.tw12356374311529923222 : True := trivial
set_option maxRecDepth 100000 in
set_option maxHeartbeats 0 in
set_option Elab.async true in
theorem fin : PySem.Challenge.rw_wf0057_01.Holds := by
  w_on; o_law
  o_head (kHook K0 (nat_lit 2 :: nat_lit 3 :: nat_lit 6 :: nat_lit 22 :: nat_lit 24 :: nat_lit 25 :: nat_lit 27 :: nat_lit 28 :: nat_lit 29 :: nat_lit 31 :: nat_lit 32 :: nat_lit 34 :: nat_lit 35 :: nat_lit 36 :: nat_lit 37 :: nat_lit 38 :: nat_lit 39 :: nat_lit 40 :: nat_lit 43 :: nat_lit 45 :: nat_lit 46 :: nat_lit 48 :: nat_lit 49 :: nat_lit 50 :: nat_lit 52 :: nat_lit 53 :: nat_lit 55 :: nat_lit 56 :: nat_lit 57 :: nat_lit 59 :: nat_lit 60 :: nat_lit 62 :: nat_lit 63 :: nat_lit 64 :: nat_lit 66 :: nat_lit 67 :: nat_lit 69 :: nat_lit 70 :: nat_lit 71 :: nat_lit 73 :: nat_lit 74 :: nat_lit 76 :: nat_lit 77 :: nat_lit 78 :: nat_lit 80 :: nat_lit 81 :: nat_lit 83 :: nat_lit 84 :: nat_lit 85 :: nat_lit 88 :: nat_lit 91 :: nat_lit 92 :: nat_lit 93 :: nat_lit 96 :: nat_lit 97 :: nat_lit 98 :: nat_lit 101 :: nat_lit 102 :: nat_lit 103 :: nat_lit 106 :: nat_lit 107 :: nat_lit 108 :: nat_lit 111 :: nat_lit 112 :: []) (fun _ => by kernel_rfl))
  (case hw => w_witness2)
  intro w s0 s1 mg mb G Y fa o pm cd doc dV kV ho hd hcd hD hmg hg args vals as hpre hlay hrd hwl hlo
  have KX := kIn_of Y
  have TR := topRead_of (Ground.T G)
  have WD : Wd w s1.heap := ⟨KX, _, _, _, _, TR⟩
  have e112 : mg (Str.ofString "law") = some (.ref 112) := mg_of KX TR.g (by k_is)
  have efa : some (Value.ref 112) = some (Value.ref fa) := e112.symm.trans hmg
  injection efa with efa
  injection efa with efa
  subst efa
  clear hd hcd hD hmg ho
  wrow_args hpre hlay hrd hwl hlo
  rename_i hL _ _ _ hI _ h63 _
  have h2 := all2_ints hI
  have h3 := h2.length
  refine law_ok w callerA s1 _ _ _ _ _ WD (by decide +kernel) rfl (by decide +kernel) hL h2 (by rw [List.size_toArray]; omega) fun s' hs' hr' => ?_
  refine ⟨.inl ⟨_, .bool true, [], rfl, raisesW_false ?_, .bool true, ?_, fun h => ⟨.nil, fun _ h => (nomatch h)⟩⟩, .of_keep hs', hr'.os, hr'.gens (.of_eq hg)⟩
  · wrow_none_raised
  · wrow_post
end Mine
end

theorem PySem.Challenge.cw_wf0057_01_holds : PySem.Challenge.rw_wf0057_01.Holds := by
  exact Mine.fin
