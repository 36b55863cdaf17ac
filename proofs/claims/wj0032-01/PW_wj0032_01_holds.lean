import PyProof.Rows.All
import Wide.All
import OpenK.AllK
import Wide.FinOn
import Lean
import PySem.Challenge.RW_wj0032_01
open PySem PySem.W PySem.Calls PyProof.Rows
set_option Elab.async false
set_option maxRecDepth 100000
set_option linter.all false
set_option compiler.extract_closed false
namespace Mine
open Lean in
def mArg (w : String) : MacroM (TSyntax `term) := do
  if w == "?_" then `(?_)
  else if w == "!" then
    let hA := mkIdent `hA
    let f := mkIdent `Ok.hh
    `($f $hA)
  else if w.startsWith "?" then
    let x := mkIdent (← Macro.addMacroScope (w.drop 1).toName)
    `(?$x:ident)
  else return mkIdent w.toName
open Lean in
def mSide (k : String) : MacroM (TSyntax `tactic) := do
  let H := mkIdent `H
  match k with
  | "r" => `(tactic| exact rfl)
  | "d" => `(tactic| decide)
  | "D" => `(tactic| decide +kernel)
  | "m" => `(tactic| tb_rel)
  | "H" => `(tactic| exact $H)
  | "u" => `(tactic| none_booked)
  | "s" => `(tactic| kbo_bools)
  | "k" => `(tactic| kp_flats)
  | "K" => `(tactic| kernel_rfl)
  | "b" => `(tactic| boot_by_name)
  | "i" => `(tactic| (intro _; exact rfl))
  | "j" => `(tactic| (intro _ _ _; exact rfl))
  | "z" => `(tactic| (simp only [List.length_cons, List.length_nil]; decide))
  | "o" => `(tactic| omega)
  | "l" => `(tactic| first | omega | (simp only [List.length_cons, List.length_nil]; omega))
  | "a" => `(tactic| first | omega | (simp only [List.length_cons, List.length_nil, List.length_append]; omega))
  | "S" =>
    let e := mkIdent `sizeLine_eq
    `(tactic| (rw [$e:ident]; first | omega | (simp only [List.length_cons, List.length_nil]; omega)))
  | "M" =>
    let (a, b, c) := (mkIdent `IntMulOk.of_left, mkIdent `IntMulOk.of_right, mkIdent `intBits_le_64)
    `(tactic| first | exact $a ($c (by omega) (by omega)) | exact $b ($c (by omega) (by omega)))
  | "N" =>
    let a := mkIdent `PyProof.noPylong_small
    `(tactic| exact $a (by decide))
  | _ => do
    let mut t ← `(tactic| exact rfl)
    for n in [0:23] do
      let g := mkIdent (("gv_" ++ toString n).toName)
      t ← `(tactic| first | with_reducible exact $g _ | $t:tactic)
    return t
open Lean in
def mAlt (a : String) : MacroM (TSyntax `tactic) := do
  match a.splitOn "|" with
  | [p, q, r] =>
    let w := p.splitOn " "
    let f := mkIdent (w.getD 1 "").toName
    let mut ts : Array (TSyntax `tactic) := #[]
    match w.drop 2 with
    | c :: l =>
      if c.startsWith "c" then
        let ns := ((c.drop 1).toString.splitOn ".").filter (· != "") |>.toArray.map fun x => Syntax.mkNumLit x
        let args ← (l.mapM mArg)
        let args := args.toArray
        ts := ts.push (← `(tactic| with_reducible refine' $f (c := [$ns,*]) $args*))
      else
        let args ← ((c :: l).mapM mArg)
        let args := args.toArray
        if w.head? == some "q" then ts := ts.push (← `(tactic| with_reducible refine' $f $args*))
        else ts := ts.push (← `(tactic| with_reducible refine $f $args*))
    | [] => Macro.throwUnsupported
    for x in q.splitOn " " do
      if x != "" then
        match x.splitOn ":" with
        | [n, k] =>
          let n := mkIdent (← Macro.addMacroScope n.toName)
          let k ← mSide k
          ts := ts.push (← `(tactic| case $n:ident => $k:tactic))
        | _ => Macro.throwUnsupported
    if r != "" then
      let H := mkIdent `H
      let xs := (r.splitOn " ").toArray.map fun x => mkIdent x.toName
      ts := ts.push (← `(tactic| clear $H))
      ts := ts.push (← `(tactic| intro $xs* $H:ident))
    `(tactic| ($[$ts];*))
  | _ => Macro.throwUnsupported
open Lean in
def mFirst (z : TSyntax `tactic) : List String → MacroM (TSyntax `tactic)
  | [] => return z
  | a :: l => do
    let x ← mAlt a
    let y ← mFirst z l
    `(tactic| first | $x:tactic | $y:tactic)
open Lean in
def mAll : List String → MacroM (TSyntax `tactic)
  | [] => Macro.throwUnsupported
  | [a] => mAlt a
  | a :: l => do
    let x ← mAlt a
    let y ← mAll l
    `(tactic| first | $x:tactic | $y:tactic)
section
set_option linter.all false
noncomputable abbrev OL : OpenRow := PySem.Challenge.rw_wj0032_01.row
noncomputable abbrev PW : Program := OL.toRowW.1
noncomputable def nthS (i : Nat) (l : List Stmt) : Stmt := (l.drop i).headD (.Pass ⟨0, 0, 0, 0⟩)
noncomputable def wd (s : Stmt) (k : Arguments → List Stmt → Scope → Frag) : Frag := match s with
  | .FunctionDef _ a b _ _ _ c _ _ _ => k a b c
  | _ => []
noncomputable def clsBody (s : Stmt) : List Stmt := match s with
  | .ClassDef _ _ _ b _ _ _ _ _ _ _ => b
  | _ => []
noncomputable def KC (P : Params) : Frag :=
wd (nthS 1 PW.main.body) fun a0 b0 c0 =>
  wd (nthS 2 PW.main.body) fun a1 b1 c1 =>
  wd (nthS 3 PW.main.body) fun a2 b2 c2 =>
  wd (nthS 4 PW.main.body) fun a3 b3 c3 =>
  wd (nthS 5 PW.main.body) fun a4 b4 c4 =>
  wd (nthS 6 PW.main.body) fun a5 b5 c5 =>
  wd (nthS 8 PW.main.body) fun a6 b6 c6 =>
  wd (nthS 0 (clsBody (nthS 10 PW.main.body))) fun a7 b7 c7 =>
  wd (nthS 1 (clsBody (nthS 10 PW.main.body))) fun a8 b8 c8 =>
  wd (nthS 2 (clsBody (nthS 10 PW.main.body))) fun a9 b9 c9 =>
  wd (nthS 3 (clsBody (nthS 10 PW.main.body))) fun a10 b10 c10 =>
  wd (nthS 63 PW.main.body) fun a11 b11 c11 =>
  wd (nthS 64 PW.main.body) fun a12 b12 c12 =>
  wd (nthS 66 PW.main.body) fun a13 b13 c13 =>
  wd (nthS 67 PW.main.body) fun a14 b14 c14 =>
  wd (nthS 68 PW.main.body) fun a15 b15 c15 =>
  wd (nthS 69 PW.main.body) fun a16 b16 c16 =>
  wd (nthS 70 PW.main.body) fun a17 b17 c17 =>
  wd (nthS 71 PW.main.body) fun a18 b18 c18 =>
  wd (nthS 72 PW.main.body) fun a19 b19 c19 =>
  wd (nthS 73 PW.main.body) fun a20 b20 c20 =>
  wd (nthS 74 PW.main.body) fun a21 b21 c21 =>
  wd (nthS 75 PW.main.body) fun a22 b22 c22 =>
  wd (nthS 76 PW.main.body) fun a23 b23 c23 =>
  [(2, { cls := Value.none, data := Data.dict #[] }),
  (3, { cls := Value.type "dict", data := Data.dict #[{ hash := PyData.keyHash P (Str.ofString "__name__"), key := Value.str (Str.ofString "__name__") 165, val := Value.str (Str.ofString "law_wj0032_01") 523 }, { hash := PyData.keyHash P (Str.ofString "__doc__"), key := Value.str (Str.ofString "__doc__") 166, val := Value.none }, { hash := PyData.keyHash P (Str.ofString "__package__"), key := Value.str (Str.ofString "__package__") 167, val := Value.none }, { hash := PyData.keyHash P (Str.ofString "__loader__"), key := Value.str (Str.ofString "__loader__") 168, val := Value.builtin "__main__.__loader__#opaque" }, { hash := PyData.keyHash P (Str.ofString "__spec__"), key := Value.str (Str.ofString "__spec__") 169, val := Value.none }, { hash := PyData.keyHash P (Str.ofString "__annotations__"), key := Value.str (Str.ofString "__annotations__") 170, val := Value.ref 6 }, { hash := PyData.keyHash P (Str.ofString "__builtins__"), key := Value.str (Str.ofString "__builtins__") 171, val := Value.ref 4 }, { hash := PyData.keyHash P (Str.ofString "__file__"), key := Value.str (Str.ofString "__file__") 173, val := Value.str (Str.ofString "/claim/cut.py") 172 }, { hash := PyData.keyHash P (Str.ofString "__cached__"), key := Value.str (Str.ofString "__cached__") 174, val := Value.none }, { hash := PyData.keyHash P (Str.ofString "add"), key := Value.str (Str.ofString "add") 196, val := Value.ref 21 }, { hash := PyData.keyHash P (Str.ofString "mul"), key := Value.str (Str.ofString "mul") 204, val := Value.ref 28 }, { hash := PyData.keyHash P (Str.ofString "neg"), key := Value.str (Str.ofString "neg") 211, val := Value.ref 35 }, { hash := PyData.keyHash P (Str.ofString "sub"), key := Value.str (Str.ofString "sub") 219, val := Value.ref 42 }, { hash := PyData.keyHash P (Str.ofString "countOf"), key := Value.str (Str.ofString "countOf") 229, val := Value.ref 49 }, { hash := PyData.keyHash P (Str.ofString "delitem"), key := Value.str (Str.ofString "delitem") 237, val := Value.ref 56 }, { hash := PyData.keyHash P (Str.ofString "Int2AP"), key := Value.str (Str.ofString "Int2AP") 249, val := Value.ref 63 }, { hash := PyData.keyHash P (Str.ofString "_netrclex"), key := Value.str (Str.ofString "_netrclex") 309, val := Value.ref 101 }, { hash := PyData.keyHash P (Str.ofString "ENDMARKER"), key := Value.str (Str.ofString "ENDMARKER") 313, val := Value.int 0 312 }, { hash := PyData.keyHash P (Str.ofString "LPAR"), key := Value.str (Str.ofString "LPAR") 315, val := Value.int 7 314 }, { hash := PyData.keyHash P (Str.ofString "RPAR"), key := Value.str (Str.ofString "RPAR") 317, val := Value.int 8 316 }, { hash := PyData.keyHash P (Str.ofString "LSQB"), key := Value.str (Str.ofString "LSQB") 319, val := Value.int 9 318 }, { hash := PyData.keyHash P (Str.ofString "RSQB"), key := Value.str (Str.ofString "RSQB") 321, val := Value.int 10 320 }, { hash := PyData.keyHash P (Str.ofString "COLON"), key := Value.str (Str.ofString "COLON") 323, val := Value.int 11 322 }, { hash := PyData.keyHash P (Str.ofString "COMMA"), key := Value.str (Str.ofString "COMMA") 325, val := Value.int 12 324 }, { hash := PyData.keyHash P (Str.ofString "SEMI"), key := Value.str (Str.ofString "SEMI") 327, val := Value.int 13 326 }, { hash := PyData.keyHash P (Str.ofString "PLUS"), key := Value.str (Str.ofString "PLUS") 329, val := Value.int 14 328 }, { hash := PyData.keyHash P (Str.ofString "MINUS"), key := Value.str (Str.ofString "MINUS") 331, val := Value.int 15 330 }, { hash := PyData.keyHash P (Str.ofString "STAR"), key := Value.str (Str.ofString "STAR") 333, val := Value.int 16 332 }, { hash := PyData.keyHash P (Str.ofString "SLASH"), key := Value.str (Str.ofString "SLASH") 335, val := Value.int 17 334 }, { hash := PyData.keyHash P (Str.ofString "VBAR"), key := Value.str (Str.ofString "VBAR") 337, val := Value.int 18 336 }, { hash := PyData.keyHash P (Str.ofString "AMPER"), key := Value.str (Str.ofString "AMPER") 339, val := Value.int 19 338 }, { hash := PyData.keyHash P (Str.ofString "LESS"), key := Value.str (Str.ofString "LESS") 341, val := Value.int 20 340 }, { hash := PyData.keyHash P (Str.ofString "GREATER"), key := Value.str (Str.ofString "GREATER") 343, val := Value.int 21 342 }, { hash := PyData.keyHash P (Str.ofString "EQUAL"), key := Value.str (Str.ofString "EQUAL") 345, val := Value.int 22 344 }, { hash := PyData.keyHash P (Str.ofString "DOT"), key := Value.str (Str.ofString "DOT") 347, val := Value.int 23 346 }, { hash := PyData.keyHash P (Str.ofString "PERCENT"), key := Value.str (Str.ofString "PERCENT") 349, val := Value.int 24 348 }, { hash := PyData.keyHash P (Str.ofString "LBRACE"), key := Value.str (Str.ofString "LBRACE") 351, val := Value.int 25 350 }, { hash := PyData.keyHash P (Str.ofString "RBRACE"), key := Value.str (Str.ofString "RBRACE") 353, val := Value.int 26 352 }, { hash := PyData.keyHash P (Str.ofString "EQEQUAL"), key := Value.str (Str.ofString "EQEQUAL") 355, val := Value.int 27 354 }, { hash := PyData.keyHash P (Str.ofString "NOTEQUAL"), key := Value.str (Str.ofString "NOTEQUAL") 357, val := Value.int 28 356 }, { hash := PyData.keyHash P (Str.ofString "LESSEQUAL"), key := Value.str (Str.ofString "LESSEQUAL") 359, val := Value.int 29 358 }, { hash := PyData.keyHash P (Str.ofString "GREATEREQUAL"), key := Value.str (Str.ofString "GREATEREQUAL") 361, val := Value.int 30 360 }, { hash := PyData.keyHash P (Str.ofString "TILDE"), key := Value.str (Str.ofString "TILDE") 363, val := Value.int 31 362 }, { hash := PyData.keyHash P (Str.ofString "CIRCUMFLEX"), key := Value.str (Str.ofString "CIRCUMFLEX") 365, val := Value.int 32 364 }, { hash := PyData.keyHash P (Str.ofString "LEFTSHIFT"), key := Value.str (Str.ofString "LEFTSHIFT") 367, val := Value.int 33 366 }, { hash := PyData.keyHash P (Str.ofString "RIGHTSHIFT"), key := Value.str (Str.ofString "RIGHTSHIFT") 369, val := Value.int 34 368 }, { hash := PyData.keyHash P (Str.ofString "DOUBLESTAR"), key := Value.str (Str.ofString "DOUBLESTAR") 371, val := Value.int 35 370 }, { hash := PyData.keyHash P (Str.ofString "PLUSEQUAL"), key := Value.str (Str.ofString "PLUSEQUAL") 373, val := Value.int 36 372 }, { hash := PyData.keyHash P (Str.ofString "MINEQUAL"), key := Value.str (Str.ofString "MINEQUAL") 375, val := Value.int 37 374 }, { hash := PyData.keyHash P (Str.ofString "STAREQUAL"), key := Value.str (Str.ofString "STAREQUAL") 377, val := Value.int 38 376 }, { hash := PyData.keyHash P (Str.ofString "SLASHEQUAL"), key := Value.str (Str.ofString "SLASHEQUAL") 379, val := Value.int 39 378 }, { hash := PyData.keyHash P (Str.ofString "PERCENTEQUAL"), key := Value.str (Str.ofString "PERCENTEQUAL") 381, val := Value.int 40 380 }, { hash := PyData.keyHash P (Str.ofString "AMPEREQUAL"), key := Value.str (Str.ofString "AMPEREQUAL") 383, val := Value.int 41 382 }, { hash := PyData.keyHash P (Str.ofString "VBAREQUAL"), key := Value.str (Str.ofString "VBAREQUAL") 385, val := Value.int 42 384 }, { hash := PyData.keyHash P (Str.ofString "CIRCUMFLEXEQUAL"), key := Value.str (Str.ofString "CIRCUMFLEXEQUAL") 387, val := Value.int 43 386 }, { hash := PyData.keyHash P (Str.ofString "LEFTSHIFTEQUAL"), key := Value.str (Str.ofString "LEFTSHIFTEQUAL") 389, val := Value.int 44 388 }, { hash := PyData.keyHash P (Str.ofString "RIGHTSHIFTEQUAL"), key := Value.str (Str.ofString "RIGHTSHIFTEQUAL") 391, val := Value.int 45 390 }, { hash := PyData.keyHash P (Str.ofString "DOUBLESTAREQUAL"), key := Value.str (Str.ofString "DOUBLESTAREQUAL") 393, val := Value.int 46 392 }, { hash := PyData.keyHash P (Str.ofString "DOUBLESLASH"), key := Value.str (Str.ofString "DOUBLESLASH") 395, val := Value.int 47 394 }, { hash := PyData.keyHash P (Str.ofString "DOUBLESLASHEQUAL"), key := Value.str (Str.ofString "DOUBLESLASHEQUAL") 397, val := Value.int 48 396 }, { hash := PyData.keyHash P (Str.ofString "AT"), key := Value.str (Str.ofString "AT") 399, val := Value.int 49 398 }, { hash := PyData.keyHash P (Str.ofString "ATEQUAL"), key := Value.str (Str.ofString "ATEQUAL") 401, val := Value.int 50 400 }, { hash := PyData.keyHash P (Str.ofString "RARROW"), key := Value.str (Str.ofString "RARROW") 403, val := Value.int 51 402 }, { hash := PyData.keyHash P (Str.ofString "ELLIPSIS"), key := Value.str (Str.ofString "ELLIPSIS") 405, val := Value.int 52 404 }, { hash := PyData.keyHash P (Str.ofString "COLONEQUAL"), key := Value.str (Str.ofString "COLONEQUAL") 407, val := Value.int 53 406 }, { hash := PyData.keyHash P (Str.ofString "EXCLAMATION"), key := Value.str (Str.ofString "EXCLAMATION") 409, val := Value.int 54 408 }, { hash := PyData.keyHash P (Str.ofString "NT_OFFSET"), key := Value.str (Str.ofString "NT_OFFSET") 411, val := Value.int 256 410 }, { hash := PyData.keyHash P (Str.ofString "EXACT_TOKEN_TYPES"), key := Value.str (Str.ofString "EXACT_TOKEN_TYPES") 508, val := Value.ref 106 }, { hash := PyData.keyHash P (Str.ofString "ISNONTERMINAL"), key := Value.str (Str.ofString "ISNONTERMINAL") 515, val := Value.ref 115 }, { hash := PyData.keyHash P (Str.ofString "ISEOF"), key := Value.str (Str.ofString "ISEOF") 522, val := Value.ref 122 }, { hash := PyData.keyHash P (Str.ofString "_law_lexer"), key := Value.str (Str.ofString "_law_lexer") 535, val := Value.ref 129 }, { hash := PyData.keyHash P (Str.ofString "_law_word"), key := Value.str (Str.ofString "_law_word") 542, val := Value.ref 136 }, { hash := PyData.keyHash P (Str.ofString "_law_number"), key := Value.str (Str.ofString "_law_number") 552, val := Value.ref 143 }, { hash := PyData.keyHash P (Str.ofString "_law_page"), key := Value.str (Str.ofString "_law_page") 558, val := Value.ref 148 }, { hash := PyData.keyHash P (Str.ofString "_law_product"), key := Value.str (Str.ofString "_law_product") 569, val := Value.ref 155 }, { hash := PyData.keyHash P (Str.ofString "_law_rest"), key := Value.str (Str.ofString "_law_rest") 575, val := Value.ref 160 }, { hash := PyData.keyHash P (Str.ofString "_law_fall"), key := Value.str (Str.ofString "_law_fall") 581, val := Value.ref 165 }, { hash := PyData.keyHash P (Str.ofString "_law_roots"), key := Value.str (Str.ofString "_law_roots") 587, val := Value.ref 170 }, { hash := PyData.keyHash P (Str.ofString "_law_parts"), key := Value.str (Str.ofString "_law_parts") 601, val := Value.ref 177 }, { hash := PyData.keyHash P (Str.ofString "_law_sign"), key := Value.str (Str.ofString "_law_sign") 612, val := Value.ref 184 }, { hash := PyData.keyHash P (Str.ofString "law"), key := Value.str (Str.ofString "law") 618, val := Value.ref 189 }] 81 }),
  (15, { cls := Value.type "tuple", data := Data.seq #[] }),
  (17, { cls := Value.type "tuple", data := Data.seq #[Value.str (Str.ofString "a") 192, Value.str (Str.ofString "b") 193] }),
  (18, { cls := Value.type "tuple", data := Data.seq #[] }),
  (20, { cls := Value.type "code", data := Data.fields #[Value.str (Str.ofString "add") 189, Value.str (Str.ofString "add") 190, Value.str (Str.ofString "/claim/cut.py") 191, Value.int 2 0, Value.int 2 0, Value.int 0 0, Value.int 0 0, Value.int 3 0, Value.ref 15, Value.bool true, Value.int 181 0, Value.ref 16, Value.none, Value.ref 17, Value.ref 18, Value.ref 19, Value.int 194 0, Value.int 2 0, Value.str (Str.ofString "/claim/cut.py") 195] }),
  (21, { cls := Value.type "function", data := Data.func { name := Str.ofString "add", qualname := Str.ofString "add", params := a0, body := FuncBody.stmts b0, scope := c0, globals := 3, closure := [], defaults := Value.none, kwdefaults := Value.none, pyModule := Value.str (Str.ofString "cpy313.operator") 187, code := Value.ref 20 } }),
  (22, { cls := Value.type "tuple", data := Data.seq #[] }),
  (24, { cls := Value.type "tuple", data := Data.seq #[Value.str (Str.ofString "a") 200, Value.str (Str.ofString "b") 201] }),
  (25, { cls := Value.type "tuple", data := Data.seq #[] }),
  (27, { cls := Value.type "code", data := Data.fields #[Value.str (Str.ofString "mul") 197, Value.str (Str.ofString "mul") 198, Value.str (Str.ofString "/claim/cut.py") 199, Value.int 4 0, Value.int 2 0, Value.int 0 0, Value.int 0 0, Value.int 3 0, Value.ref 22, Value.bool true, Value.int 181 0, Value.ref 23, Value.none, Value.ref 24, Value.ref 25, Value.ref 26, Value.int 202 0, Value.int 4 0, Value.str (Str.ofString "/claim/cut.py") 203] }),
  (28, { cls := Value.type "function", data := Data.func { name := Str.ofString "mul", qualname := Str.ofString "mul", params := a1, body := FuncBody.stmts b1, scope := c0, globals := 3, closure := [], defaults := Value.none, kwdefaults := Value.none, pyModule := Value.str (Str.ofString "cpy313.operator") 187, code := Value.ref 27 } }),
  (29, { cls := Value.type "tuple", data := Data.seq #[] }),
  (31, { cls := Value.type "tuple", data := Data.seq #[Value.str (Str.ofString "a") 208] }),
  (32, { cls := Value.type "tuple", data := Data.seq #[] }),
  (34, { cls := Value.type "code", data := Data.fields #[Value.str (Str.ofString "neg") 205, Value.str (Str.ofString "neg") 206, Value.str (Str.ofString "/claim/cut.py") 207, Value.int 6 0, Value.int 1 0, Value.int 0 0, Value.int 0 0, Value.int 3 0, Value.ref 29, Value.bool true, Value.int 181 0, Value.ref 30, Value.none, Value.ref 31, Value.ref 32, Value.ref 33, Value.int 209 0, Value.int 6 0, Value.str (Str.ofString "/claim/cut.py") 210] }),
  (35, { cls := Value.type "function", data := Data.func { name := Str.ofString "neg", qualname := Str.ofString "neg", params := a2, body := FuncBody.stmts b2, scope := c2, globals := 3, closure := [], defaults := Value.none, kwdefaults := Value.none, pyModule := Value.str (Str.ofString "cpy313.operator") 187, code := Value.ref 34 } }),
  (36, { cls := Value.type "tuple", data := Data.seq #[] }),
  (38, { cls := Value.type "tuple", data := Data.seq #[Value.str (Str.ofString "a") 215, Value.str (Str.ofString "b") 216] }),
  (39, { cls := Value.type "tuple", data := Data.seq #[] }),
  (41, { cls := Value.type "code", data := Data.fields #[Value.str (Str.ofString "sub") 212, Value.str (Str.ofString "sub") 213, Value.str (Str.ofString "/claim/cut.py") 214, Value.int 8 0, Value.int 2 0, Value.int 0 0, Value.int 0 0, Value.int 3 0, Value.ref 36, Value.bool true, Value.int 181 0, Value.ref 37, Value.none, Value.ref 38, Value.ref 39, Value.ref 40, Value.int 217 0, Value.int 8 0, Value.str (Str.ofString "/claim/cut.py") 218] }),
  (42, { cls := Value.type "function", data := Data.func { name := Str.ofString "sub", qualname := Str.ofString "sub", params := a3, body := FuncBody.stmts b3, scope := c0, globals := 3, closure := [], defaults := Value.none, kwdefaults := Value.none, pyModule := Value.str (Str.ofString "cpy313.operator") 187, code := Value.ref 41 } }),
  (43, { cls := Value.type "tuple", data := Data.seq #[] }),
  (45, { cls := Value.type "tuple", data := Data.seq #[Value.str (Str.ofString "a") 223, Value.str (Str.ofString "b") 224, Value.str (Str.ofString "count") 225, Value.str (Str.ofString "i") 226] }),
  (46, { cls := Value.type "tuple", data := Data.seq #[] }),
  (48, { cls := Value.type "code", data := Data.fields #[Value.str (Str.ofString "countOf") 220, Value.str (Str.ofString "countOf") 221, Value.str (Str.ofString "/claim/cut.py") 222, Value.int 10 0, Value.int 2 0, Value.int 0 0, Value.int 0 0, Value.int 3 0, Value.ref 43, Value.bool true, Value.int 181 0, Value.ref 44, Value.none, Value.ref 45, Value.ref 46, Value.ref 47, Value.int 227 0, Value.int 10 0, Value.str (Str.ofString "/claim/cut.py") 228] }),
  (49, { cls := Value.type "function", data := Data.func { name := Str.ofString "countOf", qualname := Str.ofString "countOf", params := a4, body := FuncBody.stmts b4, scope := c4, globals := 3, closure := [], defaults := Value.none, kwdefaults := Value.none, pyModule := Value.str (Str.ofString "cpy313.operator") 187, code := Value.ref 48 } }),
  (50, { cls := Value.type "tuple", data := Data.seq #[] }),
  (52, { cls := Value.type "tuple", data := Data.seq #[Value.str (Str.ofString "a") 233, Value.str (Str.ofString "b") 234] }),
  (53, { cls := Value.type "tuple", data := Data.seq #[] }),
  (55, { cls := Value.type "code", data := Data.fields #[Value.str (Str.ofString "delitem") 230, Value.str (Str.ofString "delitem") 231, Value.str (Str.ofString "/claim/cut.py") 232, Value.int 16 0, Value.int 2 0, Value.int 0 0, Value.int 0 0, Value.int 3 0, Value.ref 50, Value.bool true, Value.int 181 0, Value.ref 51, Value.none, Value.ref 52, Value.ref 53, Value.ref 54, Value.int 235 0, Value.int 16 0, Value.str (Str.ofString "/claim/cut.py") 236] }),
  (56, { cls := Value.type "function", data := Data.func { name := Str.ofString "delitem", qualname := Str.ofString "delitem", params := a5, body := FuncBody.stmts b5, scope := c0, globals := 3, closure := [], defaults := Value.none, kwdefaults := Value.none, pyModule := Value.str (Str.ofString "cpy313.operator") 187, code := Value.ref 55 } }),
  (57, { cls := Value.type "tuple", data := Data.seq #[] }),
  (59, { cls := Value.type "tuple", data := Data.seq #[Value.str (Str.ofString "num") 243, Value.str (Str.ofString "val") 244, Value.str (Str.ofString "AP") 245, Value.str (Str.ofString "mod") 246] }),
  (60, { cls := Value.type "tuple", data := Data.seq #[] }),
  (62, { cls := Value.type "code", data := Data.fields #[Value.str (Str.ofString "Int2AP") 240, Value.str (Str.ofString "Int2AP") 241, Value.str (Str.ofString "/claim/cut.py") 242, Value.int 19 0, Value.int 1 0, Value.int 0 0, Value.int 0 0, Value.int 3 0, Value.ref 57, Value.bool true, Value.int 181 0, Value.ref 58, Value.none, Value.ref 59, Value.ref 60, Value.ref 61, Value.int 247 0, Value.int 19 0, Value.str (Str.ofString "/claim/cut.py") 248] }),
  (63, { cls := Value.type "function", data := Data.func { name := Str.ofString "Int2AP", qualname := Str.ofString "Int2AP", params := a6, body := FuncBody.stmts b6, scope := c6, globals := 3, closure := [], defaults := Value.none, kwdefaults := Value.none, pyModule := Value.str (Str.ofString "cpy313.imaplib") 238, code := Value.ref 62 } }),
  (71, { cls := Value.type "tuple", data := Data.seq #[] }),
  (73, { cls := Value.type "tuple", data := Data.seq #[Value.str (Str.ofString "self") 267, Value.str (Str.ofString "fp") 268] }),
  (74, { cls := Value.type "tuple", data := Data.seq #[] }),
  (76, { cls := Value.type "code", data := Data.fields #[Value.str (Str.ofString "__init__") 264, Value.str (Str.ofString "_netrclex.__init__") 265, Value.str (Str.ofString "/claim/cut.py") 266, Value.int 30 0, Value.int 2 0, Value.int 0 0, Value.int 0 0, Value.int 3 0, Value.ref 71, Value.bool true, Value.int 181 0, Value.ref 72, Value.none, Value.ref 73, Value.ref 74, Value.ref 75, Value.int 269 0, Value.int 30 0, Value.str (Str.ofString "/claim/cut.py") 270] }),
  (77, { cls := Value.type "function", data := Data.func { name := Str.ofString "__init__", qualname := Str.ofString "_netrclex.__init__", params := a7, body := FuncBody.stmts b7, scope := c7, globals := 3, closure := [], defaults := Value.none, kwdefaults := Value.none, pyModule := Value.str (Str.ofString "cpy313.netrc") 250, code := Value.ref 76 } }),
  (78, { cls := Value.type "tuple", data := Data.seq #[] }),
  (80, { cls := Value.type "tuple", data := Data.seq #[Value.str (Str.ofString "self") 275, Value.str (Str.ofString "ch") 276] }),
  (81, { cls := Value.type "tuple", data := Data.seq #[] }),
  (83, { cls := Value.type "code", data := Data.fields #[Value.str (Str.ofString "_read_char") 272, Value.str (Str.ofString "_netrclex._read_char") 273, Value.str (Str.ofString "/claim/cut.py") 274, Value.int 36 0, Value.int 1 0, Value.int 0 0, Value.int 0 0, Value.int 3 0, Value.ref 78, Value.bool true, Value.int 181 0, Value.ref 79, Value.none, Value.ref 80, Value.ref 81, Value.ref 82, Value.int 277 0, Value.int 36 0, Value.str (Str.ofString "/claim/cut.py") 278] }),
  (84, { cls := Value.type "function", data := Data.func { name := Str.ofString "_read_char", qualname := Str.ofString "_netrclex._read_char", params := a8, body := FuncBody.stmts b8, scope := c8, globals := 3, closure := [], defaults := Value.none, kwdefaults := Value.none, pyModule := Value.str (Str.ofString "cpy313.netrc") 250, code := Value.ref 83 } }),
  (85, { cls := Value.type "tuple", data := Data.seq #[] }),
  (87, { cls := Value.type "tuple", data := Data.seq #[Value.str (Str.ofString "self") 283, Value.str (Str.ofString "token") 284, Value.str (Str.ofString "fiter") 285, Value.str (Str.ofString "ch") 286] }),
  (88, { cls := Value.type "tuple", data := Data.seq #[] }),
  (90, { cls := Value.type "code", data := Data.fields #[Value.str (Str.ofString "get_token") 280, Value.str (Str.ofString "_netrclex.get_token") 281, Value.str (Str.ofString "/claim/cut.py") 282, Value.int 42 0, Value.int 1 0, Value.int 0 0, Value.int 0 0, Value.int 3 0, Value.ref 85, Value.bool true, Value.int 181 0, Value.ref 86, Value.none, Value.ref 87, Value.ref 88, Value.ref 89, Value.int 287 0, Value.int 42 0, Value.str (Str.ofString "/claim/cut.py") 288] }),
  (91, { cls := Value.type "function", data := Data.func { name := Str.ofString "get_token", qualname := Str.ofString "_netrclex.get_token", params := a9, body := FuncBody.stmts b9, scope := c9, globals := 3, closure := [], defaults := Value.none, kwdefaults := Value.none, pyModule := Value.str (Str.ofString "cpy313.netrc") 250, code := Value.ref 90 } }),
  (92, { cls := Value.type "tuple", data := Data.seq #[] }),
  (94, { cls := Value.type "tuple", data := Data.seq #[Value.str (Str.ofString "self") 293, Value.str (Str.ofString "token") 294] }),
  (95, { cls := Value.type "tuple", data := Data.seq #[] }),
  (97, { cls := Value.type "code", data := Data.fields #[Value.str (Str.ofString "push_token") 290, Value.str (Str.ofString "_netrclex.push_token") 291, Value.str (Str.ofString "/claim/cut.py") 292, Value.int 69 0, Value.int 2 0, Value.int 0 0, Value.int 0 0, Value.int 3 0, Value.ref 92, Value.bool true, Value.int 181 0, Value.ref 93, Value.none, Value.ref 94, Value.ref 95, Value.ref 96, Value.int 295 0, Value.int 69 0, Value.str (Str.ofString "/claim/cut.py") 296] }),
  (98, { cls := Value.type "function", data := Data.func { name := Str.ofString "push_token", qualname := Str.ofString "_netrclex.push_token", params := a10, body := FuncBody.stmts b10, scope := c10, globals := 3, closure := [], defaults := Value.none, kwdefaults := Value.none, pyModule := Value.str (Str.ofString "cpy313.netrc") 250, code := Value.ref 97 } }),
  (99, { cls := Value.type "tuple", data := Data.seq #[Value.str (Str.ofString "instream") 298, Value.str (Str.ofString "lineno") 299, Value.str (Str.ofString "pushback") 300, Value.str (Str.ofString "whitespace") 301] }),
  (100, { cls := Value.type "dict", data := Data.dict #[{ hash := PyData.keyHash P (Str.ofString "__module__"), key := Value.str (Str.ofString "__module__") 259, val := Value.str (Str.ofString "cpy313.netrc") 250 }, { hash := PyData.keyHash P (Str.ofString "__firstlineno__"), key := Value.str (Str.ofString "__firstlineno__") 263, val := Value.int 28 262 }, { hash := PyData.keyHash P (Str.ofString "__init__"), key := Value.str (Str.ofString "__init__") 271, val := Value.ref 77 }, { hash := PyData.keyHash P (Str.ofString "_read_char"), key := Value.str (Str.ofString "_read_char") 279, val := Value.ref 84 }, { hash := PyData.keyHash P (Str.ofString "get_token"), key := Value.str (Str.ofString "get_token") 289, val := Value.ref 91 }, { hash := PyData.keyHash P (Str.ofString "push_token"), key := Value.str (Str.ofString "push_token") 297, val := Value.ref 98 }, { hash := PyData.keyHash P (Str.ofString "__static_attributes__"), key := Value.str (Str.ofString "__static_attributes__") 302, val := Value.ref 99 }, { hash := PyData.keyHash P (Str.ofString "__dict__"), key := Value.str (Str.ofString "__dict__") 304, val := Value.ref 102 }, { hash := PyData.keyHash P (Str.ofString "__weakref__"), key := Value.str (Str.ofString "__weakref__") 306, val := Value.ref 103 }, { hash := PyData.keyHash P (Str.ofString "__doc__"), key := Value.str (Str.ofString "__doc__") 307, val := Value.none }] 4 }),
  (101, { cls := Value.type "type", data := Data.cls { name := Str.ofString "_netrclex", bases := [Value.type "object"], mro := [Value.ref 101, Value.type "object"], ns := 100, qualname := Str.ofString "_netrclex" }, slots := #[none, none, some (Value.str (Str.ofString "_netrclex") 252), some (Value.str (Str.ofString "_netrclex") 260), some (Value.builtin "object.__new__"), some (Value.bool true)] }),
  (102, { cls := Value.type "getset_descriptor", data := Data.fields #[Value.str (Str.ofString "__dict__") 303, Value.ref 101, Value.builtin "function.__dict__", Value.builtin "function.__dict__#set"] }),
  (103, { cls := Value.type "getset_descriptor", data := Data.fields #[Value.str (Str.ofString "__weakref__") 305, Value.ref 101, Value.builtin "ExceptionGroup.__weakref__", Value.none] }),
  (106, { cls := Value.type "dict", data := Data.dict #[{ hash := PyData.keyHash P (Str.ofString "!"), key := Value.str (Str.ofString "!") 412, val := Value.int 54 408 }, { hash := PyData.keyHash P (Str.ofString "!="), key := Value.str (Str.ofString "!=") 414, val := Value.int 28 356 }, { hash := PyData.keyHash P (Str.ofString "%"), key := Value.str (Str.ofString "%") 416, val := Value.int 24 348 }, { hash := PyData.keyHash P (Str.ofString "%="), key := Value.str (Str.ofString "%=") 418, val := Value.int 40 380 }, { hash := PyData.keyHash P (Str.ofString "&"), key := Value.str (Str.ofString "&") 420, val := Value.int 19 338 }, { hash := PyData.keyHash P (Str.ofString "&="), key := Value.str (Str.ofString "&=") 422, val := Value.int 41 382 }, { hash := PyData.keyHash P (Str.ofString "("), key := Value.str (Str.ofString "(") 424, val := Value.int 7 314 }, { hash := PyData.keyHash P (Str.ofString ")"), key := Value.str (Str.ofString ")") 426, val := Value.int 8 316 }, { hash := PyData.keyHash P (Str.ofString "*"), key := Value.str (Str.ofString "*") 428, val := Value.int 16 332 }, { hash := PyData.keyHash P (Str.ofString "**"), key := Value.str (Str.ofString "**") 430, val := Value.int 35 370 }, { hash := PyData.keyHash P (Str.ofString "**="), key := Value.str (Str.ofString "**=") 432, val := Value.int 46 392 }, { hash := PyData.keyHash P (Str.ofString "*="), key := Value.str (Str.ofString "*=") 434, val := Value.int 38 376 }, { hash := PyData.keyHash P (Str.ofString "+"), key := Value.str (Str.ofString "+") 436, val := Value.int 14 328 }, { hash := PyData.keyHash P (Str.ofString "+="), key := Value.str (Str.ofString "+=") 438, val := Value.int 36 372 }, { hash := PyData.keyHash P (Str.ofString ","), key := Value.str (Str.ofString ",") 440, val := Value.int 12 324 }, { hash := PyData.keyHash P (Str.ofString "-"), key := Value.str (Str.ofString "-") 442, val := Value.int 15 330 }, { hash := PyData.keyHash P (Str.ofString "-="), key := Value.str (Str.ofString "-=") 444, val := Value.int 37 374 }, { hash := PyData.keyHash P (Str.ofString "->"), key := Value.str (Str.ofString "->") 446, val := Value.int 51 402 }, { hash := PyData.keyHash P (Str.ofString "."), key := Value.str (Str.ofString ".") 448, val := Value.int 23 346 }, { hash := PyData.keyHash P (Str.ofString "..."), key := Value.str (Str.ofString "...") 450, val := Value.int 52 404 }, { hash := PyData.keyHash P (Str.ofString "/"), key := Value.str (Str.ofString "/") 452, val := Value.int 17 334 }, { hash := PyData.keyHash P (Str.ofString "//"), key := Value.str (Str.ofString "//") 454, val := Value.int 47 394 }, { hash := PyData.keyHash P (Str.ofString "//="), key := Value.str (Str.ofString "//=") 456, val := Value.int 48 396 }, { hash := PyData.keyHash P (Str.ofString "/="), key := Value.str (Str.ofString "/=") 458, val := Value.int 39 378 }, { hash := PyData.keyHash P (Str.ofString ":"), key := Value.str (Str.ofString ":") 460, val := Value.int 11 322 }, { hash := PyData.keyHash P (Str.ofString ":="), key := Value.str (Str.ofString ":=") 462, val := Value.int 53 406 }, { hash := PyData.keyHash P (Str.ofString ";"), key := Value.str (Str.ofString ";") 464, val := Value.int 13 326 }, { hash := PyData.keyHash P (Str.ofString "<"), key := Value.str (Str.ofString "<") 466, val := Value.int 20 340 }, { hash := PyData.keyHash P (Str.ofString "<<"), key := Value.str (Str.ofString "<<") 468, val := Value.int 33 366 }, { hash := PyData.keyHash P (Str.ofString "<<="), key := Value.str (Str.ofString "<<=") 470, val := Value.int 44 388 }, { hash := PyData.keyHash P (Str.ofString "<="), key := Value.str (Str.ofString "<=") 472, val := Value.int 29 358 }, { hash := PyData.keyHash P (Str.ofString "="), key := Value.str (Str.ofString "=") 474, val := Value.int 22 344 }, { hash := PyData.keyHash P (Str.ofString "=="), key := Value.str (Str.ofString "==") 476, val := Value.int 27 354 }, { hash := PyData.keyHash P (Str.ofString ">"), key := Value.str (Str.ofString ">") 478, val := Value.int 21 342 }, { hash := PyData.keyHash P (Str.ofString ">="), key := Value.str (Str.ofString ">=") 480, val := Value.int 30 360 }, { hash := PyData.keyHash P (Str.ofString ">>"), key := Value.str (Str.ofString ">>") 481, val := Value.int 34 368 }, { hash := PyData.keyHash P (Str.ofString ">>="), key := Value.str (Str.ofString ">>=") 482, val := Value.int 45 390 }, { hash := PyData.keyHash P (Str.ofString "@"), key := Value.str (Str.ofString "@") 483, val := Value.int 49 398 }, { hash := PyData.keyHash P (Str.ofString "@="), key := Value.str (Str.ofString "@=") 484, val := Value.int 50 400 }, { hash := PyData.keyHash P (Str.ofString "["), key := Value.str (Str.ofString "[") 485, val := Value.int 9 318 }, { hash := PyData.keyHash P (Str.ofString "]"), key := Value.str (Str.ofString "]") 486, val := Value.int 10 320 }, { hash := PyData.keyHash P (Str.ofString "^"), key := Value.str (Str.ofString "^") 487, val := Value.int 32 364 }, { hash := PyData.keyHash P (Str.ofString "^="), key := Value.str (Str.ofString "^=") 488, val := Value.int 43 386 }, { hash := PyData.keyHash P (Str.ofString "{"), key := Value.str (Str.ofString "{") 489, val := Value.int 25 350 }, { hash := PyData.keyHash P (Str.ofString "|"), key := Value.str (Str.ofString "|") 490, val := Value.int 18 336 }, { hash := PyData.keyHash P (Str.ofString "|="), key := Value.str (Str.ofString "|=") 491, val := Value.int 42 384 }, { hash := PyData.keyHash P (Str.ofString "}"), key := Value.str (Str.ofString "}") 492, val := Value.int 26 352 }, { hash := PyData.keyHash P (Str.ofString "~"), key := Value.str (Str.ofString "~") 493, val := Value.int 31 362 }] 48 }),
  (109, { cls := Value.type "tuple", data := Data.seq #[] }),
  (111, { cls := Value.type "tuple", data := Data.seq #[Value.str (Str.ofString "x") 512] }),
  (112, { cls := Value.type "tuple", data := Data.seq #[] }),
  (114, { cls := Value.type "code", data := Data.fields #[Value.str (Str.ofString "ISNONTERMINAL") 509, Value.str (Str.ofString "ISNONTERMINAL") 510, Value.str (Str.ofString "/claim/cut.py") 511, Value.int 123 0, Value.int 1 0, Value.int 0 0, Value.int 0 0, Value.int 3 0, Value.ref 109, Value.bool true, Value.int 181 0, Value.ref 110, Value.none, Value.ref 111, Value.ref 112, Value.ref 113, Value.int 513 0, Value.int 123 0, Value.str (Str.ofString "/claim/cut.py") 514] }),
  (115, { cls := Value.type "function", data := Data.func { name := Str.ofString "ISNONTERMINAL", qualname := Str.ofString "ISNONTERMINAL", params := a11, body := FuncBody.stmts b11, scope := c11, globals := 3, closure := [], defaults := Value.none, kwdefaults := Value.none, pyModule := Value.str (Str.ofString "cpy313.token") 310, code := Value.ref 114 } }),
  (116, { cls := Value.type "tuple", data := Data.seq #[] }),
  (118, { cls := Value.type "tuple", data := Data.seq #[Value.str (Str.ofString "x") 519] }),
  (119, { cls := Value.type "tuple", data := Data.seq #[] }),
  (121, { cls := Value.type "code", data := Data.fields #[Value.str (Str.ofString "ISEOF") 516, Value.str (Str.ofString "ISEOF") 517, Value.str (Str.ofString "/claim/cut.py") 518, Value.int 125 0, Value.int 1 0, Value.int 0 0, Value.int 0 0, Value.int 3 0, Value.ref 116, Value.bool true, Value.int 181 0, Value.ref 117, Value.none, Value.ref 118, Value.ref 119, Value.ref 120, Value.int 520 0, Value.int 125 0, Value.str (Str.ofString "/claim/cut.py") 521] }),
  (122, { cls := Value.type "function", data := Data.func { name := Str.ofString "ISEOF", qualname := Str.ofString "ISEOF", params := a12, body := FuncBody.stmts b12, scope := c12, globals := 3, closure := [], defaults := Value.none, kwdefaults := Value.none, pyModule := Value.str (Str.ofString "cpy313.token") 310, code := Value.ref 121 } }),
  (123, { cls := Value.type "tuple", data := Data.seq #[] }),
  (125, { cls := Value.type "tuple", data := Data.seq #[Value.str (Str.ofString "page") 528, Value.str (Str.ofString "_law_read_on") 529, Value.str (Str.ofString "stream") 530] }),
  (126, { cls := Value.type "tuple", data := Data.seq #[Value.str (Str.ofString "page") 531, Value.str (Str.ofString "at") 532] }),
  (128, { cls := Value.type "code", data := Data.fields #[Value.str (Str.ofString "_law_lexer") 525, Value.str (Str.ofString "_law_lexer") 526, Value.str (Str.ofString "/claim/cut.py") 527, Value.int 128 0, Value.int 1 0, Value.int 0 0, Value.int 0 0, Value.int 3 0, Value.ref 123, Value.bool true, Value.int 181 0, Value.ref 124, Value.none, Value.ref 125, Value.ref 126, Value.ref 127, Value.int 533 0, Value.int 128 0, Value.str (Str.ofString "/claim/cut.py") 534] }),
  (129, { cls := Value.type "function", data := Data.func { name := Str.ofString "_law_lexer", qualname := Str.ofString "_law_lexer", params := a13, body := FuncBody.stmts b13, scope := c13, globals := 3, closure := [], defaults := Value.none, kwdefaults := Value.none, pyModule := Value.str (Str.ofString "law_wj0032_01") 523, code := Value.ref 128 } }),
  (130, { cls := Value.type "tuple", data := Data.seq #[] }),
  (132, { cls := Value.type "tuple", data := Data.seq #[Value.str (Str.ofString "number") 539] }),
  (133, { cls := Value.type "tuple", data := Data.seq #[] }),
  (135, { cls := Value.type "code", data := Data.fields #[Value.str (Str.ofString "_law_word") 536, Value.str (Str.ofString "_law_word") 537, Value.str (Str.ofString "/claim/cut.py") 538, Value.int 138 0, Value.int 1 0, Value.int 0 0, Value.int 0 0, Value.int 3 0, Value.ref 130, Value.bool true, Value.int 181 0, Value.ref 131, Value.none, Value.ref 132, Value.ref 133, Value.ref 134, Value.int 540 0, Value.int 138 0, Value.str (Str.ofString "/claim/cut.py") 541] }),
  (136, { cls := Value.type "function", data := Data.func { name := Str.ofString "_law_word", qualname := Str.ofString "_law_word", params := a14, body := FuncBody.stmts b14, scope := c14, globals := 3, closure := [], defaults := Value.none, kwdefaults := Value.none, pyModule := Value.str (Str.ofString "law_wj0032_01") 523, code := Value.ref 135 } }),
  (137, { cls := Value.type "tuple", data := Data.seq #[] }),
  (139, { cls := Value.type "tuple", data := Data.seq #[Value.str (Str.ofString "word") 546, Value.str (Str.ofString "deeds") 547, Value.str (Str.ofString "size") 548, Value.str (Str.ofString "letter") 549] }),
  (140, { cls := Value.type "tuple", data := Data.seq #[] }),
  (142, { cls := Value.type "code", data := Data.fields #[Value.str (Str.ofString "_law_number") 543, Value.str (Str.ofString "_law_number") 544, Value.str (Str.ofString "/claim/cut.py") 545, Value.int 140 0, Value.int 1 0, Value.int 0 0, Value.int 0 0, Value.int 3 0, Value.ref 137, Value.bool true, Value.int 181 0, Value.ref 138, Value.none, Value.ref 139, Value.ref 140, Value.ref 141, Value.int 550 0, Value.int 140 0, Value.str (Str.ofString "/claim/cut.py") 551] }),
  (143, { cls := Value.type "function", data := Data.func { name := Str.ofString "_law_number", qualname := Str.ofString "_law_number", params := a15, body := FuncBody.stmts b15, scope := c15, globals := 3, closure := [], defaults := Value.none, kwdefaults := Value.none, pyModule := Value.str (Str.ofString "law_wj0032_01") 523, code := Value.ref 142 } }),
  (144, { cls := Value.type "tuple", data := Data.seq #[] }),
  (147, { cls := Value.type "code", data := Data.fields #[Value.str (Str.ofString "_law_page") 553, Value.str (Str.ofString "_law_page") 554, Value.str (Str.ofString "/claim/cut.py") 555, Value.int 146 0, Value.int 2 0, Value.int 0 0, Value.int 0 0, Value.int 3 0, Value.ref 144, Value.bool true, Value.int 181 0, Value.ref 145, Value.none, Value.none, Value.none, Value.ref 146, Value.int 556 0, Value.int 146 0, Value.str (Str.ofString "/claim/cut.py") 557] }),
  (148, { cls := Value.type "function", data := Data.func { name := Str.ofString "_law_page", qualname := Str.ofString "_law_page", params := a16, body := FuncBody.stmts b16, scope := c16, globals := 3, closure := [], defaults := Value.none, kwdefaults := Value.none, pyModule := Value.str (Str.ofString "law_wj0032_01") 523, code := Value.ref 147 } }),
  (149, { cls := Value.type "tuple", data := Data.seq #[] }),
  (151, { cls := Value.type "tuple", data := Data.seq #[Value.str (Str.ofString "one") 562, Value.str (Str.ofString "two") 563, Value.str (Str.ofString "row") 564, Value.str (Str.ofString "i") 565, Value.str (Str.ofString "j") 566] }),
  (152, { cls := Value.type "tuple", data := Data.seq #[] }),
  (154, { cls := Value.type "code", data := Data.fields #[Value.str (Str.ofString "_law_product") 559, Value.str (Str.ofString "_law_product") 560, Value.str (Str.ofString "/claim/cut.py") 561, Value.int 158 0, Value.int 2 0, Value.int 0 0, Value.int 0 0, Value.int 3 0, Value.ref 149, Value.bool true, Value.int 181 0, Value.ref 150, Value.none, Value.ref 151, Value.ref 152, Value.ref 153, Value.int 567 0, Value.int 158 0, Value.str (Str.ofString "/claim/cut.py") 568] }),
  (155, { cls := Value.type "function", data := Data.func { name := Str.ofString "_law_product", qualname := Str.ofString "_law_product", params := a17, body := FuncBody.stmts b17, scope := c17, globals := 3, closure := [], defaults := Value.none, kwdefaults := Value.none, pyModule := Value.str (Str.ofString "law_wj0032_01") 523, code := Value.ref 154 } }),
  (156, { cls := Value.type "tuple", data := Data.seq #[] }),
  (159, { cls := Value.type "code", data := Data.fields #[Value.str (Str.ofString "_law_rest") 570, Value.str (Str.ofString "_law_rest") 571, Value.str (Str.ofString "/claim/cut.py") 572, Value.int 164 0, Value.int 2 0, Value.int 0 0, Value.int 0 0, Value.int 3 0, Value.ref 156, Value.bool true, Value.int 181 0, Value.ref 157, Value.none, Value.none, Value.none, Value.ref 158, Value.int 573 0, Value.int 164 0, Value.str (Str.ofString "/claim/cut.py") 574] }),
  (160, { cls := Value.type "function", data := Data.func { name := Str.ofString "_law_rest", qualname := Str.ofString "_law_rest", params := a18, body := FuncBody.stmts b18, scope := c18, globals := 3, closure := [], defaults := Value.none, kwdefaults := Value.none, pyModule := Value.str (Str.ofString "law_wj0032_01") 523, code := Value.ref 159 } }),
  (161, { cls := Value.type "tuple", data := Data.seq #[] }),
  (164, { cls := Value.type "code", data := Data.fields #[Value.str (Str.ofString "_law_fall") 576, Value.str (Str.ofString "_law_fall") 577, Value.str (Str.ofString "/claim/cut.py") 578, Value.int 182 0, Value.int 1 0, Value.int 0 0, Value.int 0 0, Value.int 3 0, Value.ref 161, Value.bool true, Value.int 181 0, Value.ref 162, Value.none, Value.none, Value.none, Value.ref 163, Value.int 579 0, Value.int 182 0, Value.str (Str.ofString "/claim/cut.py") 580] }),
  (165, { cls := Value.type "function", data := Data.func { name := Str.ofString "_law_fall", qualname := Str.ofString "_law_fall", params := a19, body := FuncBody.stmts b19, scope := c19, globals := 3, closure := [], defaults := Value.none, kwdefaults := Value.none, pyModule := Value.str (Str.ofString "law_wj0032_01") 523, code := Value.ref 164 } }),
  (166, { cls := Value.type "tuple", data := Data.seq #[] }),
  (169, { cls := Value.type "code", data := Data.fields #[Value.str (Str.ofString "_law_roots") 582, Value.str (Str.ofString "_law_roots") 583, Value.str (Str.ofString "/claim/cut.py") 584, Value.int 187 0, Value.int 1 0, Value.int 0 0, Value.int 0 0, Value.int 3 0, Value.ref 166, Value.bool true, Value.int 181 0, Value.ref 167, Value.none, Value.none, Value.none, Value.ref 168, Value.int 585 0, Value.int 187 0, Value.str (Str.ofString "/claim/cut.py") 586] }),
  (170, { cls := Value.type "function", data := Data.func { name := Str.ofString "_law_roots", qualname := Str.ofString "_law_roots", params := a20, body := FuncBody.stmts b20, scope := c20, globals := 3, closure := [], defaults := Value.none, kwdefaults := Value.none, pyModule := Value.str (Str.ofString "law_wj0032_01") 523, code := Value.ref 169 } }),
  (171, { cls := Value.type "tuple", data := Data.seq #[] }),
  (173, { cls := Value.type "tuple", data := Data.seq #[Value.str (Str.ofString "root") 591, Value.str (Str.ofString "quad") 592, Value.str (Str.ofString "x") 593, Value.str (Str.ofString "side") 594, Value.str (Str.ofString "inner") 595, Value.str (Str.ofString "e") 596, Value.str (Str.ofString "m") 597, Value.str (Str.ofString "d") 598] }),
  (174, { cls := Value.type "tuple", data := Data.seq #[] }),
  (176, { cls := Value.type "code", data := Data.fields #[Value.str (Str.ofString "_law_parts") 588, Value.str (Str.ofString "_law_parts") 589, Value.str (Str.ofString "/claim/cut.py") 590, Value.int 196 0, Value.int 2 0, Value.int 0 0, Value.int 0 0, Value.int 3 0, Value.ref 171, Value.bool true, Value.int 181 0, Value.ref 172, Value.none, Value.ref 173, Value.ref 174, Value.ref 175, Value.int 599 0, Value.int 196 0, Value.str (Str.ofString "/claim/cut.py") 600] }),
  (177, { cls := Value.type "function", data := Data.func { name := Str.ofString "_law_parts", qualname := Str.ofString "_law_parts", params := a21, body := FuncBody.stmts b21, scope := c21, globals := 3, closure := [], defaults := Value.none, kwdefaults := Value.none, pyModule := Value.str (Str.ofString "law_wj0032_01") 523, code := Value.ref 176 } }),
  (178, { cls := Value.type "tuple", data := Data.seq #[] }),
  (180, { cls := Value.type "tuple", data := Data.seq #[Value.str (Str.ofString "root") 605, Value.str (Str.ofString "quad") 606, Value.str (Str.ofString "even") 607, Value.str (Str.ofString "odd") 608, Value.str (Str.ofString "size") 609] }),
  (181, { cls := Value.type "tuple", data := Data.seq #[] }),
  (183, { cls := Value.type "code", data := Data.fields #[Value.str (Str.ofString "_law_sign") 602, Value.str (Str.ofString "_law_sign") 603, Value.str (Str.ofString "/claim/cut.py") 604, Value.int 200 0, Value.int 2 0, Value.int 0 0, Value.int 0 0, Value.int 3 0, Value.ref 178, Value.bool true, Value.int 181 0, Value.ref 179, Value.none, Value.ref 180, Value.ref 181, Value.ref 182, Value.int 610 0, Value.int 200 0, Value.str (Str.ofString "/claim/cut.py") 611] }),
  (184, { cls := Value.type "function", data := Data.func { name := Str.ofString "_law_sign", qualname := Str.ofString "_law_sign", params := a22, body := FuncBody.stmts b22, scope := c22, globals := 3, closure := [], defaults := Value.none, kwdefaults := Value.none, pyModule := Value.str (Str.ofString "law_wj0032_01") 523, code := Value.ref 183 } }),
  (185, { cls := Value.type "tuple", data := Data.seq #[] }),
  (188, { cls := Value.type "code", data := Data.fields #[Value.str (Str.ofString "law") 613, Value.str (Str.ofString "law") 614, Value.str (Str.ofString "/claim/cut.py") 615, Value.int 204 0, Value.int 1 0, Value.int 0 0, Value.int 0 0, Value.int 3 0, Value.ref 185, Value.bool true, Value.int 181 0, Value.ref 186, Value.none, Value.none, Value.none, Value.ref 187, Value.int 616 0, Value.int 204 0, Value.str (Str.ofString "/claim/cut.py") 617] }),
  (189, { cls := Value.type "function", data := Data.func { name := Str.ofString "law", qualname := Str.ofString "law", params := a23, body := FuncBody.stmts b23, scope := c23, globals := 3, closure := [], defaults := Value.none, kwdefaults := Value.none, pyModule := Value.str (Str.ofString "law_wj0032_01") 523, code := Value.ref 188 } })]
set_option maxHeartbeats 8000000 in
noncomputable def KX : {K : Params → Frag // ∀ P, KC P = K P} := by
  apply Subtype.mk
  intro P
  conv => lhs; whnf

noncomputable def KW : Params → Frag := KX.1
noncomputable def AS : List Addr := [2, 3, 15, 17, 18, 20, 21, 22, 24, 25, 27, 28, 29, 31, 32, 34, 35, 36, 38, 39, 41, 42, 43, 45, 46, 48, 49, 50, 52, 53, 55, 56, 57, 59, 60, 62, 63, 71, 73, 74, 76, 77, 78, 80, 81, 83, 84, 85, 87, 88, 90, 91, 92, 94, 95, 97, 98, 99, 100, 101, 102, 103, 106, 109, 111, 112, 114, 115, 116, 118, 119, 121, 122, 123, 125, 126, 128, 129, 130, 132, 133, 135, 136, 137, 139, 140, 142, 143, 144, 147, 148, 149, 151, 152, 154, 155, 156, 159, 160, 161, 164, 165, 166, 169, 170, 171, 173, 174, 176, 177, 178, 180, 181, 183, 184, 185, 188, 189]
set_option maxHeartbeats 8000000 in
theorem as_ok : ∀ P, AS = (KW P).map (·.1) := fun _ => by kernel_rfl
end
section
set_option linter.all false
noncomputable def VW : Program := view PW ((List.range 77).filter fun i => !([0, 7, 9, 11, 65] : List Nat).contains i)
noncomputable def LS : List Str := ["EXACT_TOKEN_TYPES"]
noncomputable def HK : Hook := kmHook KW AS as_ok [124]
noncomputable def Xt (s : Shared) : Bool := xlAt VW [] s && recOk (RowW.records OL.toRowW) s
theorem left_of {p q : Program} {loose : List Str} {Xt : Shared → Bool} {α : Type} {Yf : Shared → α} {Ya : World → α} {N : Nat} {g0 : Bool} {H₀ : Params → Heap} {d₀ : Drawn} {k₀ : Nat} {m₀ : Nat} {ann : Option Value} {M : Nat}
    (open_ : ∀ w : World, (fencedOpening treeTable p w N).map (fun s => (s.heap, s.gens, s.drawn, s.toks)) = some (H₀ w.params, Array.mk [], d₀, k₀))
    (size : ∀ w : World, ((H₀ w.params).isNs mainGlobals && (Array.mk [] : Array GenState).size == 0, (H₀ w.params).objs.size, (H₀ w.params).nsMap mainGlobals "__annotations__") = (true, m₀, ann))
    (le : Nat.ble M N = true)
    (run : ∀ (w : World) (os : OsState), (topRun treeTable p w m₀ ann M { heap := H₀ w.params, drawn := d₀, toks := k₀, os := os } (topStub p)).map (fun s =>
        ((staticsOk (importedModules p.main.body) (H₀ w.params) s.heap && namesBound p s.heap && gensDone s && laidKept (H₀ w.params) s.heap), openSeen q loose (importedModules p.main.body) Xt g0 s, Yf s)) =
      some (true, openGood q loose, Ya w)) : LeftO p q loose Xt Yf Ya N g0 := fun w => by
  obtain ⟨⟨h, gs, d, k, os⟩, e, e'⟩ := Option.map_eq_some_iff.mp (open_ w)
  obtain ⟨rfl, rfl, rfl, rfl⟩ : h = H₀ w.params ∧ gs = Array.mk [] ∧ d = d₀ ∧ k = k₀ := by simpa using e'
  obtain ⟨z1, z2, z3⟩ : _ ∧ _ ∧ _ := by simpa only [Prod.mk.injEq] using size w
  obtain ⟨s₁, r, l⟩ := Option.map_eq_some_iff.mp (run w os)
  obtain ⟨l1, l2, l3⟩ : _ ∧ _ ∧ _ := by simpa only [Prod.mk.injEq] using l
  have r := topRun_mono (N - M) _ _ _ _ r
  rw [show M + (N - M) = N by have := Nat.le_of_ble_eq_true le; omega] at r
  have t : topFrom treeTable p w N ⟨H₀ w.params, Array.mk [], d, k, os⟩ = some s₁ := by
    unfold topFrom
    dsimp only
    rw [z1, z2, z3]
    refine (congrArg (fun x => Option.bind x _) r).trans ?_
    show (match staticsOk (importedModules p.main.body) (H₀ w.params) s₁.heap && namesBound p s₁.heap && gensDone s₁ && laidKept (H₀ w.params) s₁.heap with | true => _ | false => _) = _
    rw [l1]
  unfold openEnds
  rw [e]
  show (topFrom treeTable p w N _).map _ = _
  rw [t]
  exact congrArg some (Prod.ext l2 l3)
noncomputable def LookQ (w : World) (s : Shared) := ((staticsOk (Fast.tw5923862056798008813 PW.main.body) (boot_heap w.params) s.heap && namesBound PW s.heap && gensDone s && laidKept (boot_heap w.params) s.heap),
  Fast.tw4187177175401517315 VW LS (Fast.tw5923862056798008813 PW.main.body) Xt true s, HK.obs s)
set_option maxHeartbeats 0 in
theorem runF (w : World) (os : OsState) : (Fast.tw14082659384304107361 Fast.tw14364793385576792824 PW (w.withFollow "special-get-raises" false) 11 (some (.ref 6)) 2413 { heap := boot_heap (w.withFollow "special-get-raises" false).params, drawn := boot_drawn, toks := boot_toks, os := os } (topStub PW)).map (LookQ (w.withFollow "special-get-raises" false)) =
    some (true, openGood VW LS, HK.val (w.withFollow "special-get-raises" false)) := by kernel_rfl
set_option maxHeartbeats 0 in
theorem runT (w : World) (os : OsState) : (Fast.tw14082659384304107361 Fast.tw14364793385576792824 PW (w.withFollow "special-get-raises" true) 11 (some (.ref 6)) 2413 { heap := boot_heap (w.withFollow "special-get-raises" true).params, drawn := boot_drawn, toks := boot_toks, os := os } (topStub PW)).map (LookQ (w.withFollow "special-get-raises" true)) =
    some (true, openGood VW LS, HK.val (w.withFollow "special-get-raises" true)) := by kernel_rfl
theorem runA (w : World) : ∀ os : OsState, (topRun treeTable PW w 11 (some (.ref 6)) 2413 { heap := boot_heap w.params, drawn := boot_drawn, toks := boot_toks, os := os } (topStub PW)).map (fun s =>
        ((staticsOk (importedModules PW.main.body) (boot_heap w.params) s.heap && namesBound PW s.heap && gensDone s && laidKept (boot_heap w.params) s.heap), openSeen VW LS (importedModules PW.main.body) Xt true s, HK.obs s)) =
      some (true, openGood VW LS, HK.val w) :=
  byRow2 "special-get-raises" (P := fun w => ∀ os : OsState, (topRun treeTable PW w 11 (some (.ref 6)) 2413 { heap := boot_heap w.params, drawn := boot_drawn, toks := boot_toks, os := os } (topStub PW)).map (fun s =>
        ((staticsOk (importedModules PW.main.body) (boot_heap w.params) s.heap && namesBound PW s.heap && gensDone s && laidKept (boot_heap w.params) s.heap), openSeen VW LS (importedModules PW.main.body) Xt true s, HK.obs s)) =
      some (true, openGood VW LS, HK.val w))
    (fun w os => by rw [Fast.te14082659384304107361, Fast.te14364793385576792824, Fast.te4187177175401517315, Fast.te5923862056798008813]; exact runF w os)
    (fun w os => by rw [Fast.te14082659384304107361, Fast.te14364793385576792824, Fast.te4187177175401517315, Fast.te5923862056798008813]; exact runT w os) w
theorem leftW : LeftO PW VW LS Xt HK.obs HK.val 4912 :=
  left_of (H₀ := boot_heap) (boot_open (by kernel_rfl) (by decide) (fun _ => by kernel_rfl)) (fun w => by kernel_rfl) (by decide) runA
end
section
noncomputable abbrev Cell := Obj → Prop
noncomputable abbrev Led := List (Addr × Cell)

structure St (s₀ : Shared) (B : Heap) (D : Led) (s : Shared) : Prop where
  sh : s.gens = s₀.gens ∧ s.drawn = s₀.drawn ∧ s.os = s₀.os
  keep : ∀ b o, B.get? b = some o → s.heap.get? b = some o
  cell : ∀ p ∈ D, ∃ o, s.heap.get? p.1 = some o ∧ p.2 o
  new : ∀ p ∈ D, B.get? p.1 = none
  nd : (D.map (·.1)).Nodup

noncomputable def NsC (m : Str → Option Value) : Cell := fun o => ∃ es ep, o.data = .dict es ep ∧ StrKeys es ∧ ∀ name, nsFind es name = m name
noncomputable def ListC (vs : List Value) : Cell := fun o => ∃ n, o = { cls := .type "list", dict := none, data := .seq vs.toArray n, slots := #[] }
noncomputable def TupC (vs : List Value) : Cell := fun o => ∃ n, o = { cls := .type "tuple", dict := none, data := .seq vs.toArray n, slots := #[] }
noncomputable def IntsC (ns : List Int) : Cell := fun o => ∃ vs, IntsAre vs ns ∧ ListC vs o
noncomputable def ObjC (o' : Obj) : Cell := fun o => o = o'
noncomputable def LocC (l : List (Str × Value)) : Cell := fun o => ∃ m, NsC m o ∧ ∀ p ∈ l, m p.1 = some p.2

section
variable {s₀ s : Shared} {B : Heap} {D D' : Led} {a : Addr} {P P' : Cell}

theorem ns_iff {h : Heap} {L : Addr} {m : Str → Option Value} : h.Ns L m ↔ ∃ o, h.get? L = some o ∧ NsC m o :=
  ⟨fun ⟨o, es, ep, ho, hd, hk, hf⟩ => ⟨o, ho, es, ep, hd, hk, hf⟩, fun ⟨o, ho, es, ep, hd, hk, hf⟩ => ⟨o, es, ep, ho, hd, hk, hf⟩⟩

theorem St.get (H : St s₀ B D s) (h : (a, P) ∈ D) : ∃ o, s.heap.get? a = some o ∧ P o := H.cell _ h
theorem St.ns {m : Str → Option Value} (H : St s₀ B D s) (h : (a, NsC m) ∈ D) : s.heap.Ns a m := ns_iff.mpr (H.cell _ h)

theorem St.loc {l : List (Str × Value)} (H : St s₀ B D s) (h : (a, LocC l) ∈ D) : ∃ m, s.heap.Ns a m ∧ ∀ p ∈ l, m p.1 = some p.2 := by
  obtain ⟨o, ho, m, hm, hl⟩ := H.cell _ h
  exact ⟨m, ns_iff.mpr ⟨o, ho, hm⟩, hl⟩

theorem St.toks (H : St s₀ B D s) (t : Nat) : St s₀ B D { s with toks := t } := ⟨H.sh, H.keep, H.cell, H.new, H.nd⟩

theorem St.lt (H : St s₀ B D s) (h : (a, P) ∈ D) : a < s.heap.objs.size := let ⟨_, ho, _⟩ := H.cell _ h; Heap.lt_size ho

theorem St.alloc {h' : Heap} {x : Addr} {o : Obj} (H : St s₀ B D s) (hx : x = s.heap.objs.size) (hk : ∀ b o, s.heap.get? b = some o → h'.get? b = some o) (ho : h'.get? x = some o) (hp : P o) :
    St s₀ B ((x, P) :: D) { s with heap := h' } := by
  have hn : B.get? x = none := by
    cases q : B.get? x with
    | none => rfl
    | some o' => exact absurd (Heap.lt_size (H.keep _ _ q)) (by rw [hx]; exact Nat.lt_irrefl _)
  refine ⟨H.sh, fun b o e => hk b o (H.keep b o e), fun p hp' => ?_, fun p hp' => ?_, ?_⟩
  · rcases List.mem_cons.mp hp' with rfl | hp'
    · exact ⟨o, ho, hp⟩
    · obtain ⟨o, ho, hP⟩ := H.cell _ hp'
      exact ⟨o, hk _ _ ho, hP⟩
  · rcases List.mem_cons.mp hp' with rfl | hp'
    · exact hn
    · exact H.new _ hp'
  · rw [List.map_cons]
    refine List.nodup_cons.mpr ⟨fun hm => ?_, H.nd⟩
    obtain ⟨p, hp', e⟩ := List.mem_map.mp hm
    have q := H.lt (a := p.1) (P := p.2) hp'
    have e' : p.1 = x := e
    rw [e', hx] at q
    exact absurd q (Nat.lt_irrefl _)

theorem St.push {o : Obj} (H : St s₀ B D s) (hp : P o) (hf : o.isFreed = false := by rfl) : St s₀ B ((s.heap.objs.size, P) :: D) { s with heap := s.heap.push o } :=
  H.alloc rfl (fun _ _ e => Heap.get?_push_of_some _ e) (Heap.get?_push_size _ hf) hp

theorem St.perm (H : St s₀ B D s) (h : D.Perm D') : St s₀ B D' s :=
  ⟨H.sh, H.keep, fun p hp => H.cell p (h.mem_iff.mpr hp), fun p hp => H.new p (h.mem_iff.mpr hp), (h.map _).nodup_iff.mp H.nd⟩
theorem St.sub (H : St s₀ B D s) (h : D'.Sublist D) : St s₀ B D' s :=
  ⟨H.sh, H.keep, fun p hp => H.cell p (h.subset hp), fun p hp => H.new p (h.subset hp), H.nd.sublist (h.map _)⟩
theorem St.swap {x y : Addr × Cell} (H : St s₀ B (x :: y :: D) s) : St s₀ B (y :: x :: D) s := H.perm (List.Perm.swap ..)

inductive Upd (a : Addr) (P P' : Cell) : Led → Led → Prop
  | here {D : Led} : Upd a P P' ((a, P) :: D) ((a, P') :: D)
  | there {x : Addr × Cell} {D D' : Led} : Upd a P P' D D' → Upd a P P' (x :: D) (x :: D')
theorem Upd.mem (h : Upd a P P' D D') : (a, P) ∈ D := by
  induction h with
  | here => exact .head _
  | there _ ih => exact .tail _ ih
theorem Upd.keys (h : Upd a P P' D D') : D'.map (·.1) = D.map (·.1) := by
  induction h with
  | here => rfl
  | there _ ih => rw [List.map_cons, List.map_cons, ih]
theorem Upd.cases' (h : Upd a P P' D D') : ∀ p ∈ D', p = (a, P') ∨ p ∈ D := by
  induction h with
  | here => intro p hp; rcases List.mem_cons.mp hp with rfl | hp; exact .inl rfl; exact .inr (.tail _ hp)
  | there _ ih =>
    intro p hp
    rcases List.mem_cons.mp hp with rfl | hp
    · exact .inr (.head _)
    · exact (ih p hp).imp id fun q => .tail _ q
theorem Upd.of_mem {D : Led} (h : (a, P) ∈ D) (P' : Cell) : ∃ D', Upd a P P' D D' := by
  induction D with
  | nil => cases h
  | cons x D ih =>
    by_cases e : x = (a, P)
    · subst e; exact ⟨_, .here⟩
    · rcases List.mem_cons.mp h with q | q
      · exact absurd q.symm e
      · obtain ⟨D', h'⟩ := ih q; exact ⟨_, .there h'⟩
theorem key_one {l : Led} (hn : (l.map (·.1)).Nodup) {p q : Addr × Cell} (hp : p ∈ l) (hq : q ∈ l) (e : p.1 = q.1) : p = q := by
  induction l with
  | nil => cases hp
  | cons x l ih =>
    rw [List.map_cons, List.nodup_cons] at hn
    rcases List.mem_cons.mp hp with h1 | h1
    · rcases List.mem_cons.mp hq with h2 | h2
      · rw [h1, h2]
      · exact absurd (by rw [← h1, e]; exact List.mem_map_of_mem h2) hn.1
    · rcases List.mem_cons.mp hq with h2 | h2
      · exact absurd (by rw [← h2, ← e]; exact List.mem_map_of_mem h1) hn.1
      · exact ih hn.2 h1 h2
theorem Upd.off (h : Upd a P P' D D') (hn : (D.map (·.1)).Nodup) : ∀ p ∈ D', p = (a, P') ∨ (p ∈ D ∧ p.1 ≠ a) := by
  induction h with
  | here =>
    intro p hp
    rcases List.mem_cons.mp hp with rfl | hp
    · exact .inl rfl
    · refine .inr ⟨.tail _ hp, fun e => ?_⟩
      rw [List.map_cons, List.nodup_cons] at hn
      have e' : p.1 = a := e
      have hq := List.mem_map_of_mem (f := Prod.fst) hp
      rw [show Prod.fst p = a from e'] at hq
      exact hn.1 hq
  | there h' ih =>
    rename_i x D D'
    intro p hp
    rw [List.map_cons, List.nodup_cons] at hn
    rcases List.mem_cons.mp hp with rfl | hp
    · refine .inr ⟨.head _, fun e => ?_⟩
      exact hn.1 (e ▸ List.mem_map_of_mem h'.mem)
    · exact (ih hn.2 p hp).imp id fun q => ⟨.tail _ q.1, q.2⟩

theorem St.upd {h' : Heap} (H : St s₀ B D s) (U : Upd a P P' D D') (hs : Heap.ExtBut a s.heap h') (ho : ∃ o, h'.get? a = some o ∧ P' o) : St s₀ B D' { s with heap := h' } := by
  have hb : ∀ b o, B.get? b = some o → b ≠ a := fun b o e q => by
    have := H.new (a, P) U.mem
    rw [← q, e] at this; cases this
  refine ⟨H.sh, fun b o e => hs b o (hb b o e) (H.keep b o e), fun p hp => ?_, fun p hp => ?_, by rw [U.keys]; exact H.nd⟩
  · rcases U.off H.nd p hp with rfl | ⟨q, ne⟩
    · exact ho
    · obtain ⟨o, ho, hP⟩ := H.cell _ q
      exact ⟨o, hs _ _ ne ho, hP⟩
  · rcases U.off H.nd p hp with rfl | ⟨q, _⟩
    · exact H.new (a, P) U.mem
    · exact H.new _ q
theorem St.upd' {h' : Heap} (H : St s₀ B D s) (U : Upd a P P' D D') (hs : Heap.SameBut a s.heap h') (ho : ∃ o, h'.get? a = some o ∧ P' o) : St s₀ B D' { s with heap := h' } :=
  H.upd U hs.extBut ho
theorem St.imp (H : St s₀ B D s) (U : Upd a P P' D D') (h : ∀ o, P o → P' o) : St s₀ B D' s := by
  obtain ⟨o, ho, hp⟩ := H.get U.mem
  exact H.upd (h' := s.heap) U (fun _ _ _ e => e) ⟨o, ho, h o hp⟩
theorem St.open_ {α : Sort _} {R : α → Cell} (H : St s₀ B ((a, P) :: D) s) (h : ∀ o, P o → ∃ x, R x o) : ∃ x, St s₀ B ((a, R x) :: D) s := by
  obtain ⟨o, ho, hp⟩ := H.get (.head _)
  obtain ⟨x, hx⟩ := h o hp
  exact ⟨x, H.upd (h' := s.heap) .here (fun _ _ _ e => e) ⟨o, ho, hx⟩⟩
inductive SetL (x : Str) (v : Value) : List (Str × Value) → List (Str × Value) → Prop
  | nil : SetL x v [] [(x, v)]
  | skip {u : Value} {l l' : List (Str × Value)} : SetL x v l l' → SetL x v ((x, u) :: l) l'
  | there {y : Str} {u : Value} {l l' : List (Str × Value)} : y ≠ x → SetL x v l l' → SetL x v ((y, u) :: l) ((y, u) :: l')
theorem SetL.ok {x : Str} {v : Value} {l l' : List (Str × Value)} (h : SetL x v l l') {m : Str → Option Value} (hm : ∀ p ∈ l, m p.1 = some p.2) :
    ∀ p ∈ l', (if p.1 = x then some v else m p.1) = some p.2 := by
  induction h with
  | nil => intro p hp; rw [List.mem_singleton.mp hp]; simp
  | skip _ ih => exact ih fun q hq => hm q (.tail _ hq)
  | there hy _ ih =>
    intro p hp
    rcases List.mem_cons.mp hp with rfl | hp
    · rw [if_neg hy]; exact hm _ (.head _)
    · exact ih (fun q hq => hm q (.tail _ hq)) p hp
end

noncomputable abbrev KF (w : World) : Frag := Mine.KW w.params
theorem gv_0 (w : World) : nsIn (KF w) mainGlobals (Str.ofString "add") = some (some (.ref 21)) := by kernel_rfl
theorem gv_1 (w : World) : nsIn (KF w) mainGlobals (Str.ofString "mul") = some (some (.ref 28)) := by kernel_rfl
theorem gv_2 (w : World) : nsIn (KF w) mainGlobals (Str.ofString "neg") = some (some (.ref 35)) := by kernel_rfl
theorem gv_3 (w : World) : nsIn (KF w) mainGlobals (Str.ofString "sub") = some (some (.ref 42)) := by kernel_rfl
theorem gv_4 (w : World) : nsIn (KF w) mainGlobals (Str.ofString "countOf") = some (some (.ref 49)) := by kernel_rfl
theorem gv_5 (w : World) : nsIn (KF w) mainGlobals (Str.ofString "delitem") = some (some (.ref 56)) := by kernel_rfl
theorem gv_6 (w : World) : nsIn (KF w) mainGlobals (Str.ofString "Int2AP") = some (some (.ref 63)) := by kernel_rfl
theorem gv_7 (w : World) : nsIn (KF w) mainGlobals (Str.ofString "_netrclex") = some (some (.ref 101)) := by kernel_rfl
theorem gv_8 (w : World) : nsIn (KF w) mainGlobals (Str.ofString "ENDMARKER") = some (some (.int 0 312)) := by kernel_rfl
theorem gv_9 (w : World) : nsIn (KF w) mainGlobals (Str.ofString "NT_OFFSET") = some (some (.int 256 410)) := by kernel_rfl
theorem gv_10 (w : World) : nsIn (KF w) mainGlobals (Str.ofString "EXACT_TOKEN_TYPES") = some (some (.ref 106)) := by kernel_rfl
theorem gv_11 (w : World) : nsIn (KF w) mainGlobals (Str.ofString "ISNONTERMINAL") = some (some (.ref 115)) := by kernel_rfl
theorem gv_12 (w : World) : nsIn (KF w) mainGlobals (Str.ofString "ISEOF") = some (some (.ref 122)) := by kernel_rfl
theorem gv_13 (w : World) : nsIn (KF w) mainGlobals (Str.ofString "_law_lexer") = some (some (.ref 129)) := by kernel_rfl
theorem gv_14 (w : World) : nsIn (KF w) mainGlobals (Str.ofString "_law_word") = some (some (.ref 136)) := by kernel_rfl
theorem gv_15 (w : World) : nsIn (KF w) mainGlobals (Str.ofString "_law_number") = some (some (.ref 143)) := by kernel_rfl
theorem gv_16 (w : World) : nsIn (KF w) mainGlobals (Str.ofString "_law_page") = some (some (.ref 148)) := by kernel_rfl
theorem gv_17 (w : World) : nsIn (KF w) mainGlobals (Str.ofString "_law_product") = some (some (.ref 155)) := by kernel_rfl
theorem gv_18 (w : World) : nsIn (KF w) mainGlobals (Str.ofString "_law_rest") = some (some (.ref 160)) := by kernel_rfl
theorem gv_19 (w : World) : nsIn (KF w) mainGlobals (Str.ofString "_law_fall") = some (some (.ref 165)) := by kernel_rfl
theorem gv_20 (w : World) : nsIn (KF w) mainGlobals (Str.ofString "_law_roots") = some (some (.ref 170)) := by kernel_rfl
theorem gv_21 (w : World) : nsIn (KF w) mainGlobals (Str.ofString "_law_parts") = some (some (.ref 177)) := by kernel_rfl
theorem gv_22 (w : World) : nsIn (KF w) mainGlobals (Str.ofString "_law_sign") = some (some (.ref 184)) := by kernel_rfl
structure Base (w : World) (B : Heap) : Prop where
  K : (KF w).In B
  nolimit : B.NoLimit
  names : ∃ mg mb, B.Ns mainGlobals mg ∧ B.Ns builtinsNs mb ∧ ∀ x : Str, x ≠ "__name__" → mb x = bootBuiltins x
  top : ∃ (p : Program) (loose : List Str) (mean : ExcName → Option Value) (mg mb : Str → Option Value), Top p loose mean mg mb B
  code : CodeHd B 128 124
noncomputable def PR : Program := PySem.Challenge.rw_wj0032_01.row.prog
noncomputable def MM (w : World) : Model := model PR w

structure Ok (A : Around) (n : Nat) : Prop where
  hh : A.handled = none
  hd : A.depth + 10 * n + 10 < recursionLimit
  hu : A.units + 100 * n + 100 < cLine
theorem Ok.deeper {A : Around} {n : Nat} (h : Ok A (n + 1)) (env : Env) : Ok (A.deeper env) n :=
  ⟨h.hh, by have := h.hd; show A.depth + 1 + 10 * n + 10 < _; omega, by have := h.hu; show A.units + 3 + 100 * n + 100 < _; omega⟩
theorem Ok.le {A : Around} {n m : Nat} (h : Ok A n) (hd : m ≤ n) : Ok A m := ⟨h.hh, by have := h.hd; omega, by have := h.hu; omega⟩
theorem Ok.room {A : Around} {n : Nat} (h : Ok A n) : A.depth < recursionLimit := by have := h.hd; omega
theorem Ok.units {A : Around} {n : Nat} (h : Ok A n) : A.units < cLine := by have := h.hu; omega

section
variable {w : World} {A : Around} {E : Value → Shared → Prop} {s₀ s : Shared} {B : Heap} {D D' : Led} {a : Addr} {env : Env}

theorem r_local {l : List (Str × Value)} {L : Addr} {x : Str} {pos : Pos} {v : Value} {Q : Value → Shared → Prop} (hL : env.locals = L) (H : St s₀ B ((L, LocC l) :: D) s) (hv : (x, v) ∈ l)
    (hk : env.scope.kind = .function) (hl : env.kindOf x = some .local) (hd : (x == ("__debug__" : Str)) = false) (h : Q v s) : wpAny (MM w) A (eval (.Name x pos) env) Q E s := by
  obtain ⟨m, hm, hl'⟩ := H.loc (.head _)
  exact wpAny_Name (wpAny_loadName_local hk hl (hL ▸ hm) (hl' _ hv) h) hd
theorem r_load {l : List (Str × Value)} {L : Addr} {x : Str} {v : Value} {Q : Value → Shared → Prop} (hL : env.locals = L) (H : St s₀ B ((L, LocC l) :: D) s) (hv : (x, v) ∈ l)
    (hk : env.scope.kind = .function) (hl : env.kindOf x = some .local) (h : Q v s) : wpAny (MM w) A (loadName env x) Q E s := by
  obtain ⟨m, hm, hl'⟩ := H.loc (.head _)
  exact wpAny_loadName_local hk hl (hL ▸ hm) (hl' _ hv) h
theorem r_global {x : Str} {pos : Pos} {v : Value} {Q : Value → Shared → Prop} (G : Base w B) (H : St s₀ B D s) (hv : nsIn (KF w) mainGlobals x = some (some v))
    (hg : env.globals = mainGlobals) (hk : env.scope.kind = .function) (hl : env.kindOf x = some .globalImplicit) (hd : (x == ("__debug__" : Str)) = false) (h : Q v s) : wpAny (MM w) A (eval (.Name x pos) env) Q E s := by
  obtain ⟨mg, mb, h1, h2, h3⟩ := G.names
  exact Name_function_global hk hl (loadGlobal_global (mg := mg) (by rw [hg]; exact h1.keeps H.keep) (mg_of G.K h1 hv) h) hd
theorem r_builtin {x : Str} {pos : Pos} {v : Value} {Q : Value → Shared → Prop} (G : Base w B) (H : St s₀ B D s) (hm : nsIn (KF w) mainGlobals x = some none) (hv : bootBuiltins x = some v)
    (hx : x ≠ ("__name__" : Str)) (hg : env.globals = mainGlobals) (hb : env.builtins = builtinsNs)
    (hk : env.scope.kind = .function) (hl : env.kindOf x = some .globalImplicit) (hd : (x == ("__debug__" : Str)) = false) (h : Q v s) : wpAny (MM w) A (eval (.Name x pos) env) Q E s := by
  obtain ⟨mg, mb, h1, h2, h3⟩ := G.names
  exact Name_function_global hk hl (loadGlobal_builtin (mg := mg) (mb := mb) (by rw [hg]; exact h1.keeps H.keep) (mg_none_of G.K h1 hm) (by rw [hb]; exact h2.keeps H.keep) ((h3 x hx).trans hv) h) hd
theorem r_store {l l' : List (Str × Value)} {L : Addr} {x : Str} {v : Value} {Q : Unit → Shared → Prop} (hL : env.locals = L) (H : St s₀ B ((L, LocC l) :: D) s)
    (hs : SetL x v l l') (hl : env.kindOf x = some .local) (hp : (env.scope.kind == .class || (env.scope.kind == .module && env.locals != env.globals)) = false)
    (h : ∀ s', St s₀ B ((L, LocC l') :: D) s' → Q () s') :
    wpAny (MM w) A (storeName env x v) Q E s := by
  subst hL
  obtain ⟨m, hm, hl'⟩ := H.loc (.head _)
  refine wpAny_storeName_local hl hm (fun h' hn hsb => h _ ((H.upd' .here hsb ?_).toks _)) hp
  obtain ⟨o, ho, hN⟩ := ns_iff.mp hn
  exact ⟨o, ho, _, hN, hs.ok hl'⟩
theorem r_int {i : Int} {k : Nat} {pos : Pos} {Q : Value → Shared → Prop} (H : St s₀ B D s) (h : ∀ t s', St s₀ B D s' → Q (.int i t) s') : wpAny (MM w) A (eval (.Constant (.int i) k pos) env) Q E s :=
  wpAny_Constant_int (h _ _ (H.toks _))
theorem r_str {x : Str} {k : Nat} {pos : Pos} {Q : Value → Shared → Prop} (H : St s₀ B D s) (h : ∀ t s', St s₀ B D s' → Q (.str x t) s') : wpAny (MM w) A (eval (.Constant (.str x) k pos) env) Q E s :=
  Constant_str (h _ _ (H.toks _))
theorem r_nil {Q : Flow → Shared → Prop} (h : Q .next s) : wpAny (MM w) A (execs [] env) Q E s := wpAny_execs_nil h
theorem r_assign {x : Str} {p' pos : Pos} {e : PySem.Expr} {rest : List Stmt} {Q : Flow → Shared → Prop}
    (hs : swapsWith e (some (.Name x p')) pos.line env = pure false)
    (h : wpAny (MM w) A (eval e env) (fun v s₁ => wpAny (MM w) A (storeName env x v) (fun _ s₂ => wpAny (MM w) A (execs rest env) Q E s₂) E s₁) E s) :
    wpAny (MM w) A (execs (.Assign [.Name x p'] e pos :: rest) env) Q E s :=
  wpAny_execs_cons (wpAny_Assign_Name h hs)
theorem r_aug {x : Str} {p' pos : Pos} {op : Operator} {e : PySem.Expr} {rest : List Stmt} {Q : Flow → Shared → Prop}
    (h : wpAny (MM w) A (loadName env x) (fun old s₁ => wpAny (MM w) A (eval e env) (fun v s₂ => wpAny (MM w) A (inplaceOp op old v)
      (fun r s₃ => wpAny (MM w) A (storeName env x r) (fun _ s₄ => wpAny (MM w) A (execs rest env) Q E s₄) E s₃) E s₂) E s₁) E s) :
    wpAny (MM w) A (execs (.AugAssign (.Name x p') op e pos :: rest) env) Q E s := wpAny_execs_cons (wpAny_AugAssign_Name h)
theorem r_ret {e : PySem.Expr} {pos : Pos} {rest : List Stmt} {Q : Flow → Shared → Prop} (h : wpAny (MM w) A (eval e env) (fun v s' => Q (.ret v) s') E s) :
    wpAny (MM w) A (execs (.Return (some e) pos :: rest) env) Q E s := wpAny_execs_cons (wpAny_Return_some h)
noncomputable def Then (w : World) (A : Around) (E : Value → Shared → Prop) (rest : List Stmt) (env : Env) (Q : Flow → Shared → Prop) : Flow → Shared → Prop
  | .next, s' => wpAny (MM w) A (execs rest env) Q E s'
  | f, s' => Q f s'
theorem r_then {rest : List Stmt} {Q : Flow → Shared → Prop} (h : wpAny (MM w) A (execs rest env) Q E s) : Then w A E rest env Q .next s := h
theorem r_thenRet {rest : List Stmt} {v : Value} {Q : Flow → Shared → Prop} (h : Q (.ret v) s) : Then w A E rest env Q (.ret v) s := h
theorem r_if {test : PySem.Expr} {body orelse rest : List Stmt} {pos : Pos} {Q : Flow → Shared → Prop}
    (h : wpAny (MM w) A (isTrue test env (eval test env)) (fun b s₂ => wpAny (MM w) A (execs (if b then body else orelse) env) (Then w A E rest env Q) E s₂) E s) :
    wpAny (MM w) A (execs (.If test body orelse pos :: rest) env) Q E s := by
  refine wpAny_execs_cons (wpAny_If (wpAny_mono h (fun b s₂ q => ?_) fun _ _ q => q))
  cases b <;> exact wpAny_mono q (fun f s' hf => by cases f <;> exact hf) fun _ _ z => z
theorem r_add {x y : Int} {t u : Tok} {Q : Value → Shared → Prop} (H : St s₀ B D s) (h : ∀ t s', St s₀ B D s' → Q (.int (x + y) t) s') : wpAny (MM w) A (binaryOp .Add (.int x t) (.int y u)) Q E s :=
  add_int (h _ _ (H.toks _))
theorem r_sub {x y : Int} {t u : Tok} {Q : Value → Shared → Prop} (H : St s₀ B D s) (h : ∀ t s', St s₀ B D s' → Q (.int (x - y) t) s') : wpAny (MM w) A (binaryOp .Sub (.int x t) (.int y u)) Q E s :=
  PyProof.Rows.sub_int (h _ _ (H.toks _))
theorem r_mul {x y : Int} {t u : Tok} {Q : Value → Shared → Prop} (H : St s₀ B D s) (hm : IntMulOk x y) (h : ∀ t s', St s₀ B D s' → Q (.int (x * y) t) s') : wpAny (MM w) A (binaryOp .Mult (.int x t) (.int y u)) Q E s :=
  PyProof.Rows.mul_int (h _ _ (H.toks _)) hm
theorem r_iadd {x y : Int} {t u : Tok} {Q : Value → Shared → Prop} (H : St s₀ B D s) (h : ∀ t s', St s₀ B D s' → Q (.int (x + y) t) s') : wpAny (MM w) A (inplaceOp .Add (.int x t) (.int y u)) Q E s :=
  wpAny_iadd_int (h _ _ (H.toks _))

theorem lookup_zip : ∀ {ps : List Str} (_ : ps.Nodup) (vs : List Value) {p : Str × Value}, p ∈ ps.zip vs → (ps.zip vs).reverse.lookup p.1 = some p.2
  | [], _, vs, p, h => by simp at h
  | q :: ps, hn, [], p, h => by simp at h
  | q :: ps, hn, v :: vs, p, h => by
    rw [List.nodup_cons] at hn
    rw [List.zip_cons_cons] at h ⊢
    rw [List.reverse_cons, List.lookup_append]
    rcases List.mem_cons.mp h with rfl | h
    · have : ((ps.zip vs).reverse).lookup q = none := by
        rw [List.lookup_eq_none_iff]
        intro r hr
        have := (List.of_mem_zip (List.mem_reverse.mp hr)).1
        have ne : q ≠ r.1 := fun e => hn.1 (e ▸ this)
        simpa using ne
      simp [this]
    · rw [lookup_zip hn.2 vs h]; rfl

theorem r_call {f : Addr} {n : Nat} {name qual : Str} {params : Arguments} {body : List Stmt} {scope : Scope} {dV kV doc pm cdv ct oc : Value} {an od : Option Addr} {osl : Array (Option Value)}
    {args : List Value} {ps : List Str} {Q : Value → Shared → Prop} (G : Base w B) (hA : Ok A (n + 1)) (H : St s₀ B D s)
    (ho : (KF w).lookup f = some ⟨oc, od, .func (fnOf name qual params body scope dV kV doc pm an cdv ct), osl⟩) (hcd : codeIn (KF w) cdv qual = true)
    (hps : params.args.map (·.arg) = ps) (hnd : ps.Nodup)
    (hbind : bindArgs (fnOf name qual params body scope dV kV doc pm an cdv ct) ⟨args, []⟩ = pure ((params.args.map (·.arg)).zip args)) (hcell : ∀ x ∈ scope.names, x.2 ≠ .cell) (hloc : ∀ x ∈ ps, scope.names.lookup x = some .local)
    (hco : scope.isCoroutine = false) (hgen : scope.isGenerator = false) (hk : scope.kind = .function)
    (h : ∀ A' L s', Ok A' n → St s₀ B ((L, LocC (ps.zip args)) :: D) s' →
      wpAny (MM w) A' (execs body (envX qual scope L f cdv [])) (fun fl s' => Q (match fl with | .ret v => v | _ => .none) s') (fun _ _ => False) s') :
    wpAny (MM w) A (call (.ref f) args) Q E s := by
  subst hps
  refine wpAny_call (codeAny_call_def hA.room (H.keep _ _ (G.K _ _ ho)) rfl (G.nolimit.keeps H.keep) ((codeRec_of G.K hcd).keeps H.keep) rfl (BindsTo.of_eq hbind) hcell (fun x hx => hloc x.1 (List.of_mem_zip hx).1) (fun h₀ hns hk₀ => ?_) hco hgen hk)
  obtain ⟨oL, hoL, hN⟩ := ns_iff.mp hns
  have hl : ∀ p ∈ (params.args.map (·.arg)).zip args, ((params.args.map (·.arg)).zip args).reverse.lookup p.1 = some p.2 := fun p hp => lookup_zip hnd _ hp
  have H1 := (H.alloc (P := LocC ((params.args.map (·.arg)).zip args)) rfl hk₀ hoL ⟨_, hN, hl⟩).toks (s.toks + ((params.args.map (·.arg)).zip args).length)
  exact wpAny_mono (h _ _ _ (hA.deeper _) H1) (fun _ _ q => q) fun _ _ q => q.elim
end
end
section
noncomputable def IterL (l : Addr) (i : Nat) : Cell := fun o => o.cls = .type "list_iterator" ∧ o.data = .fields #[.ref l, .int i 0]
noncomputable def RangeC (a b : Int) : Cell := fun o => ∃ t u v, o = { cls := .type "range", dict := none, data := .fields #[.int a t, .int b u, .int 1 v], slots := #[] }
noncomputable def IterR (x left : Int) : Cell := fun o => o = { cls := .type "range_iterator", dict := none, data := .fields #[rawInt x, rawInt left, rawInt 1], slots := #[] }

section
variable {w : World} {A : Around} {E : Value → Shared → Prop} {s₀ s : Shared} {B : Heap} {D D' : Led} {F : Addr × Cell} {a l : Addr} {env : Env}

theorem St.isL {vs : List Value} (H : St s₀ B D s) (h : (l, ListC vs) ∈ D) : ∃ n, IsL s.heap l vs.toArray n := by
  obtain ⟨o, ho, n, rfl⟩ := H.get h
  exact ⟨n, ho⟩
theorem St.isList {vs : List Value} (H : St s₀ B D s) (h : (l, ListC vs) ∈ D) : s.heap.IsList l vs.toArray := let ⟨_, q⟩ := H.isL h; q.isList
theorem St.ints {ns : List Int} (H : St s₀ B D s) (h : (l, IntsC ns) ∈ D) : ∃ vs n, IntsAre vs ns ∧ IsL s.heap l vs.toArray n := by
  obtain ⟨o, ho, vs, hi, n, rfl⟩ := H.get h
  exact ⟨vs, n, hi, ho⟩

theorem r_true {k : Nat} {pos : Pos} {b : Bool} {Q : Value → Shared → Prop} (h : Q (.bool b) s) : wpAny (MM w) A (eval (.Constant (.bool b) k pos) env) Q E s := fun _ _ _ => h
noncomputable def Has (B : Heap) (s : Shared) : Prop := ∀ b o, B.get? b = some o → s.heap.get? b = some o
theorem r_callDef {f : Addr} {o : Obj} {fd : FuncData} {pos : Pos} {e : PySem.Expr} {rest : List PySem.Expr} {Q : Value → Shared → Prop} (G : Base w B) (ho : (KF w).lookup f = some o) (hd : o.data = .func fd)
    (he : starEach (e :: rest) env = (false, eval e env) :: starEach rest env)
    (h : wpAny (MM w) A (spliced (backTo pos (starEach (e :: rest) env))) (fun vs s₁ => Has B s₁ ∧ wpAny (MM w) A (call (.ref f) vs) Q E s₁) E s) :
    wpAny (MM w) A (callWith pos (.ref f) [] (backTo pos (starEach (e :: rest) env)) []) Q E s :=
  callWith_def_at (h' := B) (G.K _ _ ho) hd (wpAny_mono h (fun vs s₁ h₁ => ⟨h₁.1 _ _ (G.K _ _ ho), h₁.2⟩) fun _ _ x => x) he
theorem r_has (H : St s₀ B D s) {P : Prop} (h : P) : Has B s ∧ P := ⟨H.keep, h⟩
theorem r_argC {e : PySem.Expr} {rest : List PySem.Expr} {pos : Pos} {Q : List Value → Shared → Prop} (he : starEach (e :: rest) env = (false, eval e env) :: starEach rest env)
    (h : wpAny (MM w) A (eval e env) (fun v s₁ => wpAny (MM w) A (spliced (backTo pos (starEach rest env))) (fun vs s₂ => Q (v :: vs) s₂) E s₁) E s) :
    wpAny (MM w) A (spliced (backTo pos (starEach (e :: rest) env))) Q E s := spliced_more h he
theorem r_argN {pos : Pos} {Q : List Value → Shared → Prop} (h : Q [] s) : wpAny (MM w) A (spliced (backTo pos (starEach [] env))) Q E s := spliced_none h

theorem r_testCmp {l r : PySem.Expr} {op : CmpOp} {pos : Pos} {whole : Sem Value} {Q : Bool → Shared → Prop} (hm : behindInMarks op r = false)
    (h : wpAny (MM w) A (eval l env) (fun a s₁ => wpAny (MM w) A (eval r env) (fun b s₂ => wpAny (MM w) A (compareOp op a b) (fun c s₃ => wpAny (MM w) A (truthy c) Q E s₃) E s₂) E s₁) E s) :
    wpAny (MM w) A (isTrue (.Compare l [op] [r] pos) env whole) Q E s := wpAny_isTrue_Compare1 h hm
theorem r_testPlain {e : PySem.Expr} {whole : Sem Value} {Q : Bool → Shared → Prop} (he : isTrue e env whole = (do let v ← whole; standAt e.pos; holding [v] (truthy v)))
    (h : wpAny (MM w) A whole (fun v s₁ => wpAny (MM w) A (truthy v) Q E s₁) E s) : wpAny (MM w) A (isTrue e env whole) Q E s := isTrue_plain h he
theorem r_cmp {l r : PySem.Expr} {op : CmpOp} {pos : Pos} {Q : Value → Shared → Prop} (hm : behindInMarks op r = false)
    (h : wpAny (MM w) A (eval l env) (fun a s₁ => wpAny (MM w) A (eval r env) (fun b s₂ => wpAny (MM w) A (compareOp op a b) Q E s₂) E s₁) E s) :
    wpAny (MM w) A (eval (.Compare l [op] [r] pos) env) Q E s := wpAny_Compare1 h hm
theorem r_truthB {b : Bool} {Q : Bool → Shared → Prop} (h : Q b s) : wpAny (MM w) A (truthy (.bool b)) Q E s := wpAny_truthy_bool h
theorem r_truthI {i : Int} {t : Tok} {Q : Bool → Shared → Prop} (h : Q (i != 0) s) : wpAny (MM w) A (truthy (.int i t)) Q E s := PyProof.Rows.truthy_int h

section
variable {x y : Int} {t u : Tok} {Q : Value → Shared → Prop}
theorem r_lt (h : Q (.bool (decide (x < y))) s) : wpAny (MM w) A (compareOp .Lt (.int x t) (.int y u)) Q E s := PyProof.Rows.lt_int h
theorem r_gt (h : Q (.bool (decide (y < x))) s) : wpAny (MM w) A (compareOp .Gt (.int x t) (.int y u)) Q E s := PyProof.Rows.gt_int h
theorem r_ge (h : Q (.bool (decide (y ≤ x))) s) : wpAny (MM w) A (compareOp .GtE (.int x t) (.int y u)) Q E s := PyProof.Rows.ge_int h
theorem r_eq (h : Q (.bool (x == y)) s) : wpAny (MM w) A (compareOp .Eq (.int x t) (.int y u)) Q E s := PyProof.Rows.eq_int h
theorem r_ne (h : Q (.bool (x != y)) s) : wpAny (MM w) A (compareOp .NotEq (.int x t) (.int y u)) Q E s := PyProof.Rows.ne_int h
theorem r_neg (H : St s₀ B D s) (h : ∀ t s', St s₀ B D s' → Q (.int (-x) t) s') : wpAny (MM w) A (unaryOp .USub (.int x t)) Q E s := PyProof.Rows.neg_int (h _ _ (H.toks _))
theorem r_mod (H : St s₀ B D s) (hy : y ≠ 0) (h : ∀ t s', St s₀ B D s' → Q (.int (x.fmod y) t) s') : wpAny (MM w) A (binaryOp .Mod (.int x t) (.int y u)) Q E s := mod_int' hy (h _ _ (H.toks _))
theorem r_div (H : St s₀ B D s) (hy : y ≠ 0) (hp : Builtin.divisionGoesByPylong x y = false) (h : ∀ t s', St s₀ B D s' → Q (.int (x.fdiv y) t) s') : wpAny (MM w) A (binaryOp .FloorDiv (.int x t) (.int y u)) Q E s :=
  floordiv_int hy (h _ _ (H.toks _)) (Or.inl hp)
theorem r_pow {n : Int} (H : St s₀ B D s) (hn : 0 ≤ n) (hsz : (Builtin.Int.intBits x : Int) * n ≤ 2 ^ 27) (h : ∀ t s', St s₀ B D s' → Q (.int (x ^ n.toNat) t) s') : wpAny (MM w) A (binaryOp .Pow (.int x t) (.int n u)) Q E s :=
  PyProof.Rows.pow_int hn hsz (h _ _ (H.toks _))
end

theorem r_newList {vs : List Value} {Q : Value → Shared → Prop} (H : St s₀ B (F :: D) s) (hn : vs.length ≤ sizeLine) (h : ∀ l s', St s₀ B (F :: (l, ListC vs) :: D) s' → Q (.ref l) s') : wpAny (MM w) A (newList vs) Q E s :=
  wpAny_newObj_type (h _ _ (H.push (P := ListC vs) ⟨0, rfl⟩).swap) (by show vs.toArray.size ≤ sizeLine; rw [List.size_toArray]; exact hn)
theorem r_newTup {vs : List Value} {Q : Value → Shared → Prop} (H : St s₀ B (F :: D) s) (hn : vs.length ≤ sizeLine) (h : ∀ l s', St s₀ B (F :: (l, TupC vs) :: D) s' → Q (.ref l) s') : wpAny (MM w) A (newTuple vs) Q E s :=
  wpAny_newObj_type (h _ _ (H.push (P := TupC vs) ⟨0, rfl⟩).swap) (by show vs.toArray.size ≤ sizeLine; rw [List.size_toArray]; exact hn)
theorem r_len {vs : List Value} {Q : Value → Shared → Prop} (H : St s₀ B D s) (hm : (l, ListC vs) ∈ D) (hf : (vs.length : Int) < 2 ^ 63) (h : ∀ t s', St s₀ B D s' → Q (.int vs.length t) s') :
    wpAny (MM w) A (call (.builtin "len") [.ref l]) Q E s :=
  call_len_list (H.isList hm) (by simpa using hf) (by simpa using h _ _ (H.toks _))
theorem r_lenI {ns : List Int} {Q : Value → Shared → Prop} (H : St s₀ B D s) (hm : (l, IntsC ns) ∈ D) (hf : (ns.length : Int) < 2 ^ 63) (h : ∀ t s', St s₀ B D s' → Q (.int ns.length t) s') :
    wpAny (MM w) A (call (.builtin "len") [.ref l]) Q E s := by
  obtain ⟨vs, n, hi, hl⟩ := H.ints hm
  have e : vs.length = ns.length := hi.length
  exact call_len_list hl.isList (by simpa [e] using hf) (by simpa [e] using h _ _ (H.toks _))
theorem r_item {vs : List Value} {value slice : PySem.Expr} {k : Int} {t : Tok} {v : Value} {Q : Value → Shared → Prop} (H : St s₀ B D s) (hm : (l, ListC vs) ∈ D)
    (hs : subscripted slice false (.ref l) (.int k t) = operate [.ref l, .int k t] (getItem (.ref l) (.int k t))) (h0 : 0 ≤ k) (hf : k < 2 ^ 63) (hx : vs[k.toNat]? = some v) (h : Q v s) :
    wpAny (MM w) A (subscriptTail value slice (.ref l) (.int k t)) Q E s :=
  have hl := H.isList hm
  tail_any hl.typeIs slot_list_getitem.lookup (wpAny_getItem_list hl h0 hf (by simpa using hx) h) hs
theorem r_itemI {ns : List Int} {value slice : PySem.Expr} {k : Int} {t : Tok} {n : Int} {Q : Value → Shared → Prop} (H : St s₀ B D s) (hm : (l, IntsC ns) ∈ D)
    (hs : subscripted slice false (.ref l) (.int k t) = operate [.ref l, .int k t] (getItem (.ref l) (.int k t))) (h0 : 0 ≤ k) (hf : k < 2 ^ 63) (hx : ns[k.toNat]? = some n) (h : ∀ t, Q (.int n t) s) :
    wpAny (MM w) A (subscriptTail value slice (.ref l) (.int k t)) Q E s := by
  obtain ⟨vs, c, hi, hl⟩ := H.ints hm
  obtain ⟨t', hv⟩ := hi.get _ _ hx
  exact tail_any hl.isList.typeIs slot_list_getitem.lookup (wpAny_getItem_list hl.isList h0 hf (by simpa using hv) (h _)) hs
theorem r_getI {ns : List Int} {k : Int} {t : Tok} {n : Int} {Q : Value → Shared → Prop} (H : St s₀ B D s) (hm : (l, IntsC ns) ∈ D)
    (h0 : 0 ≤ k) (hf : k < 2 ^ 63) (hx : ns[k.toNat]? = some n) (h : ∀ t, Q (.int n t) s) : wpAny (MM w) A (getItem (.ref l) (.int k t)) Q E s := by
  obtain ⟨vs, c, hi, hl⟩ := H.ints hm
  obtain ⟨t', hv⟩ := hi.get _ _ hx
  exact wpAny_getItem_list hl.isList h0 hf (by simpa using hv) (h _)
end
end
section
section
variable {w : World} {A : Around} {E : Value → Shared → Prop} {s₀ s : Shared} {B : Heap} {D D' : Led} {F : Addr × Cell} {a l : Addr} {env : Env}

theorem St.seqSet {vs vs' : List Value} {n : Nat} {f : Array Value → Array Value} (H : St s₀ B D s) (U : Upd l (ListC vs) (ListC vs') D D') (hl : IsL s.heap l vs.toArray n) (hf : f vs.toArray = vs'.toArray) :
    St s₀ B D' { s with heap := s.heap.update l (Obj.mapSeq f) } := by
  have q := hl.update f
  rw [hf] at q
  exact H.upd' U (Heap.SameBut.update ..) ⟨_, q, _, rfl⟩
theorem St.seqSetI {vs vs' : List Value} {ns ns' : List Int} {n : Nat} {f : Array Value → Array Value} (H : St s₀ B D s) (U : Upd l (IntsC ns) (IntsC ns') D D') (hl : IsL s.heap l vs.toArray n) (hf : f vs.toArray = vs'.toArray)
    (hi : IntsAre vs' ns') : St s₀ B D' { s with heap := s.heap.update l (Obj.mapSeq f) } := by
  have q := hl.update f
  rw [hf] at q
  exact H.upd' U (Heap.SameBut.update ..) ⟨_, q, _, hi, _, rfl⟩

theorem IntsAre.set' : ∀ {vs : List Value} {ns : List Int} (_ : IntsAre vs ns) (k : Nat) (x : Int) (u : Tok), IntsAre (vs.set k (.int x u)) (ns.set k x)
  | _, _, .nil, _, _, _ => .nil
  | _, _, .cons _ _ h, 0, x, u => .cons x u h
  | _, _, .cons n t h, k + 1, x, u => .cons n t (IntsAre.set' h k x u)
theorem IntsAre.tail' : ∀ {vs : List Value} {ns : List Int} (_ : IntsAre vs ns), IntsAre vs.tail ns.tail
  | _, _, .nil => .nil
  | _, _, .cons _ _ h => h
theorem IntsAre.eraseIdx' : ∀ {vs : List Value} {ns : List Int} (_ : IntsAre vs ns) (k : Nat), IntsAre (vs.eraseIdx k) (ns.eraseIdx k)
  | _, _, .nil, _ => .nil
  | _, _, .cons _ _ h, 0 => h
  | _, _, .cons n t h, k + 1 => .cons n t (IntsAre.eraseIdx' h k)
theorem IntsAre.append' : ∀ {vs us : List Value} {ns ms : List Int} (_ : IntsAre vs ns) (_ : IntsAre us ms), IntsAre (vs ++ us) (ns ++ ms)
  | _, _, _, _, .nil, h => h
  | _, _, _, _, .cons n t h, h' => .cons n t (IntsAre.append' h h')

theorem seqIndex_lt {k : Int} {n j : Nat} (h : seqIndex? k n = some j) : j < n := by
  unfold seqIndex? at h
  dsimp only at h
  split at h <;> split at h <;> first | (simp only [Option.some.injEq] at h; rename_i q1 q2; simp only [Bool.and_eq_true, decide_eq_true_eq] at q2; omega) | (cases h)
theorem r_setI {ns : List Int} {k x : Int} {t u : Tok} {Q : Unit → Shared → Prop} (H : St s₀ B D s) (U : Upd l (IntsC ns) (IntsC (ns.set k.toNat x)) D D') (h0 : 0 ≤ k) (hf : k < 2 ^ 63) (hn : k < ns.length)
    (h : ∀ s', St s₀ B D' s' → Q () s') : wpAny (MM w) A (setItem (.ref l) (.int k t) (.int x u)) Q E s := by
  obtain ⟨vs, c, hi, hl⟩ := H.ints U.mem
  have e : vs.length = ns.length := hi.length
  exact ki_setAt (n := c) hl h0 hf (by simpa [e] using hn) (h _ (H.seqSetI U (vs' := vs.set k.toNat (.int x u)) hl (by simp) (IntsAre.set' hi _ _ _)))
theorem r_delI {ns : List Int} {k : Int} {t : Tok} {j : Nat} {Q : Unit → Shared → Prop} (H : St s₀ B D s) (U : Upd l (IntsC ns) (IntsC (ns.eraseIdx j)) D D') (hf : Builtin.List.listFitsIndex k = true) (hk : seqIndex? k ns.length = some j)
    (hz : ns.length ≤ sizeLine) (h : ∀ s', St s₀ B D' s' → Q () s') : wpAny (MM w) A (delItem (.ref l) (.int k t)) Q E s := by
  obtain ⟨vs, c, hi, hl⟩ := H.ints U.mem
  have e : vs.length = ns.length := hi.length
  have hj : j < vs.length := by rw [e]; exact seqIndex_lt hk
  exact PySem.P.delItem_list (n := c) hl hf (by simpa [e] using hk) (h _ (H.seqSetI U (vs' := vs.eraseIdx j) hl (by simp [Array.eraseIdxIfInBounds, hj]) (IntsAre.eraseIdx' hi _))) (by simpa [e] using hz)
theorem r_append {vs : List Value} {x : Value} {Q : Value → Shared → Prop} (H : St s₀ B D s) (U : Upd l (ListC vs) (ListC (vs ++ [x])) D D') (hz : vs.length ≤ sizeLine)
    (h : ∀ s', St s₀ B D' s' → Q .none s') : wpAny (MM w) A (call (.builtin "list.append") [.ref l, x]) Q E s := by
  obtain ⟨n, hl⟩ := H.isL U.mem
  refine wpAny_call_entry slot_list_append hl.isList.typeIs entry_list_append ?_ (args_list_append _ _)
  show wpAny _ _ (updateSeq l (·.push x) >>= fun _ => ret .none) _ _ s
  refine wpAny_bind (wpAny_updateSeq hl rfl (wpAny_pure ⟨.none, rfl, h _ (H.seqSet U hl (by simp))⟩) (by simpa using hz) (by simp; omega))
theorem r_appendI {ns : List Int} {x : Int} {u : Tok} {Q : Value → Shared → Prop} (H : St s₀ B D s) (U : Upd l (IntsC ns) (IntsC (ns ++ [x])) D D') (hz : ns.length ≤ sizeLine)
    (h : ∀ s', St s₀ B D' s' → Q .none s') : wpAny (MM w) A (call (.builtin "list.append") [.ref l, .int x u]) Q E s := by
  obtain ⟨vs, n, hi, hl⟩ := H.ints U.mem
  have e : vs.length = ns.length := hi.length
  refine wpAny_call_entry slot_list_append hl.isList.typeIs entry_list_append ?_ (args_list_append _ _)
  show wpAny _ _ (updateSeq l (·.push (.int x u)) >>= fun _ => ret .none) _ _ s
  refine wpAny_bind (wpAny_updateSeq hl rfl (wpAny_pure ⟨.none, rfl, h _ (H.seqSetI U (vs' := vs ++ [.int x u]) hl (by simp) (IntsAre.append' hi (.cons x u .nil)))⟩) (by simpa [e] using hz) (by simp; omega))
theorem r_pop0 {x : Value} {vs : List Value} {t : Tok} {Q : Value → Shared → Prop} (H : St s₀ B D s) (U : Upd l (ListC (x :: vs)) (ListC vs) D D') (hz : (x :: vs).length ≤ sizeLine)
    (h : ∀ s', St s₀ B D' s' → Q x s') : wpAny (MM w) A (call (.builtin "list.pop") [.ref l, .int 0 t]) Q E s := by
  obtain ⟨n, hl⟩ := H.isL U.mem
  refine call_meets PySem.F.slot_list_pop ⟨_, hl, rfl⟩ PySem.F.entry_list_pop (PySem.F.args_list_pop_2 _ _) (PySem.MeetsSeq.list_pop_at l _ n 0 t 0 x (by decide) ?_ (by simp) (by simpa using hz)) ⟨hl, h _ (H.seqSet U hl ?_)⟩
  · unfold seqIndex?
    simp
  · simp [Array.eraseIdxIfInBounds]
theorem r_listMethod {vs : List Value} {name : Str} {id : String} {pl : Sem Bool} {Q : Value × List Value → Shared → Prop} (H : St s₀ B D s) (hm : (l, ListC vs) ∈ D) (slot : Slot "list" name id) (hty : typeOf (.builtin id) = pure (.type "method_descriptor"))
    (h : Q (.builtin id, [.ref l]) s) : wpAny (MM w) A (getMethod (.ref l) name pl) Q E s := by
  obtain ⟨n, hl⟩ := H.isL hm
  exact getMethod_builtin ⟨_, hl, rfl⟩ PySem.F.plainAttrs_list slot hty (fun a e => by cases e; exact ⟨_, hl, rfl⟩) h
theorem r_listMethodI {ns : List Int} {name : Str} {id : String} {pl : Sem Bool} {Q : Value × List Value → Shared → Prop} (H : St s₀ B D s) (hm : (l, IntsC ns) ∈ D) (slot : Slot "list" name id) (hty : typeOf (.builtin id) = pure (.type "method_descriptor"))
    (h : Q (.builtin id, [.ref l]) s) : wpAny (MM w) A (getMethod (.ref l) name pl) Q E s := by
  obtain ⟨vs, n, hi, hl⟩ := H.ints hm
  exact getMethod_builtin ⟨_, hl, rfl⟩ PySem.F.plainAttrs_list slot hty (fun a e => by cases e; exact ⟨_, hl, rfl⟩) h
theorem r_truthL {vs : List Value} {Q : Bool → Shared → Prop} (H : St s₀ B D s) (hm : (l, ListC vs) ∈ D) (hf : (vs.length : Int) < 2 ^ 63) (h : ∀ s', St s₀ B D s' → Q (!vs.isEmpty) s') : wpAny (MM w) A (truthy (.ref l)) Q E s :=
  wpAny_truthy_list (H.isList hm) (by simpa using hf) (by simpa using h _ (H.toks _))
theorem r_neNil {n : Nat} {ns : List Int} {l2 : Addr} {Q : Value → Shared → Prop} (hA : Ok A n) (H : St s₀ B D s) (hm : (l, IntsC ns) ∈ D) (h2 : (l2, ListC []) ∈ D)
    (h : Q (.bool (!decide (ns = []))) s) : wpAny (MM w) A (compareOp .NotEq (.ref l) (.ref l2)) Q E s := by
  obtain ⟨vs, n, hi, hl⟩ := H.ints hm
  exact ne_intsK hl.isList hi (H.isList h2) .nil (by have := hA.hu; omega) h
theorem r_eqNil {n : Nat} {ns : List Int} {l2 : Addr} {Q : Value → Shared → Prop} (hA : Ok A n) (H : St s₀ B D s) (hm : (l, IntsC ns) ∈ D) (h2 : (l2, ListC []) ∈ D)
    (h : Q (.bool (decide (ns = []))) s) : wpAny (MM w) A (compareOp .Eq (.ref l) (.ref l2)) Q E s := by
  obtain ⟨vs, n, hi, hl⟩ := H.ints hm
  exact eq_intsK hl.isList hi (H.isList h2) .nil (by have := hA.hu; omega) h

theorem r_range1 {n : Int} {t : Tok} {Q : Value → Shared → Prop} (H : St s₀ B (F :: D) s) (h : ∀ r s', St s₀ B (F :: (r, RangeC 0 n) :: D) s' → Q (.ref r) s') : wpAny (MM w) A (call (.type "range") [.int n t]) Q E s :=
  call_range_1 (h _ _ ((H.push (P := RangeC 0 n) (o := { cls := .type "range", data := .fields #[.int 0 s.toks, .int n t, .int 1 (s.toks + 1)] }) ⟨_, _, _, rfl⟩).swap.toks _))
theorem r_range2 {a b : Int} {t u : Tok} {Q : Value → Shared → Prop} (H : St s₀ B (F :: D) s) (h : ∀ r s', St s₀ B (F :: (r, RangeC a b) :: D) s' → Q (.ref r) s') : wpAny (MM w) A (call (.type "range") [.int a t, .int b u]) Q E s :=
  call_range_2 (h _ _ ((H.push (P := RangeC a b) (o := { cls := .type "range", data := .fields #[.int a t, .int b u, .int 1 s.toks] }) ⟨_, _, _, rfl⟩).swap.toks _))

structure Walker (w : World) (it : Addr) (n : Nat) (IC : Nat → Cell) (V : Nat → Value → Prop) (need : Led → Prop) : Prop where
  next : ∀ {s₀ : Shared} {B : Heap} {F : Addr × Cell} {D : Led} {s : Shared} {A : Around} {E : Value → Shared → Prop} {Q : Option Value → Shared → Prop} (i : Nat), i < n → St s₀ B (F :: (it, IC i) :: D) s → need D →
    (∀ v s', V i v → St s₀ B (F :: (it, IC (i + 1)) :: D) s' → Q (some v) s') → wpAny (MM w) A (pyNext (.ref it)) Q E s
  stop : ∀ {s₀ : Shared} {B : Heap} {F : Addr × Cell} {D : Led} {s : Shared} {A : Around} {E : Value → Shared → Prop} {Q : Option Value → Shared → Prop}, A.handled = none → St s₀ B (F :: (it, IC n) :: D) s → need D →
    (∀ s', St s₀ B (F :: D) s' → Q none s') → wpAny (MM w) A (pyNext (.ref it)) Q E s
  self : ∀ {s₀ : Shared} {B : Heap} {F : Addr × Cell} {D : Led} {s : Shared} {A : Around} {E : Value → Shared → Prop} {Q : Value → Shared → Prop} (i : Nat), St s₀ B (F :: (it, IC i) :: D) s → need D →
    Q (.ref it) s → wpAny (MM w) A (pyIter (.ref it)) Q E s
  own : ∀ {s₀ : Shared} {B : Heap} {F : Addr × Cell} {D : Led} {s : Shared} {A : Around} {E : Value → Shared → Prop} {Q : Unit → Shared → Prop} (i : Nat) (target : PySem.Expr) (v : Value), St s₀ B (F :: (it, IC i) :: D) s →
    Q () s → wpAny (MM w) A (letOwnedTupleGo target (.ref it) v) Q E s

theorem own_of {it : Addr} {o : Obj} {T : String} {vs : Array Value} {target : PySem.Expr} {v : Value} {Q : Unit → Shared → Prop} (ho : s.heap.get? it = some o) (hc : o.cls = .type T) (hd : o.data = .fields vs)
    (hT : (["enumerate", "zip", "dict_itemiterator", "dict_reverseitemiterator", "odict_iterator", "itertools.zip_longest", "itertools.pairwise"].contains T) = false) (h : Q () s) :
    wpAny (MM w) A (letOwnedTupleGo target (.ref it) v) Q E s := by
  unfold letOwnedTupleGo
  split
  · split
    · rename_i r a e
      cases e
      refine wpAny_bind (wpAny_load ho ?_)
      rw [hc, hd]
      simp only [hT, Bool.false_and, Bool.false_eq_true, if_false]
      exact wpAny_pure h
    · exact wpAny_pure h
  · split
    · rename_i r a e
      cases e
      refine wpAny_bind (wpAny_load ho ?_)
      rw [hc, hd]
      simp only [hT, Bool.false_and, Bool.false_eq_true, if_false]
      exact wpAny_pure h
    · exact wpAny_pure h
  · exact wpAny_pure h

theorem upd2 {x : Addr × Cell} {P P' : Cell} {D : Led} : Upd a P P' (x :: (a, P) :: D) (x :: (a, P') :: D) := .there .here

theorem St.dropExt {it : Addr} {P : Cell} {h' : Heap} (H : St s₀ B (F :: (it, P) :: D) s) (he : Heap.ExtBut it s.heap h') : St s₀ B (F :: D) { s with heap := h' } := by
  have H2 := H.sub (D' := F :: D) (List.Sublist.cons_cons _ (List.sublist_cons_self _ _))
  refine ⟨H2.sh, fun b o e => he b o ?_ (H2.keep b o e), fun p hp => ?_, H2.new, H2.nd⟩
  · rintro rfl
    have := H.new _ (.tail _ (.head _))
    dsimp only at this
    rw [this] at e; cases e
  · obtain ⟨o, ho, hP⟩ := H2.cell p hp
    refine ⟨o, he _ _ ?_ ho, hP⟩
    have nd := H.nd
    rcases List.mem_cons.mp hp with rfl | hp
    · intro e
      simp only [List.map_cons, List.nodup_cons, List.mem_cons] at nd
      exact nd.1 (.inl e)
    · intro e
      simp only [List.map_cons, List.nodup_cons, List.mem_cons] at nd
      exact nd.2.1 (e ▸ List.mem_map_of_mem hp)

theorem walk_list (l it : Addr) (vs : List Value) : Walker w it vs.length (IterL l) (fun i v => vs[i]? = some v) (fun D => (l, ListC vs) ∈ D) where
  next := fun i hi H hD h => by
    obtain ⟨o, ho, hc, hd⟩ := H.get (.tail _ (.head _))
    have hl := H.isList (.tail _ (.tail _ hD))
    refine wpAny_pyNext_list_item ⟨o, ho, hc, hd⟩ hl (x := vs[i]) (by simp [hi]) fun h' hit hs => h _ _ (by simp [hi]) (H.upd' upd2 hs ?_)
    obtain ⟨o', ho', hc', hd'⟩ := hit
    exact ⟨o', ho', hc', hd'⟩
  stop := fun hh H hD h => by
    obtain ⟨o, ho, hc, hd⟩ := H.get (.tail _ (.head _))
    have hl := H.isList (.tail _ (.tail _ hD))
    exact wpAny_pyNext_list_end hh ⟨o, ho, hc, hd⟩ hl (by simp) fun h' he => h _ (H.dropExt he)
  self := fun i H _ h => by
    obtain ⟨o, ho, hc, hd⟩ := H.get (.tail _ (.head _))
    exact wpAny_pyIter_listiter ⟨o, ho, hc, hd⟩ h
  own := fun i target v H h => by
    obtain ⟨o, ho, hc, hd⟩ := H.get (.tail _ (.head _))
    exact own_of ho hc hd (by decide) h
theorem r_iterList {vs : List Value} {Q : Value → Shared → Prop} (H : St s₀ B (F :: D) s) (hm : (l, ListC vs) ∈ F :: D) (h : ∀ it s', St s₀ B (F :: (it, IterL l 0) :: D) s' → Q (.ref it) s') : wpAny (MM w) A (pyIter (.ref l)) Q E s :=
  wpAny_pyIter_list (H.isList hm) (h _ _ (H.push (P := IterL l 0) ⟨rfl, rfl⟩).swap)

theorem walk_range (it : Addr) (a : Int) (n : Nat) : Walker w it n (fun i => IterR (a + i) ((n : Int) - i)) (fun i v => ∃ t, v = .int (a + i) t) (fun _ => True) where
  next := fun i hi H _ h => by
    obtain ⟨o, ho, rfl⟩ := H.get (.tail _ (.head _))
    refine wpAny_pyNext_range_item ho (by omega) fun h' hit hs => h _ _ ⟨_, rfl⟩ ((H.upd' upd2 hs ⟨_, hit, ?_⟩).toks _)
    show _ = _
    have e1 : a + ((i + 1 : Nat) : Int) = a + i + 1 := by omega
    have e2 : (n : Int) - ((i + 1 : Nat) : Int) = n - i - 1 := by omega
    rw [e1, e2]
  stop := fun hh H _ h => by
    obtain ⟨o, ho, rfl⟩ := H.get (.tail _ (.head _))
    exact wpAny_pyNext_range_end hh ho (by omega) fun h' he => h _ (H.dropExt he)
  self := fun i H _ h => by
    obtain ⟨o, ho, rfl⟩ := H.get (.tail _ (.head _))
    exact wpAny_pyIter_rangeiter ho h
  own := fun i target v H h => by
    obtain ⟨o, ho, rfl⟩ := H.get (.tail _ (.head _))
    exact own_of ho rfl rfl (by decide) h
theorem r_iterRange {r : Addr} {a b : Int} {n : Nat} {Q : Value → Shared → Prop} (H : St s₀ B (F :: D) s) (hm : (r, RangeC a b) ∈ F :: D) (hn : (if a < b then b - a else 0) = (n : Int)) (ha : -(2 ^ 62) ≤ a) (ha' : a < 2 ^ 62) (hb : -(2 ^ 62) ≤ b) (hb' : b < 2 ^ 62)
    (h : ∀ it s', St s₀ B (F :: (it, IterR (a + (0 : Nat)) ((n : Int) - (0 : Nat))) :: D) s' → Q (.ref it) s') : wpAny (MM w) A (pyIter (.ref r)) Q E s := by
  obtain ⟨o, ho, t, u, v, rfl⟩ := H.get hm
  refine wpAny_pyIter_range ho (small_one ha ha' hb hb') (h _ _ ?_)
  rw [rangeSize_one, hn]
  refine (H.push (P := IterR (a + (0 : Nat)) ((n : Int) - (0 : Nat))) ?_).swap
  show _ = _
  simp

theorem r_for {target iter : PySem.Expr} {body rest : List Stmt} {pos : Pos} {Q : Flow → Shared → Prop} (hs : ∀ x, foldedSetIterable iter env x = pure x)
    (h : wpAny (MM w) A (eval iter env) (fun x s₁ => wpAny (MM w) A (pyIter x) (fun it s₂ =>
      codeAny (MM w) A (.forLoop target it body [] env) (fun r s' => match r with | .ok f => Then w A E rest env Q f s' | .error e => cameBackBy (MM w) A env E e s') s₂) E s₁) E s) :
    wpAny (MM w) A (execs (.For target iter body [] pos :: rest) env) Q E s := by
  refine wpAny_execs_cons (wpAny_For (wpAny_mono h (fun x s₁ h₁ => wpAny_mono h₁ (fun it s₂ h₂ => codeAny_mono h₂ fun r s' hr => ?_) fun _ _ z => z) fun _ _ z => z) hs)
  cases r with
  | ok f => cases f <;> exact hr
  | error e => exact hr

theorem codeAny_forLoopO {R : Result → Shared → Prop} {target : PySem.Expr} {it : Value} {body : List Stmt} (I : Nat → Shared → Prop)
    (turn : ∀ n s, I n s → ∀ E', wpAny (MM w) A (pyNext it) (fun r s₁ => match r with
      | none => R (.ok .next) s₁
      | some v => wpAny (MM w) A (letOwnedTupleGo target it v) (fun _ s₁ => wpAny (MM w) A (assign target env v) (fun _ s₂ => wpAny (MM w) A (execs body env) (fun f s₃ => match f with
          | .next | .cont => ∃ m, m < n ∧ I m s₃
          | .brk => R (.ok .next) s₃
          | .ret v => R (.ok (.ret v)) s₃) E' s₂) E' s₁) E' s₁) E' s)
    (n : Nat) (h : I n s) : codeAny (MM w) A (.forLoop target it body [] env) R s := by
  refine codeAny_loop' rfl I (fun n s hI => ?_) n h
  show wpAny _ _ ((forTurn target it body [] env).onRaise (fun x => do noteFrame x env; theTreesLotGoes x)) _ _ s
  refine wpAny_noted ?_
  simp only [forTurn]
  refine wpAny_bind (wpAny_standAt (wpAny_bind (wpAny_onRaise (wpAny_mono (turn n s hI _) (fun r s₁ h₁ => ?_) fun _ _ h' => wpAny_standAt h'))))
  cases r with
  | none => exact wpAny_pure (.inr ⟨rfl, codeAny_block (wpAny_execs_nil h₁)⟩)
  | some v =>
    refine wpAny_bind (wpAny_mono h₁ (fun _ s₁ h₁ => ?_) fun _ _ z => z)
    refine wpAny_bind (wpAny_mono h₁ (fun _ s₂ h₂ => wpAny_bind (wpAny_mono h₂ (fun f s₃ h₃ => ?_) fun _ _ h' => h')) fun _ _ h' => h')
    cases f with
    | next => exact wpAny_pure (.inl ⟨rfl, h₃⟩)
    | cont => exact wpAny_pure (.inl ⟨rfl, h₃⟩)
    | brk => exact wpAny_pure h₃
    | ret v => exact wpAny_pure h₃

noncomputable def TurnEnd (s₀ : Shared) (B : Heap) (it : Addr) (P : Cell) (J : Addr × Cell → Led → Prop) (R : Result → Shared → Prop) : Flow → Shared → Prop
  | .next, s => ∃ F D, St s₀ B (F :: (it, P) :: D) s ∧ J F D
  | .cont, s => ∃ F D, St s₀ B (F :: (it, P) :: D) s ∧ J F D
  | .brk, s => R (.ok .next) s
  | .ret v, s => R (.ok (.ret v)) s
theorem r_forLoop {it : Addr} {n : Nat} {IC : Nat → Cell} {V : Nat → Value → Prop} {need : Led → Prop} {target : PySem.Expr} {body : List Stmt} {R : Result → Shared → Prop} (W : Walker w it n IC V need) (hh : A.handled = none)
    (J : Nat → Addr × Cell → Led → Prop) (hneed : ∀ i F D, J i F D → need D) (H : St s₀ B (F :: (it, IC 0) :: D) s) (hJ : J 0 F D)
    (turn : ∀ i v F D s' E', i < n → V i v → J i F D → St s₀ B (F :: (it, IC (i + 1)) :: D) s' →
      wpAny (MM w) A (assign target env v) (fun _ s₂ => wpAny (MM w) A (execs body env) (TurnEnd s₀ B it (IC (i + 1)) (J (i + 1)) R) E' s₂) E' s')
    (done : ∀ F D s', J n F D → St s₀ B (F :: D) s' → R (.ok .next) s') : codeAny (MM w) A (.forLoop target (.ref it) body [] env) R s := by
  refine codeAny_forLoopO (fun k s' => ∃ i F D, k = n - i ∧ i ≤ n ∧ J i F D ∧ St s₀ B (F :: (it, IC i) :: D) s') ?_ n ⟨0, F, D, rfl, Nat.zero_le _, hJ, H⟩
  rintro k s' ⟨i, F, D, rfl, hi, hJ, H⟩ E'
  by_cases hlt : i < n
  · refine W.next i hlt H (hneed _ _ _ hJ) fun v s₁ hv H₁ => ?_
    refine W.own (i + 1) target v H₁ ?_
    refine wpAny_mono (turn i v F D s₁ E' hlt hv hJ H₁) (fun _ s₂ h₂ => wpAny_mono h₂ (fun f s₃ h₃ => ?_) fun _ _ z => z) fun _ _ z => z
    cases f with
    | next => obtain ⟨F', D', H', hJ'⟩ := h₃; exact ⟨n - (i + 1), by omega, i + 1, F', D', rfl, hlt, hJ', H'⟩
    | cont => obtain ⟨F', D', H', hJ'⟩ := h₃; exact ⟨n - (i + 1), by omega, i + 1, F', D', rfl, hlt, hJ', H'⟩
    | brk => exact h₃
    | ret v => exact h₃
  · have : i = n := by omega
    subst this
    exact W.stop hh H (hneed _ _ _ hJ) fun s₁ H₁ => done F D s₁ hJ H₁
end
end
section
section
variable {w : World} {A : Around} {E : Value → Shared → Prop} {s₀ s : Shared} {B : Heap} {D D' : Led} {F : Addr × Cell} {a l : Addr} {env : Env}

theorem r_assignSub {o i e : PySem.Expr} {p' pos : Pos} {rest : List Stmt} {Q : Flow → Shared → Prop} (hs : swapsWith e (some (.Subscript o i p')) pos.line env = pure false)
    (h : wpAny (MM w) A (eval e env) (fun v s₁ => wpAny (MM w) A (eval o env) (fun ov s₂ => wpAny (MM w) A (eval i env) (fun iv s₃ => wpAny (MM w) A (setItem ov iv v) (fun _ s₄ => wpAny (MM w) A (execs rest env) Q E s₄) E s₃) E s₂) E s₁) E s) :
    wpAny (MM w) A (execs (.Assign [.Subscript o i p'] e pos :: rest) env) Q E s := wpAny_execs_cons (wpAny_Assign_Subscript h hs)
theorem r_delSub {o i : PySem.Expr} {p' pos : Pos} {rest : List Stmt} {Q : Flow → Shared → Prop}
    (h : wpAny (MM w) A (eval o env) (fun ov s₂ => wpAny (MM w) A (eval i env) (fun iv s₃ => wpAny (MM w) A (delItem ov iv) (fun _ s₄ => wpAny (MM w) A (execs rest env) Q E s₄) E s₃) E s₂) E s) :
    wpAny (MM w) A (execs (.Delete [.Subscript o i p'] pos :: rest) env) Q E s := by
  refine wpAny_execs_cons (wpAny_Delete ?_)
  rw [arm_deleteEach_cons, arm_delete_Subscript]
  refine wpAny_bind (wpAny_bind (wpAny_mono h (fun ov s₂ h₂ => wpAny_bind (wpAny_holding (wpAny_mono h₂ (fun iv s₃ h₃ => ?_) fun _ _ z => z))) fun _ _ z => z))
  refine wpAny_bind (wpAny_standAt (wpAny_bind (wpAny_holding (wpAny_mono h₃ (fun _ s₄ h₄ => ?_) fun _ _ z => z))))
  have h₅ : wpAny (MM w) A (deleteEach [] env) (fun _ s₁ => wpAny (MM w) A (execs rest env) Q E s₁) E s₄ := wpAny_pure h₄
  intro Γ p hΓ
  rw [Sem.wp_release]
  exact h₅
theorem r_exprNone {e : PySem.Expr} {pos : Pos} {rest : List Stmt} {Q : Flow → Shared → Prop} (hi : interactive env = false) (hs : swapsWith e none pos.line env = pure false)
    (h : wpAny (MM w) A (eval e env) (fun v s' => v = .none ∧ wpAny (MM w) A (execs rest env) Q E s') E s) : wpAny (MM w) A (execs (.Expr e pos :: rest) env) Q E s := by
  refine wpAny_execs_cons (wpAny_Expr (wpAny_mono h (fun v s' h' => ?_) fun _ _ z => z) hi hs)
  obtain ⟨rfl, h'⟩ := h'
  exact h'
theorem r_while {test : PySem.Expr} {body rest : List Stmt} {pos : Pos} {Q : Flow → Shared → Prop} (I : Nat → Shared → Prop)
    (turn : ∀ n s, I n s → ∀ E', wpAny (MM w) A (isTrue test env (eval test env)) (fun b s₂ =>
        if b then wpAny (MM w) A (execs body env) (fun f s₃ => match f with
            | .next | .cont => ∃ m, m < n ∧ I m s₃
            | .brk => wpAny (MM w) A (execs rest env) Q E s₃
            | .ret v => Q (.ret v) s₃) E' s₂
        else wpAny (MM w) A (execs rest env) Q E s₂) E' s)
    (n : Nat) (h : I n s) : wpAny (MM w) A (execs (.While test body [] pos :: rest) env) Q E s := by
  refine wpAny_execs_cons (wpAny_While (codeAny_whileLoop I (fun n s hI => wpAny_mono (turn n s hI _) (fun b s₂ h₂ => ?_) fun _ _ z => z) n h))
  cases b with
  | true =>
    simp only [if_true] at h₂ ⊢
    refine wpAny_mono h₂ (fun f s₃ h₃ => ?_) fun _ _ z => z
    cases f <;> exact h₃
  | false =>
    simp only [Bool.false_eq_true, if_false] at h₂ ⊢
    exact wpAny_execs_nil h₂
theorem r_assignName {x : Str} {p : Pos} {v : Value} {Q : Unit → Shared → Prop} (h : wpAny (MM w) A (storeName env x v) Q E s) : wpAny (MM w) A (assign (.Name x p) env v) Q E s := wpAny_assign_Name h
theorem turn_next {it : Addr} {P : Cell} {J : Addr × Cell → Led → Prop} {R : Result → Shared → Prop} (H : St s₀ B (F :: (it, P) :: D) s) (h : J F D) : TurnEnd s₀ B it P J R .next s := ⟨F, D, H, h⟩
theorem foldl_rep (v : Value) : ∀ (k : Nat) (acc : Array Value), List.foldl (fun x1 x2 => x1 ++ x2) acc (List.replicate k #[v]) = acc ++ (List.replicate k v).toArray
  | 0, acc => by simp
  | k + 1, acc => by
    rw [List.replicate_succ, List.foldl_cons, foldl_rep v k]
    apply Array.ext'
    simp [List.replicate_succ]
theorem IntsAre.rep (x : Int) (t : Tok) : ∀ k : Nat, IntsAre (List.replicate k (.int x t)) (List.replicate k x)
  | 0 => .nil
  | k + 1 => .cons x t (IntsAre.rep x t k)
theorem r_repI {x n : Int} {t u : Tok} {k : Nat} {Q : Value → Shared → Prop} (H : St s₀ B (F :: D) s) (hm : (l, ListC [.int x t]) ∈ D) (hn : n = k) (hk : k ≤ 2 ^ 20)
    (h : ∀ r s', St s₀ B (F :: (r, IntsC (List.replicate k x)) :: D) s' → Q (.ref r) s') : wpAny (MM w) A (binaryOp .Mult (.ref l) (.int n u)) Q E s := by
  obtain ⟨c, hl⟩ := H.isL (.tail _ hm)
  have e0 : n.toNat = k := by omega
  have e1 : [Value.int x t].toArray.size * n.toNat = k := by rw [e0]; simp
  have h1 : ¬(!Builtin.List.listFitsIndex n) = true := by rw [fitsIndex_of (by omega) (by omega)]; decide
  have h2 : ¬[Value.int x t].toArray.size * n.toNat > (2 ^ 63 - 1) / 8 := by rw [e1]; omega
  have h3 : ¬Builtin.List.listTooLong ([Value.int x t].toArray.size * n.toNat) = true := by
    rw [e1]
    unfold Builtin.List.listTooLong
    rw [decide_eq_true_eq, sizeLine_eq]
    omega
  have h4 : IntsC (List.replicate k x) { cls := .type "list", data := .seq (List.foldl (fun x1 x2 => x1 ++ x2) #[] (List.replicate (if [Value.int x t].toArray.isEmpty = true then 0 else n.toNat) [Value.int x t].toArray)) } := by
    refine ⟨_, IntsAre.rep x t k, 0, ?_⟩
    have e : (if [Value.int x t].toArray.isEmpty = true then 0 else n.toNat) = k := by rw [e0]; simp
    rw [e, foldl_rep]
    simp
  generalize [Value.int x t].toArray = items at hl h1 h2 h3 h4
  refine wpAny_binaryOp_repeat_ref (T := "list") (U := "int") (by decide) ⟨_, hl, rfl⟩ (fun s' => typeIs_int s' n u) noFill_list_mul PySem.F.fills_int_mul PySem.F.slot_int_rmul repeat_list PySem.F.slot_int_index.lookup
    (call_meets PySem.F.slot_int_rmul (typeIs_int s n u) PySem.F.entry_int_rmul (PySem.F.args_int_rmul_2 _ _) (int___rmul___int_list n u l items c)
      ⟨hl, rfl, ⟨_, hl, rfl⟩, call_meets PySem.F.slot_list_mul ⟨_, hl, rfl⟩ PySem.F.entry_list_mul (PySem.F.args_list_mul_2 _ _)
        (AutoListH.list___mul___list_int_3 l items c n u h1 h2 h3) ⟨hl, ?_⟩⟩)
  exact h _ _ ((H.push h4).swap.toks _)
end
end
local macro_rules | `(tactic| tb_rel) => `(tactic| first | exact List.Mem.head _ | (refine List.Mem.tail _ ?_; tb_rel) | assumption | (refine List.mem_append_right _ ?_; tb_rel) | (refine List.mem_append_left _ ?_; tb_rel))
local macro_rules | `(tactic| kbo_bools) => `(tactic| first | exact SetL.nil | (refine' SetL.skip ?nx; (case nx => kbo_bools)) | (refine' SetL.there ?ne ?nx; (case ne => decide); (case nx => kbo_bools)))
local macro_rules | `(tactic| none_booked) => `(tactic| first | exact Upd.here | (refine' Upd.there ?nx; (case nx => none_booked)) | assumption)
local macro_rules | `(tactic| regstrif_gather) => `(tactic| first | exact List.Sublist.refl _ | (refine List.Sublist.cons_cons _ ?_; regstrif_gather) | (refine List.Sublist.cons _ ?_; regstrif_gather))
local macro_rules | `(tactic| kpt_turns) => do
  let i (n : Lean.Name) := Lean.mkIdent n
  let (H, G, hA, A, L, s) := (i `H, i `G, i `hA, i `A, i `L, i `s)
  let (t, l, r) := (i `t, i `l, i `r)
  `(tactic|
  (refine' r_call $G $hA $H ?ho ?hcd ?hps ?hnd ?hbind ?hcell ?hloc ?hco ?hgen ?hk ?h; (case ho => exact rfl); (case hcd => kernel_rfl); (case hps => simp only [List.map_cons, List.map_nil]; exact rfl); (case hnd => decide); (case hbind => exact rfl);
   (case hcell => decide); (case hloc => decide); (case hco => exact rfl); (case hgen => exact rfl); (case hk => exact rfl); clear $H; clear $hA; intro $A $L $s $hA $H; simp only [List.zip_cons_cons, List.zip_nil_left, List.zip_nil_right] at $H:ident))
local macro_rules | `(tactic| keq_rows) => mAll [
  "p wpAny_BinOp ?_||",
  "p r_add H ?_||t s",
  "p r_sub H ?_||t s",
  "q r_assign ?hs ?h|hs:r|",
  "q r_assignSub ?hs ?h|hs:r|",
  "p r_ret ?_||",
  "p r_if ?_||",
  "p r_then ?_||",
  "p r_thenRet ?_||",
  "q Call_ ?h ?he|he:r|",
  "q r_callDef G ?ho ?hd ?he ?h|ho:r hd:r he:r|",
  "q PyProof.Rows.callWith_builtin1 ?h ?he ?hplain|he:r hplain:r|",
  "q PyProof.Rows.callWith_type1 ?h ?he ?hplain|he:r hplain:r|",
  "p r_has H ?_||",
  "q r_builtin G ?H ?hm ?hv ?hx ?hg ?hb ?hk ?hl ?hd ?h|hv:b H:H hm:K hx:d hg:r hb:r hk:r hl:r hd:d|",
  "q r_global G ?H ?hv ?hg ?hk ?hl ?hd ?h|H:H hg:r hk:r hl:r hd:d hv:g|",
  "p Subscript_ ?_||",
  "p r_range1 H ?_||r s",
  "p r_range2 H ?_||r s",
  "q r_testCmp ?hm ?h|hm:r|",
  "q r_cmp ?hm ?h|hm:r|",
  "p wpAny_UnaryOp ?_||",
  "p r_lt ?_||",
  "p r_gt ?_||",
  "p r_ge ?_||",
  "p r_eq ?_||",
  "p r_ne ?_||",
  "p r_truthB ?_||",
  "p r_truthI ?_||",
  "p r_neg H ?_||t s",
  "q r_for ?hs ?h|hs:i|",
  "p r_aug ?_||",
  "q r_load ?hL ?H ?hv ?hk ?hl ?h|H:H hL:r hv:m hk:r hl:r|",
  "p r_iadd H ?_||t s",
  "p r_true ?_||",
  "p r_str H ?_||t s",
  "p List_ ?_||",
  "p Tuple_ ?_||",
  "p r_delSub ?_||",
  "q r_newList ?H ?hn ?h|H:H hn:z|l s",
  "q r_newTup ?H ?hn ?h|H:H hn:z|l s"]
local macro_rules | `(tactic| tb_start) => do mFirst (← `(tactic| keq_rows)) [
  "q r_local ?hL ?H ?hv ?hk ?hl ?hd ?h|H:H hL:r hv:m hk:r hl:r hd:d|",
  "q r_argC ?he ?h|he:r|",
  "p r_argN ?_||",
  "p r_int H ?_||t s",
  "q r_store ?hL ?H ?hs ?hl ?hp ?h|H:H hL:r hs:s hl:r hp:r|s",
  "p r_assignName ?_||",
  "p r_nil ?_||"]

section
variable {w : World} {A : Around} {E : Value → Shared → Prop} {s₀ s : Shared} {B : Heap} {D D' : Led} {F : Addr × Cell} {a l : Addr}
theorem c_add {x y : Int} {t u : Tok} {Q : Value → Shared → Prop} (G : Base w B) (hA : Ok A 1) (H : St s₀ B D s)
    (h : ∀ t s', St s₀ B D s' → Q (.int (x + y) t) s') : wpAny (MM w) A (call (.ref 21) [.int x t, .int y u]) Q E s := by
  kpt_turns
  repeat tb_start
  exact h _ _ (by exact St.sub H (by regstrif_gather))
theorem c_sub {x y : Int} {t u : Tok} {Q : Value → Shared → Prop} (G : Base w B) (hA : Ok A 1) (H : St s₀ B D s)
    (h : ∀ t s', St s₀ B D s' → Q (.int (x - y) t) s') : wpAny (MM w) A (call (.ref 42) [.int x t, .int y u]) Q E s := by
  kpt_turns
  repeat tb_start
  exact h _ _ (by exact St.sub H (by regstrif_gather))
theorem c_neg {x : Int} {t : Tok} {Q : Value → Shared → Prop} (G : Base w B) (hA : Ok A 1) (H : St s₀ B D s)
    (h : ∀ t s', St s₀ B D s' → Q (.int (-x) t) s') : wpAny (MM w) A (call (.ref 35) [.int x t]) Q E s := by
  kpt_turns
  repeat tb_start
  exact h _ _ (by exact St.sub H (by regstrif_gather))
theorem c_mul {x y : Int} {t u : Tok} {Q : Value → Shared → Prop} (G : Base w B) (hA : Ok A 1) (H : St s₀ B D s) (hm : IntMulOk x y)
    (h : ∀ t s', St s₀ B D s' → Q (.int (x * y) t) s') : wpAny (MM w) A (call (.ref 28) [.int x t, .int y u]) Q E s := by
  kpt_turns
  repeat tb_start
  refine r_mul H hm ?_
  clear H
  intro t s H
  exact h _ _ (by exact St.sub H (by regstrif_gather))
theorem c_delitem {ns : List Int} {k : Int} {t : Tok} {j : Nat} {Q : Value → Shared → Prop} (G : Base w B) (hA : Ok A 1) (H : St s₀ B D s) (U : Upd l (IntsC ns) (IntsC (ns.eraseIdx j)) D D')
    (hf : Builtin.List.listFitsIndex k = true) (hk : seqIndex? k ns.length = some j) (hz : ns.length ≤ sizeLine)
    (h : ∀ s', St s₀ B D' s' → Q .none s') : wpAny (MM w) A (call (.ref 56) [.ref l, .int k t]) Q E s := by
  kpt_turns
  repeat tb_start
  refine r_delI H (.there U) hf hk hz ?_
  clear H
  intro s H
  repeat tb_start
  exact h _ (by exact St.sub H (by regstrif_gather))
theorem c_iseof {x : Int} {t : Tok} {Q : Value → Shared → Prop} (G : Base w B) (hA : Ok A 1) (H : St s₀ B D s)
    (h : ∀ s', St s₀ B D s' → Q (.bool (x == 0)) s') : wpAny (MM w) A (call (.ref 122) [.int x t]) Q E s := by
  kpt_turns
  repeat tb_start
  exact h _ (by exact St.sub H (by regstrif_gather))
theorem c_isnonterm {x : Int} {t : Tok} {Q : Value → Shared → Prop} (G : Base w B) (hA : Ok A 1) (H : St s₀ B D s)
    (h : ∀ s', St s₀ B D s' → Q (.bool (decide (256 ≤ x))) s') : wpAny (MM w) A (call (.ref 115) [.int x t]) Q E s := by
  kpt_turns
  repeat tb_start
  exact h _ (by exact St.sub H (by regstrif_gather))
end
section
variable {w : World} {A : Around} {E : Value → Shared → Prop} {s₀ s : Shared} {B : Heap} {D D' : Led} {F : Addr × Cell} {a l : Addr} {env : Env}
theorem loc_mono {L : Addr} {l l' : List (Str × Value)} (H : St s₀ B ((L, LocC l) :: D) s) (h : ∀ p ∈ l', p ∈ l) : St s₀ B ((L, LocC l') :: D) s :=
  H.imp .here fun _ ⟨m, hm, hl⟩ => ⟨m, hm, fun p hp => hl p (h p hp)⟩
theorem all_nil {α : Type} {l : List α} : ∀ p ∈ ([] : List α), p ∈ l := fun _ h => nomatch h
theorem all_cons {α : Type} {l l' : List α} {x : α} (hx : x ∈ l) (h : ∀ p ∈ l', p ∈ l) : ∀ p ∈ x :: l', p ∈ l := fun p hp => by
  rcases List.mem_cons.mp hp with rfl | hp
  · exact hx
  · exact h p hp
theorem turn_loc {it L : Addr} {P : Cell} {J : Addr × Cell → Led → Prop} {R : Result → Shared → Prop} {l l' : List (Str × Value)} {X : Led} (H : St s₀ B ((L, LocC l) :: X) s) (hl : ∀ p ∈ l', p ∈ l) (hX : ((it, P) :: D').Sublist X)
    (h : J (L, LocC l') D') : TurnEnd s₀ B it P J R .next s := ⟨_, _, (loc_mono H hl).sub (List.Sublist.cons_cons _ hX), h⟩
theorem r_iterRange0 {r : Addr} {n : Nat} {Q : Value → Shared → Prop} (H : St s₀ B (F :: D) s) (hm : (r, RangeC 0 n) ∈ F :: D) (hb' : n < 2 ^ 62)
    (h : ∀ it s', St s₀ B (F :: (it, IterR (0 + (0 : Nat)) ((n : Int) - (0 : Nat))) :: D) s' → Q (.ref it) s') : wpAny (MM w) A (pyIter (.ref r)) Q E s :=
  r_iterRange H hm (by split <;> omega) (by omega) (by omega) (by omega) (by omega) h
theorem getElem?_getD {l : List Int} {k : Nat} (h : k < l.length) : l[k]? = some (l.getD k 0) := by
  rw [List.getD_eq_getElem?_getD, List.getElem?_eq_getElem h]; rfl
theorem r_itemN {ns : List Int} {value slice : PySem.Expr} {k : Int} {t : Tok} {Q : Value → Shared → Prop} (j : Nat) (H : St s₀ B D s) (hm : (l, IntsC ns) ∈ D) (hk : k = j) (hj : j < ns.length) (hb : ns.length < 2 ^ 60)
    (hs : subscripted slice false (.ref l) (.int k t) = operate [.ref l, .int k t] (getItem (.ref l) (.int k t))) (h : ∀ t, Q (.int (ns.getD j 0) t) s) :
    wpAny (MM w) A (subscriptTail value slice (.ref l) (.int k t)) Q E s := by
  have e : k.toNat = j := by omega
  exact r_itemI H hm hs (by omega) (by omega) (by rw [e]; exact getElem?_getD hj) h
theorem r_setN {ns : List Int} {k x : Int} {t u : Tok} {Q : Unit → Shared → Prop} (j : Nat) (H : St s₀ B D s) (U : Upd l (IntsC ns) (IntsC (ns.set j x)) D D') (hk : k = j) (hj : j < ns.length) (hb : ns.length < 2 ^ 60)
    (h : ∀ s', St s₀ B D' s' → Q () s') : wpAny (MM w) A (setItem (.ref l) (.int k t) (.int x u)) Q E s := by
  have e : k.toNat = j := by omega
  exact r_setI H (by rw [e]; exact U) (by omega) (by omega) (by omega) h
noncomputable abbrev small (ns : List Int) : Prop := ∀ x ∈ ns, -(2 ^ 64) < x ∧ x < 2 ^ 64
theorem small.getD {ns : List Int} (h : small ns) (k : Nat) : -(2 ^ 64) < ns.getD k 0 ∧ ns.getD k 0 < 2 ^ 64 := by
  by_cases hk : k < ns.length
  · have e : ns.getD k 0 = ns[k] := by simp [List.getD_eq_getElem?_getD, hk]
    rw [e]; exact h _ (List.getElem_mem hk)
  · have e : ns.getD k 0 = 0 := by simp [List.getD_eq_getElem?_getD, Nat.le_of_not_lt hk]
    rw [e]; decide
theorem mulOk_small {x y : Int} (h : -(2 ^ 64) < x ∧ x < 2 ^ 64) : IntMulOk x y := IntMulOk.of_left (intBits_le_64 (by omega) (by omega))
end
local macro_rules | `(tactic| regstrif_slice) => `(tactic| first | exact all_nil | (refine all_cons (by tb_rel) ?_; regstrif_slice))
local macro_rules | `(tactic| keq_rows) => mAll [
  "q r_lenI H ?hm ?hf ?h|hm:m hf:o|t s",
  "q r_len H ?hm ?hf ?h|hm:m hf:l|t s",
  "q r_iterRange0 H ?hm ?hf ?h|hm:m hf:o|it s"]
section
noncomputable def CellC (v : Option Value) : Cell := fun o => o.data = .cell v
section
variable {w : World} {A : Around} {E : Value → Shared → Prop} {s₀ s : Shared} {B : Heap} {D D' : Led} {F : Addr × Cell} {a l : Addr} {env : Env}
theorem St.isCell {c : Addr} {v : Option Value} (H : St s₀ B D s) (h : (c, CellC v) ∈ D) : s.heap.IsCell c v := let ⟨o, ho, hd⟩ := H.get h; ⟨o, ho, hd⟩
theorem r_cell {x : Str} {pos : Pos} {c : Addr} {v : Value} {Q : Value → Shared → Prop} (hk : env.scope.kind = .function) (hl : env.kindOf x = some .cell) (hc : env.cells.lookup x = some c)
    (H : St s₀ B D s) (hm : (c, CellC (some v)) ∈ D) (hd : (x == ("__debug__" : Str)) = false) (h : Q v s) : wpAny (MM w) A (eval (.Name x pos) env) Q E s :=
  wpAny_Name (wpAny_loadName_cell hk hl hc (H.isCell hm) h) hd
theorem r_free {x : Str} {pos : Pos} {c : Addr} {v : Value} {Q : Value → Shared → Prop} (hk : env.scope.kind = .function) (hl : env.kindOf x = some .free) (hc : env.cells.lookup x = some c)
    (H : St s₀ B D s) (hm : (c, CellC (some v)) ∈ D) (hd : (x == ("__debug__" : Str)) = false) (hn : (x == ("__classdict__" : Str)) = false) (h : Q v s) : wpAny (MM w) A (eval (.Name x pos) env) Q E s :=
  wpAny_Name (wpAny_loadName_free hk hl hc (H.isCell hm) h hn) hd
theorem r_storeCell {x : Str} {c : Addr} {v₀ : Option Value} {v : Value} {Q : Unit → Shared → Prop} (hk : env.scope.kind = .function) (hl : env.kindOf x = some .cell) (hc : env.cells.lookup x = some c)
    (H : St s₀ B D s) (U : Upd c (CellC v₀) (CellC (some v)) D D') (h : ∀ s', St s₀ B D' s' → Q () s') : wpAny (MM w) A (storeName env x v) Q E s :=
  wpAny_storeName_cell hk hl hc (H.isCell U.mem) fun h' hc' hs => h _ (H.upd' U hs hc')
theorem r_callC {f : Addr} {n : Nat} {name qual : Str} {params : Arguments} {body : List Stmt} {scope : Scope} {dV kV doc pm cdv ct oc : Value} {an od : Option Addr} {osl : Array (Option Value)}
    {args : List Value} {binds : List (Str × Value)} {lo : List (Str × Value)} {co : Addr → List (Str × Addr × Option Value)} {Q : Value → Shared → Prop} (G : Base w B) (hA : Ok A (n + 1)) (H : St s₀ B D s)
    (ho : (KF w).lookup f = some ⟨oc, od, .func (fnOf name qual params body scope dV kV doc pm an cdv ct), osl⟩) (hcd : codeIn (KF w) cdv qual = true)
    (hbind : bindArgs (fnOf name qual params body scope dV kV doc pm an cdv ct) ⟨args, []⟩ = pure binds)
    (hkind' : ∀ L, (binds.map fun x => (scope.names.lookup x.1 == some .local) || ((scope.names.lookup x.1 == some .cell) && ((cellsFrom (L + 1) scope.names []).lookup x.1).isSome)) = binds.map fun _ => true)
    (hlo' : (lo.map fun p => bindL (fun x => scope.names.lookup x) binds (fun _ => none) p.1) = lo.map fun p => some p.2)
    (hco' : ∀ L, ((co L).map fun p => ((cellsFrom (L + 1) scope.names []).lookup p.1, bindC (fun x => scope.names.lookup x) binds (fun _ => none) p.1)) = (co L).map fun p => (some p.2.1, p.2.2))
    (hnd : ∀ L, ((co L).map (·.2.1)).Nodup)
    (hsc : scope.isCoroutine = false) (hgen : scope.isGenerator = false) (hk : scope.kind = .function)
    (h : ∀ A' L s', Ok A' n → St s₀ B ((L, LocC lo) :: ((co L).map fun p => (p.2.1, CellC p.2.2)) ++ D) s' →
      wpAny (MM w) A' (execs body (envOfC qual scope L f cdv)) (fun fl s' => Q (match fl with | .ret v => v | _ => .none) s') (fun _ _ => False) s') :
    wpAny (MM w) A (call (.ref f) args) Q E s := by
  have hkind : ∀ L, ∀ x ∈ binds, scope.names.lookup x.1 = some .local ∨ (scope.names.lookup x.1 = some .cell ∧ ((cellsFrom (L + 1) scope.names []).lookup x.1).isSome = true) := fun L x hx => by
    have := List.map_inj_left.mp (hkind' L) x hx
    rcases Bool.or_eq_true_iff.mp this with q | q
    · exact .inl (by simpa using q)
    · obtain ⟨q1, q2⟩ := Bool.and_eq_true_iff.mp q
      exact .inr ⟨by simpa using q1, q2⟩
  have hlo : ∀ p ∈ lo, bindL (fun x => scope.names.lookup x) binds (fun _ => none) p.1 = some p.2 := fun p hp => List.map_inj_left.mp hlo' p hp
  have hco : ∀ L, ∀ p ∈ co L, (cellsFrom (L + 1) scope.names []).lookup p.1 = some p.2.1 ∧ bindC (fun x => scope.names.lookup x) binds (fun _ => none) p.1 = p.2.2 := fun L p hp => by
    have := List.map_inj_left.mp (hco' L) p hp
    exact ⟨congrArg Prod.fst this, congrArg Prod.snd this⟩
  refine wpAny_call (codeAny_call_cells (hroom := hA.room) (ho := H.keep _ _ (G.K _ _ ho)) (hdata := rfl) (hlim := G.nolimit.keeps H.keep) (hcd := (codeRec_of G.K hcd).keeps H.keep) (hbody := rfl) (hbind := hbind) (hclo := rfl) (hkind := hkind _)
    (h := fun s₁ x => ?_) (hco := hsc) (hgen := hgen) (hk := hk))
  have hL : (callEnvC (fnOf name qual params body scope dV kV doc pm an cdv ct) s.heap.objs.size f) = envOfC qual scope s.heap.objs.size f cdv := rfl
  rw [hL] at x ⊢
  have hlt : ∀ p ∈ D, p.1 < s.heap.objs.size := fun p hp => H.lt (P := p.2) hp
  have hBlt : ∀ b, s.heap.objs.size ≤ b → B.get? b = none := fun b hb => by
    cases q : B.get? b with
    | none => rfl
    | some o' => exact absurd (Heap.lt_size (H.keep _ _ q)) (Nat.not_lt.mpr hb)
  obtain ⟨g, tk, e⟩ := x.toInCall.same
  have habove : ∀ p ∈ co s.heap.objs.size, s.heap.objs.size < p.2.1 := fun p hp => x.above _ _ (mem_of_lookup (hco _ p hp).1)
  refine wpAny_mono (h _ _ s₁ (hA.deeper _) ?_) (fun _ _ q => q) fun _ _ q => q.elim
  refine ⟨by rw [e]; exact H.sh, fun b o q => x.toInCall.keep b o (H.keep b o q), fun p hp => ?_, fun p hp => ?_, ?_⟩
  · rcases List.mem_cons.mp hp with rfl | hp
    · obtain ⟨o, ho, hN⟩ := ns_iff.mp x.toInCall.ns
      exact ⟨o, ho, _, hN, hlo⟩
    · rcases List.mem_append.mp hp with hp | hp
      · obtain ⟨q, hq, rfl⟩ := List.mem_map.mp hp
        obtain ⟨e1, e2⟩ := hco _ q hq
        obtain ⟨o, ho, hd⟩ := x.cell _ _ e1
        exact ⟨o, ho, hd.trans (congrArg _ e2)⟩
      · obtain ⟨o, ho, hP⟩ := H.cell p hp
        exact ⟨o, x.toInCall.keep _ _ ho, hP⟩
  · rcases List.mem_cons.mp hp with rfl | hp
    · exact hBlt _ (Nat.le_refl _)
    · rcases List.mem_append.mp hp with hp | hp
      · obtain ⟨q, hq, rfl⟩ := List.mem_map.mp hp
        exact hBlt _ (Nat.le_of_lt (habove q hq))
      · exact H.new _ hp
  · have e1 : (((co s.heap.objs.size).map fun p => ((p.2.1, CellC p.2.2) : Addr × Cell)).map (·.1)) = (co s.heap.objs.size).map (·.2.1) := by rw [List.map_map]; rfl
    rw [List.cons_append, List.map_cons, List.map_append, e1, List.nodup_cons, List.nodup_append]
    refine ⟨fun hm => ?_, hnd _, H.nd, fun a ha b hb => ?_⟩
    · rcases List.mem_append.mp hm with hm | hm
      · obtain ⟨q, hq, e⟩ := List.mem_map.mp hm
        have := habove q hq
        rw [e] at this; exact Nat.lt_irrefl _ this
      · obtain ⟨q, hq, e⟩ := List.mem_map.mp hm
        have := hlt q hq
        rw [e] at this; exact Nat.lt_irrefl _ this
    · obtain ⟨q, hq, rfl⟩ := List.mem_map.mp ha
      obtain ⟨r, hr, rfl⟩ := List.mem_map.mp hb
      have h1 := habove q hq
      have h2 := hlt r hr
      exact Nat.ne_of_gt (Nat.lt_trans h2 h1)

noncomputable def CompEnd (s₀ : Shared) (B : Heap) (C it acc : Addr) (F : Addr × Cell) (P : Cell) (vs : List Value) (J : List (Str × Value) → Led → Prop) (s : Shared) : Prop :=
  ∃ l D, St s₀ B ((C, LocC l) :: (it, P) :: (acc, ListC vs) :: F :: D) s ∧ J l D
noncomputable def tests (ifs : List PySem.Expr) (env : Env) : Sem Bool := forIn ifs true fun c r => if r = true then do let ok ← isTrue c env (eval c env); pure (ForInStep.yield ok) else pure (ForInStep.yield r)

theorem codeAny_compLoopO {R : Result → Shared → Prop} {elt target iter : PySem.Expr} {ifs : List PySem.Expr} {scope : Scope} {pos : Pos} {it acc : Value} (I : Nat → Shared → Prop)
    (turn : ∀ n s, I n s → ∀ E', wpAny (MM w) A (pyNext it) (fun r s₁ => match r with
      | none => R (.ok .next) s₁
      | some v => wpAny (MM w) A (letOwnedTupleGo target it v) (fun _ s₁ => wpAny (MM w) A (assign target env v) (fun _ s₂ =>
          wpAny (MM w) A (tests ifs env) (fun ok s₃ =>
            if ok = true then wpAny (MM w) A (eval elt env) (fun x s₄ => wpAny (MM w) A (call (.builtin "list.append") [acc, x]) (fun _ s₅ => ∃ m, m < n ∧ I m s₅) E' s₄) E' s₃
            else ∃ m, m < n ∧ I m s₃) E' s₂) E' s₁) E' s₁) E' s)
    (n : Nat) (h : I n s) : codeAny (MM w) A (.compLoop (.ListComp elt [⟨target, iter, ifs, 0⟩] scope pos) 0 it acc env) R s := by
  refine codeAny_loop rfl I (fun n s hI => ?_) n h
  show wpAny _ A ((compTurn (.ListComp elt [⟨target, iter, ifs, 0⟩] scope pos) 0 it acc env).onRaise (fun x => do noteFrame x env; theTreesLotGoes x)) _ _ s
  refine wpAny_noted ?_
  rw [compTurn_list]
  refine wpAny_bind (wpAny_standAt (wpAny_bind (wpAny_mono (turn n s hI _) (fun r s₁ h₁ => ?_) fun _ _ h' => h')))
  cases r with
  | none => exact wpAny_pure h₁
  | some v =>
    refine wpAny_bind (wpAny_mono h₁ (fun _ s₁ h₁ => ?_) fun _ _ z => z)
    refine wpAny_bind (wpAny_mono h₁ (fun _ s₂ h₂ => wpAny_bind (wpAny_mono h₂ (fun ok s₃ h₃ => ?_) fun _ _ h' => h')) fun _ _ h' => h')
    cases ok with
    | false => exact wpAny_pure ⟨rfl, h₃⟩
    | true =>
      exact wpAny_bind (wpAny_bind (wpAny_mono h₃ (fun x s₄ h₄ => wpAny_bind (wpAny_mono h₄ (fun _ s₅ h₅ => wpAny_pure (wpAny_pure ⟨rfl, h₅⟩)) fun _ _ h' => h')) fun _ _ h' => h'))

theorem r_compLoop {C it acc : Addr} {n : Nat} {IC : Nat → Cell} {V : Nat → Value → Prop} {need : Led → Prop} {elt target iter : PySem.Expr} {ifs : List PySem.Expr} {scope : Scope} {pos : Pos} {R : Result → Shared → Prop} {l : List (Str × Value)} (W : Walker w it n IC V need) (hh : A.handled = none)
    (J : Nat → List Value → List (Str × Value) → Led → Prop) (hneed : ∀ i vs l D, J i vs l D → need ((acc, ListC vs) :: F :: D)) (hn : n ≤ 2 ^ 20) (hlen : ∀ i vs l D, J i vs l D → vs.length ≤ i)
    (H : St s₀ B ((C, LocC l) :: (it, IC 0) :: (acc, ListC []) :: F :: D) s) (hJ : J 0 [] l D)
    (turn : ∀ i v vs l D s' E', i < n → V i v → J i vs l D → St s₀ B ((C, LocC l) :: (it, IC (i + 1)) :: (acc, ListC vs) :: F :: D) s' →
      wpAny (MM w) A (assign target env v) (fun _ s₂ => wpAny (MM w) A (tests ifs env) (fun ok s₃ =>
        if ok = true then wpAny (MM w) A (eval elt env) (fun x s₄ => CompEnd s₀ B C it acc F (IC (i + 1)) vs (J (i + 1) (vs ++ [x])) s₄) E' s₃
        else CompEnd s₀ B C it acc F (IC (i + 1)) vs (J (i + 1) vs) s₃) E' s₂) E' s')
    (done : ∀ vs l D s', J n vs l D → St s₀ B ((C, LocC l) :: (acc, ListC vs) :: F :: D) s' → R (.ok .next) s') :
    codeAny (MM w) A (.compLoop (.ListComp elt [⟨target, iter, ifs, 0⟩] scope pos) 0 (.ref it) (.ref acc) env) R s := by
  refine codeAny_compLoopO (fun k s' => ∃ i vs l D, k = n - i ∧ i ≤ n ∧ J i vs l D ∧ St s₀ B ((C, LocC l) :: (it, IC i) :: (acc, ListC vs) :: F :: D) s') ?_ n ⟨0, [], l, D, rfl, Nat.zero_le _, hJ, H⟩
  rintro k s' ⟨i, vs, l, D, rfl, hi, hJ, H⟩ E'
  by_cases hlt : i < n
  · refine W.next i hlt H (hneed _ _ _ _ hJ) fun v s₁ hv H₁ => ?_
    refine W.own (i + 1) target v H₁ ?_
    refine wpAny_mono (turn i v vs l D s₁ E' hlt hv hJ H₁) (fun _ s₂ h₂ => wpAny_mono h₂ (fun ok s₃ h₃ => ?_) fun _ _ z => z) fun _ _ z => z
    cases ok with
    | true =>
      simp only [if_true] at h₃ ⊢
      refine wpAny_mono h₃ (fun x s₄ h₄ => ?_) fun _ _ z => z
      obtain ⟨l', D', H', hJ'⟩ := h₄
      have hl := hlen _ _ _ _ hJ'
      refine r_append (D' := (C, LocC l') :: (it, IC (i + 1)) :: (acc, ListC (vs ++ [x])) :: F :: D') H' (.there (.there .here)) (by rw [List.length_append, List.length_singleton] at hl; rw [sizeLine_eq]; omega) fun s₅ H₅ => ?_
      exact ⟨n - (i + 1), by omega, i + 1, _, l', D', rfl, hlt, hJ', H₅⟩
    | false =>
      simp only [Bool.false_eq_true, if_false] at h₃ ⊢
      obtain ⟨l', D', H', hJ'⟩ := h₃
      exact ⟨n - (i + 1), by omega, i + 1, _, l', D', rfl, hlt, hJ', H'⟩
  · have : i = n := by omega
    subst this
    exact W.stop hh H (hneed _ _ _ _ hJ) fun s₁ H₁ => done vs l D s₁ hJ H₁

noncomputable def Dropped (C : Addr) (K : Shared → Prop) (s : Shared) : Prop := ∃ m, s.heap.Ns C m ∧ ∀ h', Heap.SameBut C s.heap h' → K { s with heap := h' }
theorem St.dropBut {C : Addr} {P : Cell} {h' : Heap} (H : St s₀ B ((C, P) :: D) s) (he : Heap.ExtBut C s.heap h') : St s₀ B D { s with heap := h' } := by
  refine ⟨H.sh, fun b o e => he b o ?_ (H.keep b o e), fun p hp => ?_, fun p hp => H.new p (.tail _ hp), (List.nodup_cons.mp H.nd).2⟩
  · rintro rfl
    have := H.new _ (.head _)
    dsimp only at this
    rw [this] at e; cases e
  · obtain ⟨o, ho, hP⟩ := H.cell p (.tail _ hp)
    refine ⟨o, he _ _ (fun e => ?_) ho, hP⟩
    have q := List.mem_map_of_mem (f := Prod.fst) hp
    rw [show Prod.fst p = C from e] at q
    exact (List.nodup_cons.mp H.nd).1 q
theorem r_dropped {C : Addr} {l : List (Str × Value)} {K : Shared → Prop} (H : St s₀ B ((C, LocC l) :: D) s) (h : ∀ s', St s₀ B D s' → K s') : Dropped C K s := by
  obtain ⟨m, hm, _⟩ := H.loc (.head _)
  exact ⟨m, hm, fun h' hs => h _ (H.dropBut hs.extBut)⟩

noncomputable def CompGo (w : World) (A : Around) (E : Value → Shared → Prop) (e : PySem.Expr) (scope : Scope) (env : Env) (cl : List (Str × Addr)) (use : Option (Value → Sem Unit)) (Q : Value → Shared → Prop) (it : Value) (s : Shared) : Prop :=
  wpAny (MM w) A (newList []) (fun acc s₃ => wpAny (MM w) A (newFunctionEnv scope env.globals cl [] env.qual none .none (some env)) (fun cenv s₄ =>
    codeAny (MM w) A (.compStart e 0 it acc { cenv with scope := relabel scope env }) (compPost (MM w) A E use Q acc cenv.locals) s₄) E s₃) E s
theorem r_ListComp {elt target iter : PySem.Expr} {ifs : List PySem.Expr} {rest : List Comprehension} {scope : Scope} {cl : List (Str × Addr)} {pos : Pos} {Q : Value → Shared → Prop}
    (hclos : closureFor scope env = pure cl) (hkind : scope.kind = .function) (hnames : (scope.names.all fun x => x.2 != .local || scope.names.lookup x.1 == some .local) = true) (hs : ∀ x, foldedSetIterable iter env x = pure x)
    (h : wpAny (MM w) A (eval iter env) (fun x s₁ => wpAny (MM w) A (pyIter x) (CompGo w A E (.ListComp elt (⟨target, iter, ifs, 0⟩ :: rest) scope pos) scope env cl none Q) E s₁) E s) :
    wpAny (MM w) A (eval (.ListComp elt (⟨target, iter, ifs, 0⟩ :: rest) scope pos) env) Q E s := by
  rw [eval_ListComp]
  refine wpAny_comprehension_free (use := none) rfl hs hclos hkind (fun x hx hl => ?_) h
  have := List.all_eq_true.mp hnames x hx
  rw [hl] at this
  simpa using this
theorem r_assignComp {elt target iter : PySem.Expr} {ifs : List PySem.Expr} {more : List Comprehension} {scope : Scope} {cl : List (Str × Addr)} {y : Str} {py pos spos : Pos} {rest : List Stmt} {Q : Flow → Shared → Prop}
    (hsw : swapsWith (.ListComp elt (⟨target, iter, ifs, 0⟩ :: more) scope pos) (some (.Name y py)) spos.line env = pure true)
    (hclos : closureFor scope env = pure cl) (hkind : scope.kind = .function) (hnames : (scope.names.all fun x => x.2 != .local || scope.names.lookup x.1 == some .local) = true) (hs : ∀ x, foldedSetIterable iter env x = pure x)
    (h : wpAny (MM w) A (eval iter env) (fun x s₁ => wpAny (MM w) A (pyIter x) (CompGo w A E (.ListComp elt (⟨target, iter, ifs, 0⟩ :: more) scope pos) scope env cl (some (assign (.Name y py) env)) (fun _ s' => wpAny (MM w) A (execs rest env) Q E s')) E s₁) E s) :
    wpAny (MM w) A (execs (.Assign [.Name y py] (.ListComp elt (⟨target, iter, ifs, 0⟩ :: more) scope pos) spos :: rest) env) Q E s := by
  refine wpAny_execs_cons ?_
  rw [exec_Assign_Name_used _ _ _ _ hsw]
  refine wpAny_bind (wpAny_standAt (wpAny_bind ?_))
  show wpAny _ A (do let _ ← comprehension (.ListComp elt (⟨target, iter, ifs, 0⟩ :: more) scope pos) scope env _ (newList []) false (eval iter env) (some (assign (.Name y py) env))) _ _ s
  refine wpAny_bind (wpAny_mono (wpAny_comprehension_free (use := some (assign (.Name y py) env)) (Q := fun _ s' => wpAny (MM w) A (execs rest env) Q E s') rfl hs hclos hkind (fun x hx hl => ?_) h) (fun _ s' hq => wpAny_pure (wpAny_pure hq)) fun _ _ e => e)
  have := List.all_eq_true.mp hnames x hx
  rw [hl] at this
  simpa using this
theorem r_compGo {it : Addr} {n : Nat} {IC : Nat → Cell} {V : Nat → Value → Prop} {need : Led → Prop} {elt target iter : PySem.Expr} {ifs : List PySem.Expr} {scope : Scope} {cl : List (Str × Addr)} {pos : Pos} {use : Option (Value → Sem Unit)} {Q : Value → Shared → Prop}
    (W : Walker w it n IC V need) (hh : A.handled = none) (hcell : (scope.names.all fun x => x.2 != .cell) = true) (hkind : scope.kind = .function)
    (J : Nat → List Value → List (Str × Value) → Led → Prop) (hneed : ∀ acc i vs l D, J i vs l D → need ((acc, ListC vs) :: F :: D)) (hn : n ≤ 2 ^ 20) (hlen : ∀ i vs l D, J i vs l D → vs.length ≤ i)
    (H : St s₀ B (F :: (it, IC 0) :: D) s) (hJ : J 0 [] [] D)
    (turn : ∀ C acc i v vs l D s' E', i < n → V i v → J i vs l D → St s₀ B ((C, LocC l) :: (it, IC (i + 1)) :: (acc, ListC vs) :: F :: D) s' →
      wpAny (MM w) A (assign target (compEnvC scope cl C env) v) (fun _ s₂ => wpAny (MM w) A (tests ifs (compEnvC scope cl C env)) (fun ok s₃ =>
        if ok = true then wpAny (MM w) A (eval elt (compEnvC scope cl C env)) (fun x s₄ => CompEnd s₀ B C it acc F (IC (i + 1)) vs (J (i + 1) (vs ++ [x])) s₄) E' s₃
        else CompEnd s₀ B C it acc F (IC (i + 1)) vs (J (i + 1) vs) s₃) E' s₂) E' s')
    (done : ∀ C acc vs l D s', J n vs l D → St s₀ B (F :: (C, LocC l) :: (acc, ListC vs) :: D) s' → match (motive := Option (Value → Sem Unit) → Prop) use with
      | none => Dropped C (Q (.ref acc)) s'
      | some u => wpAny (MM w) A (u (.ref acc)) (fun _ s'' => Dropped C (Q .none) s'') E s') :
    CompGo w A E (.ListComp elt [⟨target, iter, ifs, 0⟩] scope pos) scope env cl use Q (.ref it) s := by
  have hc : ∀ y ∈ scope.names, y.2 ≠ .cell := fun y hy e => by
    have := List.all_eq_true.mp hcell y hy
    rw [e] at this
    simp at this
  have H0 := H.push (P := ListC []) (o := { cls := .type "list", dict := none, data := .seq ([] : List Value).toArray 0 }) ⟨0, rfl⟩
  refine wpAny_newObj_type (wpAny_newFunctionEnv hc (by intro y hy; simp at hy) (fun h₁ hns₁ hsb₁ => ?_) hkind)
  dsimp only at hns₁ hsb₁ ⊢
  obtain ⟨oL, hoL, hN⟩ := ns_iff.mp hns₁
  have H1 := H0.alloc (P := LocC []) (h' := h₁) rfl (fun b o e => hsb₁.extBut b o (Nat.ne_of_lt (Heap.lt_size e)) (Heap.get?_push_of_some _ e)) hoL ⟨_, hN, fun _ q => nomatch q⟩
  have H2 := H1.toks (s.toks + ([] : List (Str × Value)).length)
  have H3 : St s₀ B ((_, LocC []) :: (it, IC 0) :: (s.heap.objs.size, ListC []) :: F :: D) _ := H2.perm (List.Perm.cons _ (List.perm_middle (l₁ := [(_, _), _])))
  have loop : ∀ (C : Addr) (s₃ : Shared), St s₀ B ((C, LocC []) :: (it, IC 0) :: (s.heap.objs.size, ListC []) :: F :: D) s₃ →
      codeAny (MM w) A (.compLoop (.ListComp elt [⟨target, iter, ifs, 0⟩] scope pos) 0 (.ref it) (.ref s.heap.objs.size) (compEnvC scope cl C env)) (compPost (MM w) A E use Q (.ref s.heap.objs.size) C) s₃ := fun C s₃ H₃ => by
    refine r_compLoop W hh J (hneed _) hn hlen H₃ hJ (turn _ _) fun vs l D s' hJ' H' => ?_
    have := done C _ vs l D s' hJ' (H'.perm (((List.Perm.swap _ _ _).cons _).trans (.swap _ _ _)))
    cases use with
    | none => exact this
    | some u => exact this
  exact codeAny_compStart_list (loop _ _ H3) (W.self 0 H3 (hneed _ _ _ _ _ hJ) (loop _ _ H3))
end
end
section
section
variable {w : World} {A : Around} {E : Value → Shared → Prop} {s₀ s : Shared} {B : Heap} {D D' : Led} {F : Addr × Cell} {a l : Addr} {env : Env}
theorem St.grow {h' : Heap} (H : St s₀ B D s) (hk : ∀ b o, s.heap.get? b = some o → h'.get? b = some o) (tk : Nat) : St s₀ B D { s with heap := h', toks := tk } :=
  ⟨H.sh, fun b o e => hk b o (H.keep b o e), fun p hp => let ⟨o, ho, hP⟩ := H.cell p hp; ⟨o, hk _ _ ho, hP⟩, H.new, H.nd⟩
theorem fresh_size {h : Heap} {b : Addr} {o : Obj} (e : h.get? b = some o) : b ≠ h.objs.size := Nat.ne_of_lt (Heap.lt_size e)
theorem St.growBut {h' : Heap} (H : St s₀ B D s) (hk : Heap.ExtBut s.heap.objs.size s.heap h') : St s₀ B D { s with heap := h' } := H.grow (fun b o e => hk b o (fresh_size e) e) s.toks
theorem St.isTup {vs : List Value} (H : St s₀ B D s) (h : (l, TupC vs) ∈ D) : IsTup s.heap l vs.toArray := by
  obtain ⟨o, ho, n, rfl⟩ := H.get h
  exact ⟨_, ho, rfl, _, rfl⟩
theorem r_max2 {x y : Int} {t u : Tok} {Q : Value → Shared → Prop} (hh : A.handled = none) (H : St s₀ B D s) (h : ∀ t s', St s₀ B D s' → Q (.int (max x y) t) s') : wpAny (MM w) A (call (.builtin "max") [.int x t, .int y u]) Q E s :=
  max_two_ints hh fun h' tk hk => by
    by_cases c : y > x
    · rw [if_pos c, ← show max x y = y by omega]; exact h _ _ (H.grow hk tk)
    · rw [if_neg c]
      have e : x = max x y := by omega
      generalize hm : max x y = m at e h
      subst e
      exact h _ _ (H.grow hk tk)
theorem Fr.triv {h : Heap} {L : Addr} {m : Str → Option Value} (hn : h.Ns L m) : Fr {} L h m := ⟨hn, fun b o e => by simp [Heap.get?] at e, Nat.zero_le _⟩
theorem r_listCopyI {ns : List Int} {L : Addr} {lo : List (Str × Value)} {Q : Value → Shared → Prop} (H : St s₀ B ((L, LocC lo) :: D) s) (hm : (l, IntsC ns) ∈ D) (hz : ns.length ≤ sizeLine)
    (h : ∀ r s', St s₀ B ((L, LocC lo) :: (r, IntsC ns) :: D) s' → Q (.ref r) s') : wpAny (MM w) A (call (.type "list") [.ref l]) Q E s := by
  obtain ⟨vs, n, hi, hl⟩ := H.ints (.tail _ hm)
  obtain ⟨m, hn, _⟩ := H.loc (.head _)
  have e : vs.length = ns.length := hi.length
  refine list_copyLP (Fr.triv hn) (News.nil) hl.isList (fun h' _ hk _ _ hp => ?_) (by simpa [e] using hz)
  obtain ⟨⟨c, hc⟩, _⟩ := hp
  exact h _ _ ((H.alloc (P := IntsC ns) rfl hk hc ⟨vs, hi, c, rfl⟩).swap)
theorem r_asTup {elts : List PySem.Expr} {k : Nat} {tpos pos : Pos} {value : PySem.Expr} {rest : List Stmt} {Q : Flow → Shared → Prop}
    (hs : swapsWithSole [.Tuple elts k tpos] value pos.line env = pure false) (hw : swappedStores [.Tuple elts k tpos] value env = pure none)
    (h : wpAny (MM w) A (eval value env) (fun v s₁ => wpAny (MM w) A (assign (.Tuple elts k tpos) env v) (fun _ s₂ => wpAny (MM w) A (execs rest env) Q E s₂) E s₁) E s) :
    wpAny (MM w) A (execs (.Assign [.Tuple elts k tpos] value pos :: rest) env) Q E s := wpAny_execs_cons (Assign_Tuple h hs hw)
theorem r_asTupSw {elts : List PySem.Expr} {k : Nat} {tpos pos : Pos} {value : PySem.Expr} {names : List Str} {rest : List Stmt} {Q : Flow → Shared → Prop}
    (hs : swapsWithSole [.Tuple elts k tpos] value pos.line env = pure false) (hw : swappedStores [.Tuple elts k tpos] value env = pure (some names))
    (h : wpAny (MM w) A (eval value env) (fun v s₁ => wpAny (MM w) A (unpackItems v names.length none) (fun items s₂ =>
      wpAny (MM w) A (assignInOrder (names.reverse.map fun n => bindName env n) items.reverse) (fun _ s₂ => wpAny (MM w) A (execs rest env) Q E s₂) E s₂) E s₁) E s) :
    wpAny (MM w) A (execs (.Assign [.Tuple elts k tpos] value pos :: rest) env) Q E s := wpAny_execs_cons (Assign_Tuple_swapped h hs hw)
theorem r_unpackItems {vs : List Value} {n : Nat} {Q : List Value → Shared → Prop} (hh : A.handled = none) (H : St s₀ B D s) (hm : (l, TupC vs) ∈ D) (hn : n = vs.length) (h : ∀ s', St s₀ B D s' → Q vs s') : wpAny (MM w) A (unpackItems (.ref l) n none) Q E s := by
  subst hn
  have := unpackItems_tuple (prog := PR) (w := w) (E := E) (Q := Q) hh (H.isTup hm) fun h' he => h _ (H.growBut he)
  exact this
theorem r_assignTup {elts : List PySem.Expr} {k : Nat} {pos : Pos} {vs : List Value} {Q : Unit → Shared → Prop} (hh : A.handled = none) (H : St s₀ B D s) (hm : (l, TupC vs) ∈ D)
    (hn : (assignEach elts env).length = vs.length) (hstar : (assignEach elts env).findIdx? (·.1) = none)
    (h : ∀ s', St s₀ B D s' → wpAny (MM w) A (assignInOrder ((assignEach elts env).map (·.2)) vs) Q E s') : wpAny (MM w) A (assign (.Tuple elts k pos) env (.ref l)) Q E s :=
  assign_Tuple_tuple hh (H.isTup hm) (by simpa using hn) hstar fun h' he => h _ (H.growBut he)
theorem r_inOrderN {xs : List Value} {Q : Unit → Shared → Prop} (h : Q () s) : wpAny (MM w) A (assignInOrder [] xs) Q E s := assignInOrder_nil h
theorem r_inOrderC {t : Value → Sem Unit} {ts : List (Value → Sem Unit)} {x : Value} {xs : List Value} {Q : Unit → Shared → Prop}
    (h : wpAny (MM w) A (t x) (fun _ s₁ => wpAny (MM w) A (assignInOrder ts xs) Q E s₁) E s) : wpAny (MM w) A (assignInOrder (t :: ts) (x :: xs)) Q E s := assignInOrder_cons h
theorem r_bindName {x : Str} {v : Value} {Q : Unit → Shared → Prop} (h : wpAny (MM w) A (storeName env x v) Q E s) : wpAny (MM w) A (bindName env x v) Q E s := bindName_ h
theorem r_assignTup2 {e1 e2 : PySem.Expr} {k : Nat} {pos : Pos} {x y : Value} {Q : Unit → Shared → Prop} (hh : A.handled = none) (H : St s₀ B D s) (hm : (l, TupC [x, y]) ∈ D)
    (he : assignEach [e1, e2] env = [(false, assign e1 env), (false, assign e2 env)])
    (h : ∀ s', St s₀ B D s' → wpAny (MM w) A (assign e1 env x) (fun _ s₁ => wpAny (MM w) A (assign e2 env y) Q E s₁) E s') : wpAny (MM w) A (assign (.Tuple [e1, e2] k pos) env (.ref l)) Q E s := by
  refine r_assignTup hh H hm (by rw [he]; rfl) (by rw [he]; rfl) fun s' H' => ?_
  rw [he]
  exact r_inOrderC (wpAny_mono (h s' H') (fun _ s₁ h₁ => r_inOrderC (wpAny_mono h₁ (fun _ _ h₂ => r_inOrderN h₂) fun _ _ z => z)) fun _ _ z => z)
theorem r_assignTup3 {e1 e2 e3 : PySem.Expr} {k : Nat} {pos : Pos} {x y z : Value} {Q : Unit → Shared → Prop} (hh : A.handled = none) (H : St s₀ B D s) (hm : (l, TupC [x, y, z]) ∈ D)
    (he : assignEach [e1, e2, e3] env = [(false, assign e1 env), (false, assign e2 env), (false, assign e3 env)])
    (h : ∀ s', St s₀ B D s' → wpAny (MM w) A (assign e1 env x) (fun _ s₁ => wpAny (MM w) A (assign e2 env y) (fun _ s₂ => wpAny (MM w) A (assign e3 env z) Q E s₂) E s₁) E s') : wpAny (MM w) A (assign (.Tuple [e1, e2, e3] k pos) env (.ref l)) Q E s := by
  refine r_assignTup hh H hm (by rw [he]; rfl) (by rw [he]; rfl) fun s' H' => ?_
  rw [he]
  exact r_inOrderC (wpAny_mono (h s' H') (fun _ s₁ h₁ => r_inOrderC (wpAny_mono h₁ (fun _ s₂ h₂ => r_inOrderC (wpAny_mono h₂ (fun _ _ h₃ => r_inOrderN h₃) fun _ _ z => z)) fun _ _ z => z)) fun _ _ z => z)
noncomputable def TwoOf : List Value → (Value → Value → Prop) → Prop
  | [x, y], P => P x y
  | _, _ => False
theorem r_two {x y : Value} {P : Value → Value → Prop} (h : P x y) : TwoOf [x, y] P := h
theorem r_asTupSw2 {a b : Str} {pa pb : Pos} {k : Nat} {tpos pos : Pos} {value : PySem.Expr} {rest : List Stmt} {Q : Flow → Shared → Prop}
    (hs : swapsWithSole [.Tuple [.Name a pa, .Name b pb] k tpos] value pos.line env = pure false) (hw : swappedStores [.Tuple [.Name a pa, .Name b pb] k tpos] value env = pure (some [a, b]))
    (h : wpAny (MM w) A (eval value env) (fun v s₁ => wpAny (MM w) A (unpackItems v 2 none) (fun items s₂ => TwoOf items fun x y =>
      wpAny (MM w) A (storeName env b y) (fun _ s₃ => wpAny (MM w) A (storeName env a x) (fun _ s₄ => wpAny (MM w) A (execs rest env) Q E s₄) E s₃) E s₂) E s₁) E s) :
    wpAny (MM w) A (execs (.Assign [.Tuple [.Name a pa, .Name b pb] k tpos] value pos :: rest) env) Q E s := by
  refine r_asTupSw hs hw (wpAny_mono h (fun v s₁ h₁ => wpAny_mono h₁ (fun items s₂ h₂ => ?_) fun _ _ z => z) fun _ _ z => z)
  match items, h₂ with
  | [x, y], h₂ =>
    show wpAny (MM w) A (assignInOrder [fun v => bindName env b v, fun v => bindName env a v] [y, x]) _ _ _
    exact r_inOrderC (bindName_ (wpAny_mono h₂ (fun _ s₃ h₃ => r_inOrderC (bindName_ (wpAny_mono h₃ (fun _ s₄ h₄ => r_inOrderN h₄) fun _ _ z => z))) fun _ _ z => z))
theorem r_itemT {vs : List Value} {value slice : PySem.Expr} {k : Int} {t : Tok} {v : Value} {Q : Value → Shared → Prop} (H : St s₀ B D s) (hm : (l, TupC vs) ∈ D)
    (h0 : 0 ≤ k) (hf : k < 2 ^ 60) (hx : vs[k.toNat]? = some v)
    (hs : subscripted slice false (.ref l) (.int k t) = operate [.ref l, .int k t] (getItem (.ref l) (.int k t))) (hg : ∀ r, letTemporaryGo value (.ref l) r = pure ()) (h : Q v s) :
    wpAny (MM w) A (subscriptTail value slice (.ref l) (.int k t)) Q E s := by
  have hj : seqIndex? k vs.length = some k.toNat := by
    have := (List.getElem?_eq_some_iff.mp hx).1
    unfold seqIndex?
    dsimp only
    rw [if_neg (show ¬ k < 0 by omega), if_pos (by simp only [Bool.and_eq_true, decide_eq_true_eq]; omega)]
  exact item_tupleL (H.isTup hm) (by omega) (by omega) hj hx h hs hg
theorem r_and {x : PySem.Expr} {rest : List PySem.Expr} {pos : Pos} {whole : Sem Value} {Q : Bool → Shared → Prop}
    (h : wpAny (MM w) A (isTrue x env (eval x env)) (fun c s' => if c then wpAny (MM w) A (isTrue (.BoolOp .And rest pos) env whole) Q E s' else Q false s') E s) :
    wpAny (MM w) A (isTrue (.BoolOp .And (x :: rest) pos) env whole) Q E s := isTrue_and h
theorem r_or {x : PySem.Expr} {rest : List PySem.Expr} {pos : Pos} {whole : Sem Value} {Q : Bool → Shared → Prop}
    (h : wpAny (MM w) A (isTrue x env (eval x env)) (fun c s' => if c then Q true s' else wpAny (MM w) A (isTrue (.BoolOp .Or rest pos) env whole) Q E s') E s) :
    wpAny (MM w) A (isTrue (.BoolOp .Or (x :: rest) pos) env whole) Q E s := isTrue_or h
end
end
section
variable {w : World} {A : Around} {E : Value → Shared → Prop} {s₀ s : Shared} {B : Heap} {D D' : Led} {F : Addr × Cell} {a l : Addr} {env : Env}
theorem walk_listI (l it : Addr) (ns : List Int) : Walker w it ns.length (IterL l) (fun i v => ∃ t, v = .int (ns.getD i 0) t) (fun D => (l, IntsC ns) ∈ D) where
  next := fun i hi H hD h => by
    obtain ⟨o, ho, hc, hd⟩ := H.get (.tail _ (.head _))
    obtain ⟨vs, n, hv, hl⟩ := H.ints (.tail _ (.tail _ hD))
    have e : vs.length = ns.length := hv.length
    obtain ⟨t', hx⟩ := hv.get _ _ (getElem?_getD hi)
    refine wpAny_pyNext_list_item ⟨o, ho, hc, hd⟩ hl.isList (x := .int (ns.getD i 0) t') (by simpa using hx) fun h' hit hs => h _ _ ⟨_, rfl⟩ (H.upd' upd2 hs ?_)
    obtain ⟨o', ho', hc', hd'⟩ := hit
    exact ⟨o', ho', hc', hd'⟩
  stop := fun hh H hD h => by
    obtain ⟨o, ho, hc, hd⟩ := H.get (.tail _ (.head _))
    obtain ⟨vs, n, hv, hl⟩ := H.ints (.tail _ (.tail _ hD))
    have e : vs.length = ns.length := hv.length
    exact wpAny_pyNext_list_end hh ⟨o, ho, hc, hd⟩ hl.isList (by simp [e]) fun h' he => h _ (H.dropExt he)
  self := fun i H _ h => by
    obtain ⟨o, ho, hc, hd⟩ := H.get (.tail _ (.head _))
    exact wpAny_pyIter_listiter ⟨o, ho, hc, hd⟩ h
  own := fun i target v H h => by
    obtain ⟨o, ho, hc, hd⟩ := H.get (.tail _ (.head _))
    exact own_of ho hc hd (by decide) h
theorem r_iterListI {ns : List Int} {Q : Value → Shared → Prop} (H : St s₀ B (F :: D) s) (hm : (l, IntsC ns) ∈ F :: D) (h : ∀ it s', St s₀ B (F :: (it, IterL l 0) :: D) s' → Q (.ref it) s') : wpAny (MM w) A (pyIter (.ref l)) Q E s := by
  obtain ⟨vs, n, hv, hl⟩ := H.ints hm
  exact wpAny_pyIter_list hl.isList (h _ _ (H.push (P := IterL l 0) ⟨rfl, rfl⟩).swap)
theorem r_andN {pos : Pos} {whole : Sem Value} {Q : Bool → Shared → Prop} (h : Q true s) : wpAny (MM w) A (isTrue (.BoolOp .And [] pos) env whole) Q E s := isTrue_and_nil h
theorem r_orN {pos : Pos} {whole : Sem Value} {Q : Bool → Shared → Prop} (h : Q false s) : wpAny (MM w) A (isTrue (.BoolOp .Or [] pos) env whole) Q E s := isTrue_or_nil h
theorem tests_nil {Q : Bool → Shared → Prop} (h : Q true s) : wpAny (MM w) A (tests [] env) Q E s := wpAny_pure h
theorem tests_one {c : PySem.Expr} {Q : Bool → Shared → Prop} (h : wpAny (MM w) A (isTrue c env (eval c env)) Q E s) : wpAny (MM w) A (tests [c] env) Q E s := wpAny_tests_one h
theorem compEnd_loc {C it acc : Addr} {P : Cell} {vs : List Value} {J : List (Str × Value) → Led → Prop} {lo lo' : List (Str × Value)} {X : Led}
    (H : St s₀ B ((C, LocC lo) :: X) s) (hl : ∀ p ∈ lo', p ∈ lo) (hX : ((it, P) :: (acc, ListC vs) :: F :: D').Sublist X) (h : J lo' D') : CompEnd s₀ B C it acc F P vs J s :=
  ⟨_, _, (loc_mono H hl).sub (List.Sublist.cons_cons _ hX), h⟩
theorem r_iteT {P R : Prop} {i : Decidable (true = true)} (h : P) : @ite _ (true = true) i P R := by rw [if_pos rfl]; exact h
theorem r_iteF {P R : Prop} {i : Decidable (false = true)} (h : R) : @ite _ (false = true) i P R := by rw [if_neg Bool.false_ne_true]; exact h
theorem r_iteTC {c : Bool} {P R : Prop} {i : Decidable (c = true)} (hc : c = true) (h : P) : @ite _ (c = true) i P R := by rw [if_pos hc]; exact h
theorem r_iteFC {c : Bool} {P R : Prop} {i : Decidable (c = true)} (hc : c = false) (h : R) : @ite _ (c = true) i P R := by rw [if_neg (by rw [hc]; exact Bool.false_ne_true)]; exact h
theorem r_execsT {c : Bool} {X Y : List Stmt} {i : Decidable (c = true)} {Q : Flow → Shared → Prop} (hc : c = true) (h : wpAny (MM w) A (execs X env) Q E s) : wpAny (MM w) A (execs (@ite _ (c = true) i X Y) env) Q E s := by rw [if_pos hc]; exact h
theorem r_execsF {c : Bool} {X Y : List Stmt} {i : Decidable (c = true)} {Q : Flow → Shared → Prop} (hc : c = false) (h : wpAny (MM w) A (execs Y env) Q E s) : wpAny (MM w) A (execs (@ite _ (c = true) i X Y) env) Q E s := by rw [if_neg (by rw [hc]; exact Bool.false_ne_true)]; exact h
theorem r_noneR {P : Prop} (h : P) : Value.none = Value.none ∧ P := ⟨rfl, h⟩
theorem r_mid {α : Type} {x : Sem α} {K : α → Shared → Prop} (P : α → Shared → Prop) (h : wpAny (MM w) A x P E s) (k : ∀ b s', P b s' → K b s') : wpAny (MM w) A x K E s := wpAny_mono h k fun _ _ z => z
theorem r_once {α : Type} {x : Sem α} {K : α → Shared → Prop} {D₁ : Led} (_H : St s₀ B D₁ s) (v : α) (D : Led) (h : wpAny (MM w) A x (fun b s' => b = v ∧ St s₀ B D s') E s) (k : ∀ s', St s₀ B D s' → K v s') :
    wpAny (MM w) A x K E s := wpAny_mono h (fun b s' hb => by rw [hb.1]; exact k s' hb.2) fun _ _ z => z
theorem r_dropL {C : Addr} {lo : List (Str × Value)} {K : Shared → Prop} (H : St s₀ B (F :: (C, LocC lo) :: D) s) (h : ∀ s', St s₀ B (F :: D) s' → K s') : Dropped C K s := r_dropped H.swap h
end
local macro_rules | `(tactic| keq_rows) => mAll [
  "q r_cell ?hk ?hl ?hc ?H ?hm ?hd ?h|hk:r hl:r hc:r H:H hm:m hd:d|",
  "q r_free ?hk ?hl ?hc ?H ?hm ?hd ?hn ?h|hk:r hl:r hc:r H:H hm:m hd:d hn:d|",
  "q r_storeCell ?hk ?hl ?hc ?H ?hm ?h|hk:r hl:r hc:r H:H hm:u|s",
  "p r_andN ?_||",
  "q r_exprNone ?hi ?hs ?h|hi:r hs:r|",
  "p r_noneR ?_||",
  "p r_iteT ?_||",
  "p r_iteF ?_||",
  "q r_execsT ?hc ?h|hc:r|",
  "q r_execsF ?hc ?h|hc:r|",
  "q r_iteTC ?hc ?h|hc:r|",
  "q r_iteFC ?hc ?h|hc:r|",
  "p r_orN ?_||",
  "p r_and ?_||",
  "p r_or ?_||",
  "p r_bindName ?_||",
  "p r_inOrderN ?_||",
  "p r_inOrderC ?_||",
  "p tests_nil ?_||",
  "p tests_one ?_||",
  "q r_max2 ! H ?h||t s",
  "q r_asTupSw2 ?hs ?hw ?h|hs:r hw:r|",
  "p r_two ?_||",
  "q r_asTup ?hs ?hw ?h|hs:r hw:r|",
  "q r_unpackItems ! H ?hm ?hn ?h|hm:m hn:r|s",
  "q r_assignTup2 ! H ?hm ?hn ?h|hm:m hn:r|s",
  "q r_assignTup3 ! H ?hm ?hn ?h|hm:m hn:r|s",
  "q r_iterListI H ?hm ?h|hm:m|it s",
  "q r_ListComp ?hc ?hk ?hn ?hs ?h|hc:r hk:r hn:r hs:i|",
  "q r_assignComp ?hw ?hc ?hk ?hn ?hs ?h|hw:r hc:r hk:r hn:r hs:i|"]
local macro_rules | `(tactic| kfm_turns) => `(tactic| ((with_reducible refine' r_testPlain ?he ?h); (case he => exact rfl)))
noncomputable def IterT (l : Addr) (i : Nat) : Cell := fun o => o.cls = .type "tuple_iterator" ∧ o.data = .fields #[.ref l, .int i 0]
section
variable {w : World} {A : Around} {E : Value → Shared → Prop} {s₀ s : Shared} {B : Heap} {D D' : Led} {F : Addr × Cell} {a l : Addr} {env : Env}
theorem walk_tup (l it : Addr) (vs : List Value) : Walker w it vs.length (IterT l) (fun i v => vs[i]? = some v) (fun D => (l, TupC vs) ∈ D) where
  next := fun i hi H hD h => by
    obtain ⟨o, ho, hc, hd⟩ := H.get (.tail _ (.head _))
    have hl := H.isTup (.tail _ (.tail _ hD))
    refine next_tuple_item ⟨o, ho, hc, hd⟩ hl (x := vs[i]) (by simp [hi]) fun h' hit hs => h _ _ (by simp [hi]) (H.upd' upd2 hs ?_)
    obtain ⟨o', ho', hc', hd'⟩ := hit
    exact ⟨o', ho', hc', hd'⟩
  stop := fun hh H hD h => by
    obtain ⟨o, ho, hc, hd⟩ := H.get (.tail _ (.head _))
    have hl := H.isTup (.tail _ (.tail _ hD))
    exact next_tuple_end hh ⟨o, ho, hc, hd⟩ hl (by simp) fun h' he => h _ (H.dropExt he)
  self := fun i H _ h => by
    obtain ⟨o, ho, hc, hd⟩ := H.get (.tail _ (.head _))
    exact wpAny_pyIter_tupleiter ⟨_, ho, hc, hd⟩ h
  own := fun i target v H h => by
    obtain ⟨o, ho, hc, hd⟩ := H.get (.tail _ (.head _))
    exact own_of ho hc hd (by decide) h
theorem r_iterTup {vs : List Value} {Q : Value → Shared → Prop} (H : St s₀ B (F :: D) s) (hm : (l, TupC vs) ∈ F :: D) (h : ∀ it s', St s₀ B (F :: (it, IterT l 0) :: D) s' → Q (.ref it) s') : wpAny (MM w) A (pyIter (.ref l)) Q E s :=
  iter_tuple (H.isTup hm) (h _ _ (H.push (P := IterT l 0) ⟨rfl, rfl⟩).swap)
theorem r_isB {c d : Bool} {Q : Value → Shared → Prop} (h : Q (.bool (c == d)) s) : wpAny (MM w) A (compareOp .Is (.bool c) (.bool d)) Q E s := is_bool h
theorem r_eqB {c d : Bool} {Q : Value → Shared → Prop} (h : Q (.bool (c == d)) s) : wpAny (MM w) A (compareOp .Eq (.bool c) (.bool d)) Q E s := eq_bool h
theorem r_neB {c d : Bool} {Q : Value → Shared → Prop} (h : Q (.bool (c != d)) s) : wpAny (MM w) A (compareOp .NotEq (.bool c) (.bool d)) Q E s := ne_bool h
theorem r_itemL {vs : List Value} {value slice : PySem.Expr} {k : Int} {t : Tok} {v : Value} {Q : Value → Shared → Prop} (j : Nat) (H : St s₀ B D s) (hm : (l, ListC vs) ∈ D) (hk : k = j) (hx : vs[j]? = some v) (hb : vs.length < 2 ^ 60)
    (hs : subscripted slice false (.ref l) (.int k t) = operate [.ref l, .int k t] (getItem (.ref l) (.int k t))) (h : Q v s) :
    wpAny (MM w) A (subscriptTail value slice (.ref l) (.int k t)) Q E s := by
  have e : k.toNat = j := by omega
  have := (List.getElem?_eq_some_iff.mp hx).1
  exact r_item H hm hs (by omega) (by omega) (by rw [e]; exact hx) h
theorem r_compGoC {x : Str} {it : Addr} {n : Nat} {IC : Nat → Cell} {V : Nat → Value → Prop} {need : Led → Prop} {elt target iter : PySem.Expr} {ifs : List PySem.Expr} {scope : Scope} {pos : Pos} {use : Option (Value → Sem Unit)} {Q : Value → Shared → Prop}
    (W : Walker w it n IC V need) (hh : A.handled = none) (hcell : ∀ m, cellsFrom m scope.names [] = [(x, m)])
    (J : Addr → Nat → List Value → List (Str × Value) → Led → Prop) (hneed : ∀ C acc i vs l D, J C i vs l D → need ((acc, ListC vs) :: F :: D)) (hn : n ≤ 2 ^ 20) (hlen : ∀ C i vs l D, J C i vs l D → vs.length ≤ i)
    (H : St s₀ B (F :: (it, IC 0) :: D) s) (hneed0 : ∀ acc C, need ((acc, ListC []) :: F :: (C + 1, CellC none) :: D)) (hJ : ∀ C, J C 0 [] [] ((C + 1, CellC none) :: D))
    (turn : ∀ C acc i v vs l D s' E', i < n → V i v → J C i vs l D → St s₀ B ((C, LocC l) :: (it, IC (i + 1)) :: (acc, ListC vs) :: F :: D) s' →
      wpAny (MM w) A (assign target (compEnvC scope [(x, C + 1)] C env) v) (fun _ s₂ => wpAny (MM w) A (tests ifs (compEnvC scope [(x, C + 1)] C env)) (fun ok s₃ =>
        if ok = true then wpAny (MM w) A (eval elt (compEnvC scope [(x, C + 1)] C env)) (fun x s₄ => CompEnd s₀ B C it acc F (IC (i + 1)) vs (J C (i + 1) (vs ++ [x])) s₄) E' s₃
        else CompEnd s₀ B C it acc F (IC (i + 1)) vs (J C (i + 1) vs) s₃) E' s₂) E' s')
    (done : ∀ C acc vs l D s', J C n vs l D → St s₀ B (F :: (C, LocC l) :: (acc, ListC vs) :: D) s' → match (motive := Option (Value → Sem Unit) → Prop) use with
      | none => Dropped C (Q (.ref acc)) s'
      | some u => wpAny (MM w) A (u (.ref acc)) (fun _ s'' => Dropped C (Q .none) s'') E s') :
    CompGo w A E (.ListComp elt [⟨target, iter, ifs, 0⟩] scope pos) scope env [] use Q (.ref it) s := by
  have H0 := H.push (P := ListC []) (o := { cls := .type "list", dict := none, data := .seq ([] : List Value).toArray 0 }) ⟨0, rfl⟩
  refine wpAny_newObj_type ?_
  simp only [newFunctionEnv, Option.isSome_some, if_true]
  refine wpAny_bind (wpAny_alloc ?_)
  refine wpAny_bind (wpAny_layCells _ (fun name kind cells => by cases hkc : kind == NameKind.cell <;> simp [hkc]) _ _ _ _ ?_)
  generalize hC : (({ s with heap := s.heap.push { cls := .type "list", dict := none, data := .seq ([] : List Value).toArray 0 } } : Shared).heap.objs.size) = C
  generalize hHeap : ({ s with heap := s.heap.push { cls := .type "list", dict := none, data := .seq ([] : List Value).toArray 0 } } : Shared) = s1 at H0 hC ⊢
  have H1 := H0.push (P := LocC []) (o := { cls := .type "dict", data := .dict #[] }) ⟨fun _ => none, ⟨#[], _, rfl, by intro e he; simp at he, fun _ => rfl⟩, fun _ q => nomatch q⟩
  have hC1 : s1.heap.objs.size + 1 = (s1.heap.push { cls := .type "dict", data := .dict #[] }).objs.size := (Heap.size_push ..).symm
  have ok := cellsFrom_ok scope.names (s1.heap.push { cls := .type "dict", data := .dict #[] }) (s1.heap.objs.size + 1) [] ⟨fun _ _ hm => (nomatch hm), List.Pairwise.nil⟩ (by rw [Heap.size_push]; exact Nat.le_refl _)
  rw [← hC1, hcell] at ok ⊢
  obtain ⟨⟨o, ho, hod⟩, _⟩ := ok.empty _ _ (List.mem_singleton.mpr rfl)
  have H2 := H1.alloc (P := CellC none) (h' := pushCells (s1.heap.push { cls := .type "dict", data := .dict #[] }) scope.names) hC1 (fun b o e => pushCells_keeps _ _ b o e) ho hod
  rw [hC] at H1 H2 ⊢
  have H3 : St s₀ B ((C, LocC []) :: (it, IC 0) :: (s.heap.objs.size, ListC []) :: F :: (C + 1, CellC none) :: D) _ := H2.perm ((List.perm_middle (a := (C + 1, CellC none)) (l₁ := [(C, LocC []), (_, ListC []), F, (it, IC 0)])).symm.trans ((List.perm_middle (a := (it, IC 0)) (l₁ := [(_, ListC []), F])).cons _))
  have loop : ∀ (s₃ : Shared), St s₀ B ((C, LocC []) :: (it, IC 0) :: (s.heap.objs.size, ListC []) :: F :: (C + 1, CellC none) :: D) s₃ →
      codeAny (MM w) A (.compLoop (.ListComp elt [⟨target, iter, ifs, 0⟩] scope pos) 0 (.ref it) (.ref s.heap.objs.size) (compEnvC scope [(x, C + 1)] C env)) (compPost (MM w) A E use Q (.ref s.heap.objs.size) C) s₃ := fun s₃ H₃ => by
    refine r_compLoop W hh (J C) (hneed C _) hn (hlen C) H₃ (hJ C) (turn C _) fun vs l D s' hJ' H' => ?_
    have := done C _ vs l D s' hJ' (H'.perm (((List.Perm.swap _ _ _).cons _).trans (.swap _ _ _)))
    cases use with
    | none => exact this
    | some u => exact this
  rw [List.forIn_nil]
  refine wpAny_bind (wpAny_pure (wpAny_pure ?_))
  exact codeAny_compStart_list (loop _ H3) (W.self 0 H3 (hneed0 _ _) (loop _ H3))
end
local macro_rules | `(tactic| keq_rows) => mAll [
  "p r_isB ?_||",
  "p r_eqB ?_||",
  "p r_neB ?_||",
  "q r_iterTup H ?hm ?h|hm:m|it s",
  "q r_iterList H ?hm ?h|hm:m|it s"]
-- wlk8
noncomputable def ITupC (ns : List Int) : Cell := fun o => ∃ vs, IntsAre vs ns ∧ TupC vs o
theorem IntsAre.inv : ∀ {vs : List Value} {n : Int} {ns : List Int}, IntsAre vs (n :: ns) → ∃ t us, vs = .int n t :: us ∧ IntsAre us ns
  | _, _, _, .cons n t r => ⟨t, _, rfl, r⟩
theorem reads_ints (h : Heap) : ∀ {vs : List Value} {ns : List Int}, IntsAre vs ns → ReadsAll h vs (ns.map .int) []
  | _, _, .nil => .nil
  | _, _, .cons n t r => .cons (as := []) (.int n t) (reads_ints h r)
theorem lay_ints : ∀ (ns : List Int), PyData.canLayAll0 (ns.map .int) = true
  | [] => rfl
  | n :: ns => by simp [PyData.canLayAll0, PyData.canLay0, lay_ints ns]
theorem depth_ints : ∀ (ns : List Int), PyData.depthAll (ns.map .int) ≤ 1
  | [] => by simp [PyData.depthAll]
  | n :: ns => by simp [PyData.depthAll, PyData.depth]; exact depth_ints ns
section
variable {w : World} {A : Around} {E : Value → Shared → Prop} {s₀ s : Shared} {B : Heap} {D D' : Led} {F : Addr × Cell} {a l : Addr} {env : Env}
theorem St.itup {ns : List Int} (H : St s₀ B D s) (h : (l, ITupC ns) ∈ D) : ∃ vs n, IntsAre vs ns ∧ s.heap.get? l = some { cls := .type "tuple", dict := none, data := .seq vs.toArray n, slots := #[] } := by
  obtain ⟨o, ho, vs, hi, n, rfl⟩ := H.get h
  exact ⟨vs, n, hi, ho⟩
theorem St.readsT {ns : List Int} (H : St s₀ B D s) (h : (l, ITupC ns) ∈ D) : Reads s.heap (.ref l) (.tuple (ns.map .int)) [] := by
  obtain ⟨vs, n, hi, ho⟩ := H.itup h
  exact .tuple ho rfl rfl (reads_ints _ hi)
theorem eqv_ints (ns ms : List Int) : PyData.eqv (.tuple (ns.map .int)) (.tuple (ms.map .int)) = decide (ns = ms) := by
  rw [PyData.eqv, ked_eqvAll]
theorem shaped_ints (ns : List Int) : SeqAt.shaped (.tuple (ns.map .int)) = true := by
  have h1 := lay_ints ns
  have h2 := depth_ints ns
  unfold SeqAt.shaped
  rw [PyData.canLay0, PyData.depth, h1, Bool.true_and, decide_eq_true_eq]
  omega
theorem r_neITup {n : Nat} {ns ms : List Int} {b : Addr} {Q : Value → Shared → Prop} (hA : Ok A n) (H : St s₀ B D s) (hl : (l, ITupC ns) ∈ D) (hb : (b, ITupC ms) ∈ D) (h : Q (.bool (!decide (ns = ms))) s) :
    wpAny (MM w) A (compareOp .NotEq (.ref l) (.ref b)) Q E s :=
  ne_dataH (H.readsT hl) (H.readsT hb) (shaped_ints ns) (shaped_ints ms) (by have := hA.hu; omega) (by rw [eqv_ints]; exact h)
theorem readsAllT : ∀ {as : List Addr} {rows : List (List Int)} (_ : as.length = rows.length) (_ : ∀ i a, as[i]? = some a → Reads s.heap (.ref a) (.tuple ((rows.getD i []).map .int)) []),
    ReadsAll s.heap (as.map .ref) (rows.map fun r => .tuple (r.map .int)) []
  | [], [], _, _ => .nil
  | a :: as, r :: rows, hl, h => .cons (as := []) (h 0 a rfl) (readsAllT (by simpa using hl) fun i a ha => by simpa using h (i + 1) a (by simpa using ha))
theorem layT : ∀ (rows : List (List Int)), PyData.canLayAll0 (rows.map fun r => .tuple (r.map .int)) = true
  | [] => rfl
  | r :: rows => by simp only [List.map_cons, PyData.canLayAll0, PyData.canLay0, lay_ints r, layT rows, Bool.and_true]
theorem any_T (ms : List Int) : ∀ (rows : List (List Int)), ((rows.map fun r => PyData.tuple (r.map .int)).any fun y => PyData.eqv y (.tuple (ms.map .int))) = decide (ms ∈ rows)
  | [] => by simp
  | r :: rows => by
    rw [List.map_cons, List.any_cons, any_T ms rows, eqv_ints]
    by_cases h : r = ms
    · simp [h]
    · have h' : ¬ ms = r := fun e => h e.symm
      simp [h, h']
theorem r_notInITups {n : Nat} {as : List Addr} {rows : List (List Int)} {ms : List Int} {b : Addr} {Q : Value → Shared → Prop} (hA : Ok A n) (H : St s₀ B D s) (hl : (l, ListC (as.map .ref)) ∈ D) (hlen : as.length = rows.length)
    (hr : ∀ i a, as[i]? = some a → (a, ITupC (rows.getD i [])) ∈ D) (hb : (b, ITupC ms) ∈ D) (h : Q (.bool (!decide (ms ∈ rows))) s) :
    wpAny (MM w) A (compareOp .NotIn (.ref b) (.ref l)) Q E s := by
  obtain ⟨n, hl'⟩ := H.isL hl
  refine PySem.SeqAt.notIn_list_reads (xs := rows.map fun r => .tuple (r.map .int)) (Reads.list hl' rfl rfl (by simpa using readsAllT hlen fun i a ha => H.readsT (hr i a ha))) (H.readsT hb) (layT rows) ?_ ?_ ?_
  · rw [PyData.canLay0]; exact lay_ints ms
  · have h2 := depth_ints ms
    have : (PyData.tuple (ms.map .int)).depth ≤ 2 := by rw [PyData.depth]; omega
    have := hA.hu
    have := Nat.min_le_right (PyData.depthAll (rows.map fun r => PyData.tuple (r.map .int))) (PyData.tuple (ms.map .int)).depth
    omega
  · rw [any_T]; exact h
theorem r_newITup {vs : List Value} {ns : List Int} {Q : Value → Shared → Prop} (H : St s₀ B (F :: D) s) (hi : IntsAre vs ns) (hn : ns.length ≤ 1000) (h : ∀ l s', St s₀ B (F :: (l, ITupC ns) :: D) s' → Q (.ref l) s') : wpAny (MM w) A (newTuple vs) Q E s := by
  have e := hi.length
  refine r_newTup H (by rw [sizeLine_eq]; omega) fun l s' H' => h _ _ (H'.imp upd2 fun o ho => ⟨vs, hi, ho⟩)
theorem r_assignITup3 {e1 e2 e3 : PySem.Expr} {k : Nat} {pos : Pos} {x y z : Int} {Q : Unit → Shared → Prop} (hh : A.handled = none) (H : St s₀ B D s) (hm : (l, ITupC [x, y, z]) ∈ D)
    (he : assignEach [e1, e2, e3] env = [(false, assign e1 env), (false, assign e2 env), (false, assign e3 env)])
    (h : ∀ t1 t2 t3 s', St s₀ B D s' → wpAny (MM w) A (assign e1 env (.int x t1)) (fun _ s₁ => wpAny (MM w) A (assign e2 env (.int y t2)) (fun _ s₂ => wpAny (MM w) A (assign e3 env (.int z t3)) Q E s₂) E s₁) E s') : wpAny (MM w) A (assign (.Tuple [e1, e2, e3] k pos) env (.ref l)) Q E s := by
  obtain ⟨o, ho, vs, hi, hT⟩ := H.get hm
  obtain ⟨t1, us1, rfl, hi1⟩ := IntsAre.inv hi
  obtain ⟨t2, us2, rfl, hi2⟩ := IntsAre.inv hi1
  obtain ⟨t3, us3, rfl, hi3⟩ := IntsAre.inv hi2
  cases hi3
  obtain ⟨D', U⟩ := Upd.of_mem hm (TupC [.int x t1, .int y t2, .int z t3])
  obtain ⟨n, rfl⟩ := hT
  have ht : IsTup s.heap l [Value.int x t1, .int y t2, .int z t3].toArray := ⟨_, ho, rfl, _, rfl⟩
  refine assign_Tuple_tuple hh ht (by rw [he]; rfl) (by rw [he]; rfl) fun h' hx => ?_
  rw [he]
  exact r_inOrderC (wpAny_mono (h t1 t2 t3 _ (H.growBut hx)) (fun _ s₁ h₁ => r_inOrderC (wpAny_mono h₁ (fun _ s₂ h₂ => r_inOrderC (wpAny_mono h₂ (fun _ _ h₃ => r_inOrderN h₃) fun _ _ z => z)) fun _ _ z => z)) fun _ _ z => z)
theorem r_assignITup2 {e1 e2 : PySem.Expr} {k : Nat} {pos : Pos} {x y : Int} {Q : Unit → Shared → Prop} (hh : A.handled = none) (H : St s₀ B D s) (hm : (l, ITupC [x, y]) ∈ D)
    (he : assignEach [e1, e2] env = [(false, assign e1 env), (false, assign e2 env)])
    (h : ∀ t1 t2 s', St s₀ B D s' → wpAny (MM w) A (assign e1 env (.int x t1)) (fun _ s₁ => wpAny (MM w) A (assign e2 env (.int y t2)) Q E s₁) E s') : wpAny (MM w) A (assign (.Tuple [e1, e2] k pos) env (.ref l)) Q E s := by
  obtain ⟨o, ho, vs, hi, hT⟩ := H.get hm
  obtain ⟨t1, us1, rfl, hi1⟩ := IntsAre.inv hi
  obtain ⟨t2, us2, rfl, hi2⟩ := IntsAre.inv hi1
  cases hi2
  obtain ⟨n, rfl⟩ := hT
  have ht : IsTup s.heap l [Value.int x t1, .int y t2].toArray := ⟨_, ho, rfl, _, rfl⟩
  refine assign_Tuple_tuple hh ht (by rw [he]; rfl) (by rw [he]; rfl) fun h' hx => ?_
  rw [he]
  exact r_inOrderC (wpAny_mono (h t1 t2 _ (H.growBut hx)) (fun _ s₁ h₁ => r_inOrderC (wpAny_mono h₁ (fun _ _ h₃ => r_inOrderN h₃) fun _ _ z => z)) fun _ _ z => z)
theorem walk_itup (l it : Addr) (ns : List Int) : Walker w it ns.length (IterT l) (fun i v => ∃ t, v = .int (ns.getD i 0) t) (fun D => (l, ITupC ns) ∈ D) where
  next := fun i hi H hD h => by
    obtain ⟨o, ho, hc, hd⟩ := H.get (.tail _ (.head _))
    obtain ⟨vs, n, hv, hl⟩ := H.itup (.tail _ (.tail _ hD))
    have e : vs.length = ns.length := hv.length
    obtain ⟨t', hx⟩ := hv.get _ _ (getElem?_getD hi)
    refine next_tuple_item ⟨o, ho, hc, hd⟩ ⟨_, hl, rfl, _, rfl⟩ (x := .int (ns.getD i 0) t') (by simpa using hx) fun h' hit hs => h _ _ ⟨_, rfl⟩ (H.upd' upd2 hs ?_)
    obtain ⟨o', ho', hc', hd'⟩ := hit
    exact ⟨o', ho', hc', hd'⟩
  stop := fun hh H hD h => by
    obtain ⟨o, ho, hc, hd⟩ := H.get (.tail _ (.head _))
    obtain ⟨vs, n, hv, hl⟩ := H.itup (.tail _ (.tail _ hD))
    have e : vs.length = ns.length := hv.length
    exact next_tuple_end hh ⟨o, ho, hc, hd⟩ ⟨_, hl, rfl, _, rfl⟩ (by simp [e]) fun h' he => h _ (H.dropExt he)
  self := fun i H _ h => by
    obtain ⟨o, ho, hc, hd⟩ := H.get (.tail _ (.head _))
    exact wpAny_pyIter_tupleiter ⟨_, ho, hc, hd⟩ h
  own := fun i target v H h => by
    obtain ⟨o, ho, hc, hd⟩ := H.get (.tail _ (.head _))
    exact own_of ho hc hd (by decide) h
theorem r_method1 {pos : Pos} {id : String} {o : Value} {e : PySem.Expr} {rest : List PySem.Expr} {Q : Value → Shared → Prop} (he : starEach (e :: rest) env = (false, eval e env) :: starEach rest env) (hp : (backTo pos (starEach rest env)).any (·.1) = false)
    (h : wpAny (MM w) A (spliced (backTo pos (starEach (e :: rest) env))) (fun vs s₁ => wpAny (MM w) A (call (.builtin id) (o :: vs)) Q E s₁) E s) :
    wpAny (MM w) A (callWith pos (.builtin id) [o] (backTo pos (starEach (e :: rest) env)) []) Q E s := callWith_method1 h he hp
theorem r_method0 {pos : Pos} {id : String} {o : Value} {Q : Value → Shared → Prop} (h : wpAny (MM w) A (call (.builtin id) [o]) Q E s) : wpAny (MM w) A (callWith pos (.builtin id) [o] (backTo pos (starEach [] env)) []) Q E s := callWith_method0 h
theorem r_itemIT {ns : List Int} {value slice : PySem.Expr} {k : Int} {t : Tok} {Q : Value → Shared → Prop} (j : Nat) (H : St s₀ B D s) (hm : (l, ITupC ns) ∈ D) (hk : k = j) (hj : j < ns.length) (hb : ns.length < 2 ^ 60)
    (hs : subscripted slice false (.ref l) (.int k t) = operate [.ref l, .int k t] (getItem (.ref l) (.int k t))) (hg : ∀ r, letTemporaryGo value (.ref l) r = pure ()) (h : ∀ t, Q (.int (ns.getD j 0) t) s) :
    wpAny (MM w) A (subscriptTail value slice (.ref l) (.int k t)) Q E s := by
  obtain ⟨vs, n, hi, ho⟩ := H.itup hm
  have e : vs.length = ns.length := hi.length
  obtain ⟨t', hx⟩ := hi.get _ _ (getElem?_getD hj)
  have hsq : seqIndex? k vs.length = some j := by
    unfold seqIndex?
    dsimp only
    rw [if_neg (show ¬ k < 0 by omega), if_pos (by simp only [Bool.and_eq_true, decide_eq_true_eq]; omega), hk]
    rfl
  exact item_tupleL ⟨_, ho, rfl, _, rfl⟩ (by omega) (by omega) hsq hx (h _) hs hg
end
local macro_rules | `(tactic| keq_rows) => mAll [
  "q MethodCall_ ?h ?he|he:r|",
  "q r_method1 ?he ?hp ?h|he:r hp:r|",
  "p r_method0 ?_||",
  "q r_listMethod H ?hm PySem.F.slot_list_append PySem.F.type_list_append ?h|hm:m|",
  "q r_append H ?hm ?hz ?h|hm:u hz:S|s",
  "q IfExp_ ?h||",
  "q r_mul H ?hm ?h|hm:M|t s",
  "q r_assignITup2 ! H ?hm ?he ?h|hm:m he:r|t1 t2 s",
  "q r_assignITup3 ! H ?hm ?he ?h|hm:m he:r|t1 t2 t3 s"]
section
noncomputable def T (l : List Nat) : Str := ⟨l.toArray⟩
theorem T_len (l : List Nat) : (T l).length = l.length := by simp [T, PySem.Str.length]
theorem T_app (a b : List Nat) : T a ++ T b = T (a ++ b) := by
  show (⟨_⟩ : Str) = ⟨_⟩
  simp [T]
theorem T_inj {a b : List Nat} : T a = T b ↔ a = b := by
  constructor
  · intro h
    have := congrArg (fun x : Str => x.cps.toList) h
    simpa [T] using this
  · rintro rfl; rfl
noncomputable def SliceC (l u : Value) : Cell := fun o => o.cls = .type "slice" ∧ o.data = .fields #[l, u, .none]
section
variable {w : World} {A : Around} {E : Value → Shared → Prop} {s₀ s : Shared} {B : Heap} {D D' : Led} {F : Addr × Cell} {a l : Addr} {env : Env}
theorem r_slice {lower upper : Option PySem.Expr} {p : Pos} {Q : Value → Shared → Prop}
    (h : wpAny (MM w) A (evalPart lower env) (fun l s₁ => wpAny (MM w) A (evalPart upper env) (fun u s₂ => ∃ F D, St s₀ B (F :: D) s₂ ∧ ∀ sl s', St s₀ B (F :: (sl, SliceC l u) :: D) s' → Q (.ref sl) s') E s₁) E s) :
    wpAny (MM w) A (eval (.Slice lower upper none p) env) Q E s := by
  refine wpAny_Slice (wpAny_mono h (fun l s₁ h₁ => wpAny_mono h₁ (fun u s₂ h₂ => ?_) fun _ _ z => z) fun _ _ z => z)
  rw [evalPart_none]
  obtain ⟨F, D, H, h₃⟩ := h₂
  exact wpAny_pure (h₃ _ _ ((H.push (P := SliceC l u) (o := { cls := .type "slice", data := .fields #[l, u, .none] }) ⟨rfl, rfl⟩).swap))
theorem r_partN {Q : Value → Shared → Prop} (h : Q .none s) : wpAny (MM w) A (evalPart none env) Q E s := by rw [evalPart_none]; exact wpAny_pure h
theorem r_partS {e : PySem.Expr} {Q : Value → Shared → Prop} (h : wpAny (MM w) A (eval e env) Q E s) : wpAny (MM w) A (evalPart (some e) env) Q E s := by rw [evalPart_some]; exact h
theorem r_sliceEnd {l u : Value} {Q : Value → Shared → Prop} (H : St s₀ B (F :: D) s) (h : ∀ sl s', St s₀ B (F :: (sl, SliceC l u) :: D) s' → Q (.ref sl) s') : ∃ F D, St s₀ B (F :: D) s ∧ ∀ sl s', St s₀ B (F :: (sl, SliceC l u) :: D) s' → Q (.ref sl) s' := ⟨F, D, H, h⟩
theorem St.slice {l u : Value} {sl : Addr} (H : St s₀ B D s) (h : (sl, SliceC l u) ∈ D) : s.heap.IsSliceOf sl l u .none := by
  obtain ⟨o, ho, hc, hd⟩ := H.get h
  exact ⟨o, ho, hc, hd⟩
theorem r_sliceL {sl : Addr} {vs : List Value} {vl vu : Value} {lo hi : Option Int} {value slice : PySem.Expr} {Q : Value → Shared → Prop} (H : St s₀ B (F :: D) s) (hm : (l, ListC vs) ∈ F :: D) (hs : (sl, SliceC vl vu) ∈ F :: D)
    (pl : IsPart vl lo) (pu : IsPart vu hi) (hz : vs.length ≤ 1000)
    (ht : subscripted slice false (.ref l) (.ref sl) = operate [.ref sl, .ref l] (getItem (.ref l) (.ref sl))) (hg : ∀ r, letTemporaryGo value (.ref l) r = pure ())
    (h : ∀ r s', St s₀ B (F :: (r, ListC (slicePick vs.toArray lo hi none).toList) :: D) s' → Q (.ref r) s') : wpAny (MM w) A (subscriptTail value slice (.ref l) (.ref sl)) Q E s := by
  have hl := H.isList hm
  refine tail_of_ItemOn ⟨"list", _, slot_list_getitem.lookup, hl.typeIs, wpAny_getItem_list_slice hl (H.slice hs) pl pu .none (by simp) (h _ _ ?_) (by rw [sizeLine_eq]; simp; omega)⟩ ht hg
  exact ((H.push (P := ListC (slicePick vs.toArray lo hi none).toList) (o := { cls := .type "list", data := .seq (slicePick vs.toArray lo hi none) }) ⟨0, by simp⟩).swap)
theorem r_sliceS {sl : Addr} {x : Str} {t : Tok} {vl vu : Value} {lo hi : Option (Int × Tok)} {value slice : PySem.Expr} {Q : Value → Shared → Prop} (H : St s₀ B D s) (hs : (sl, SliceC (partValue lo) (partValue hi)) ∈ D)
    (hz : x.length ≤ 100000)
    (ht : subscripted slice false (.str x t) (.ref sl) = operate [.ref sl, .str x t] (getItem (.str x t) (.ref sl))) (hg : ∀ r, letTemporaryGo value (.str x t) r = pure ())
    (h : ∀ t' s', St s₀ B D s' → Q (.str (Txt.slice x (lo.map (·.1)) (hi.map (·.1))) t') s') : wpAny (MM w) A (subscriptTail value slice (.str x t) (.ref sl)) Q E s := by
  obtain ⟨o, ho, hc, hd⟩ := H.get hs
  refine tail_of_ItemOn ⟨"str", _, PySem.F.slot_str_getitem.lookup, typeIs_str _ _ _, wpAny_getItem_str_slice (l := lo) (u := hi) (st := none) ⟨o, ho, hc, hd⟩ rfl ?_⟩ ht hg
  have := Txt.slice_le x (lo.map (·.1)) (hi.map (·.1))
  exact post_val_or_str ⟨Nat.le_trans (Txt.slice_le x _ _) (by rw [sizeLine_eq]; omega), fun t' k => h t' _ (H.toks k)⟩
end
end
section
noncomputable def Ns1C (m : Str → Option Value) : Cell := fun o => ∃ es ep, o.data = .dict es ep ∧ StrKeys es ∧ UniqKeys es ∧ ∀ name, nsFind es name = m name
theorem Ns1C.ns {m : Str → Option Value} {o : Obj} (h : Ns1C m o) : NsC m o := let ⟨es, ep, a, b, _, d⟩ := h; ⟨es, ep, a, b, d⟩
theorem ns1_iff {h : Heap} {L : Addr} {m : Str → Option Value} : h.Ns1 L m ↔ ∃ o, h.get? L = some o ∧ Ns1C m o :=
  ⟨fun ⟨o, es, ep, ho, hd, hk, hu, hf⟩ => ⟨o, ho, es, ep, hd, hk, hu, hf⟩, fun ⟨o, ho, es, ep, hd, hk, hu, hf⟩ => ⟨o, es, ep, ho, hd, hk, hu, hf⟩⟩
noncomputable def NsL (l : List (Str × Value)) : Cell := Ns1C fun x => l.lookup x
theorem within_lookup : ∀ (l : List (Str × Value)), Within (fun y => l.lookup y) (l.map (·.1))
  | [], y, h => absurd rfl h
  | (x, v) :: l, y, h => by
    by_cases e : y = x
    · subst e; exact .head _
    · have e' : (y == x) = false := by simpa using e
      have h' : List.lookup y ((x, v) :: l) ≠ none := h
      simp only [List.lookup, e'] at h'
      exact .tail _ (within_lookup l y h')
noncomputable def InstC (C dx : Addr) : Cell := fun o => ∃ sl, o = { cls := .ref C, dict := some dx, data := .plain, slots := sl }
theorem lookIn_ns {m : Str → Option Value} {o : Obj} (h : NsC m o) (name : Str) : lookIn name o = some (m name) := by
  obtain ⟨es, ep, hd, hk, hf⟩ := h
  unfold lookIn
  rw [hd]
  rw [← hf name]
  unfold nsFind findBy
  have hr : es.toList.any (·.refKey) = false := by
    rw [List.any_eq_false]
    intro e he
    obtain ⟨n, t, hkey⟩ := hk e (by simpa using he)
    unfold DictEntry.refKey
    rw [hkey]
    simp
  dsimp only
  rw [hr]
  have e : Array.find? (fun e => e.key.isStr name) es = es.toList.find? (fun e => e.key.isStr name) := by simp
  rw [e]
  cases List.find? (fun e : DictEntry => e.key.isStr name) es.toList with
  | none => rfl
  | some x => rfl
section
variable {w : World} {A : Around} {E : Value → Shared → Prop} {s₀ s : Shared} {B : Heap} {D D' : Led} {F : Addr × Cell} {a l : Addr} {env : Env}
theorem St.inst {x C dx : Addr} {lo : List (Str × Value)} (H : St s₀ B D s) (hx : (x, InstC C dx) ∈ D) (hd : (dx, NsL lo) ∈ D) : ∃ ox od, PySem.W.InstAt s.heap x ox C (some od) ∧ ox.dict = some dx ∧ Ns1C (fun x => lo.lookup x) od := by
  obtain ⟨o, ho, sl, rfl⟩ := H.get hx
  obtain ⟨od, hod, hN⟩ := H.get hd
  exact ⟨_, od, ⟨ho, rfl, rfl, hod⟩, rfl, hN⟩
theorem r_getAttr {x C dx : Addr} {lo : List (Str × Value)} {name : Str} {expr : Bool} {attr : Option Value} {v : Value} {Q : Value → Shared → Prop} (G : Base w B) (H : St s₀ B D s) (hx : (x, InstC C dx) ∈ D) (hd : (dx, NsL lo) ∈ D)
    (hg : plainGet (KF w) C name = true) (hh : hasDictIn (KF w) C = true) (ha : findIn (KF w) (.ref C) name = some attr) (hn : noGet (KF w) attr = true) (hl : lo.lookup name = some v) (hv : handedIn v = true)
    (h : ∀ s', St s₀ B D s' → Q v s') : wpAny (MM w) A (getAttr (.ref x) name expr) Q E s := by
  obtain ⟨ox, od, I, _, hN⟩ := H.inst hx hd
  exact get_value (G.K.keeps H.keep) I (plainGet_of hg).1 (findObj_own hh ha hn (by rw [lookIn_ns hN.ns, hl])) hv (h _ (H.toks _))
inductive SetIn (x : Str) (v : Value) : List (Str × Value) → List (Str × Value) → Prop
  | nil : SetIn x v [] [(x, v)]
  | here {u : Value} {l : List (Str × Value)} : SetIn x v ((x, u) :: l) ((x, v) :: l)
  | there {y : Str} {u : Value} {l l' : List (Str × Value)} : y ≠ x → SetIn x v l l' → SetIn x v ((y, u) :: l) ((y, u) :: l')
theorem SetIn.lookup {x : Str} {v : Value} {l l' : List (Str × Value)} (h : SetIn x v l l') : (fun y => if y = x then some v else l.lookup y) = fun y => l'.lookup y := by
  induction h with
  | nil =>
    funext y
    by_cases e : y = x
    · simp [List.lookup, e]
    · have e' : (y == x) = false := by simpa using e
      simp [List.lookup, e, e']
  | here =>
    funext y
    by_cases e : y = x
    · simp [List.lookup, e]
    · have e' : (y == x) = false := by simpa using e
      simp [List.lookup, e, e']
  | there hy _ ih =>
    rename_i z u l l' _
    funext y
    have := congrFun ih y
    simp only [List.lookup] at this ⊢
    by_cases e : y = z
    · subst e; simp [hy]
    · have e' : (y == z) = false := by simpa using e
      rw [e']; exact this
theorem SetL.lookup {x : Str} {v : Value} {l l' : List (Str × Value)} (h : SetL x v l l') : (fun y => if y = x then some v else l.lookup y) = fun y => l'.lookup y := by
  induction h with
  | nil =>
    funext y
    by_cases e : y = x
    · simp [List.lookup, e]
    · have e' : (y == x) = false := by simpa using e
      simp [List.lookup, e, e']
  | skip _ ih =>
    rw [← ih]; funext y
    by_cases e : y = x
    · simp [e]
    · have e' : (y == x) = false := by simpa using e
      simp [List.lookup, e, e']
  | there hy _ ih =>
    rename_i z u l l' _
    funext y
    have := congrFun ih y
    simp only [List.lookup] at this ⊢
    by_cases e : y = z
    · subst e; simp [hy]
    · have e' : (y == z) = false := by simpa using e
      rw [e']; exact this
theorem r_setAttr {x C dx : Addr} {lo lo' : List (Str × Value)} {name : Str} {v : Value} {Q : Unit → Shared → Prop} (G : Base w B) (H : St s₀ B D s) (hx : (x, InstC C dx) ∈ D) (U : Upd dx (NsL lo) (NsL lo') D D') (hs : SetIn name v lo lo')
    (hsa : findIn (KF w) (.ref C) "__setattr__" = some (some (.builtin "object.__setattr__"))) (hp : plainOver (KF w) C = true) (ht : takerIn (KF w) C name = some none) (hh : (clsIn (KF w) C).any (·.hasDict) = true) (hz : lo'.length ≤ 1000)
    (h : ∀ s', St s₀ B D' s' → Q () s') : wpAny (MM w) A (setAttr (.ref x) name v) Q E s := by
  obtain ⟨ox, od, I, hod, hN⟩ := H.inst hx U.mem
  have X := G.K.keeps H.keep
  refine set_plain X I hsa (osa_open (s := { s with toks := s.toks + 1 }) X I hp ht fun b => ?_)
  obtain ⟨cd, hc, hd'⟩ := any_some hh
  obtain ⟨hx', hcl, hn, -⟩ := I
  obtain ⟨oc, odi, oda, osl⟩ := ox
  dsimp only at hcl hod
  subst hcl hod
  refine wpAny_bind (wpAny_pure (wpAny_bind (wpAny_bind (wpAny_loadPart hx' (wpAny_bind (Looks.here (s := { s with toks := s.toks + 1 }) (looks_clsIn X hc) ?_))))))
  rw [hd']
  refine wpAny_pure (a := some dx) (wpAny_bind (wpAny_pure (wpAny_bind ?_)))
  have hNs : s.heap.Ns1 dx (fun x => lo.lookup x) := ns1_iff.mpr (H.get U.mem)
  refine wpAny_nsSet1 (s := { s with toks := s.toks + 1 }) hNs fun h' hn' hsb => ?_
  rw [SetIn.lookup hs] at hn'
  obtain ⟨o', ho', hN'⟩ := ns1_iff.mp hn'
  have st : ∀ tk, St s₀ B D' { s with heap := h', toks := tk } := fun tk => (H.upd' U hsb ⟨o', ho', hN'⟩).toks tk
  obtain ⟨o2, es, ep, h1, h2, h3⟩ := Heap.Ns1.count hn' (within_lookup lo')
  rw [List.length_map] at h3
  refine wpAny_bind (wpAny_lookBehind h1 (by rw [h2]; exact pastItsLine_dict (by rw [sizeLine_eq]; omega)) ?_)
  exact wpAny_pure (h _ (st _))
theorem r_method {x C dx f : Addr} {lo : List (Str × Value)} {name : Str} {pl : Sem Bool} {Q : Value × List Value → Shared → Prop} (G : Base w B) (H : St s₀ B D s) (hx : (x, InstC C dx) ∈ D) (hd : (dx, NsL lo) ∈ D)
    (hga : findIn (KF w) (.ref C) "__getattribute__" = some (some (.builtin "object.__getattribute__"))) (hk : findIn (KF w) (.ref C) "__getattr__" = some none)
    (hf : findIn (KF w) (.ref C) name = some (some (.ref f))) (ht : typeIn (KF w) (.ref f) = some (.type "function")) (hl : lo.lookup name = none) (h : Q (.ref f, [.ref x]) s) : wpAny (MM w) A (getMethod (.ref x) name pl) Q E s := by
  obtain ⟨ox, od, I, _, hN⟩ := H.inst hx hd
  exact method_fn (G.K.keeps H.keep) I hga hk hf ht (by unfold shadowIn; dsimp only; rw [lookIn_ns hN.ns, hl]; rfl) h
end
end
section
noncomputable def CodeC (qual : Str) : Cell := fun o => ∃ vs t, o.data = .fields vs ∧ vs[1]? = some (.str qual t)
noncomputable def TabC (ps : Array Value) : Cell := fun o => o = tabObj ps
section
variable {w : World} {A : Around} {E : Value → Shared → Prop} {s₀ s : Shared} {B : Heap} {D D' : Led} {F : Addr × Cell} {a l : Addr} {env : Env}
theorem St.extend {P P' : Cell} {h' : Heap} {N : Led} (H : St s₀ B D s) (U : Upd a P P' D D') (hs : Heap.ExtBut a s.heap h') (ho : ∃ o, h'.get? a = some o ∧ P' o)
    (hN : ∀ p ∈ N, s.heap.objs.size ≤ p.1 ∧ ∃ o, h'.get? p.1 = some o ∧ p.2 o) (hnd : (N.map (·.1)).Nodup) (tk : Nat) : St s₀ B (N ++ D') { s with heap := h', toks := tk } := by
  have H' := H.upd U hs ho
  have hlt : ∀ p ∈ D', p.1 < s.heap.objs.size := fun p hp => by
    have e : p.1 ∈ D.map (·.1) := by rw [← U.keys]; exact List.mem_map_of_mem hp
    obtain ⟨q, hq, e⟩ := List.mem_map.mp e
    rw [← e]; exact H.lt (P := q.2) hq
  have hBlt : ∀ b, s.heap.objs.size ≤ b → B.get? b = none := fun b hb => by
    cases q : B.get? b with
    | none => rfl
    | some o' => exact absurd (Heap.lt_size (H.keep _ _ q)) (Nat.not_lt.mpr hb)
  refine ⟨H'.sh, H'.keep, fun p hp => ?_, fun p hp => ?_, ?_⟩
  · rcases List.mem_append.mp hp with hp | hp
    · exact (hN p hp).2
    · exact H'.cell p hp
  · rcases List.mem_append.mp hp with hp | hp
    · exact hBlt _ (hN p hp).1
    · exact H'.new p hp
  · rw [List.map_append, List.nodup_append]
    refine ⟨hnd, H'.nd, fun x hx y hy => ?_⟩
    obtain ⟨p, hp, rfl⟩ := List.mem_map.mp hx
    obtain ⟨q, hq, rfl⟩ := List.mem_map.mp hy
    exact Nat.ne_of_gt (Nat.lt_of_lt_of_le (hlt q hq) (hN p hp).1)
theorem Base.blt (G : Base w B) : ∃ mg, B.Ns mainGlobals mg ∧ ∀ {s₀ s : Shared} {D : Led} {ps : Array Value}, St s₀ B D s → (124, TabC ps) ∈ D → s.heap.Ns mainGlobals mg ∧ mainGlobals ≠ 124 ∧ s.heap.BuiltinsAt mg 124 := by
  obtain ⟨p, loose, mean, mg, mb, T⟩ := G.top
  refine ⟨mg, T.g, fun {s₀ s D ps} H hm => ?_⟩
  obtain ⟨o, ho, rfl⟩ := H.get hm
  have hgs := T.g.keeps H.keep
  obtain ⟨bm, ob, b1, b2, b3, b4, b5, b6⟩ := T.bmain
  have hgP : mainGlobals ≠ 124 := fun q => by
    obtain ⟨o, es, ep, e, hd, _⟩ := hgs
    rw [q, ho] at e; cases e; cases hd
  have hbP : bm ≠ 124 := fun q => by
    have e := H.keep _ _ b3
    rw [q, ho] at e; cases e; cases b4
  have hbG : bm ≠ mainGlobals := fun q => by
    obtain ⟨o, es, ep, e, hd, _⟩ := T.g
    rw [q, e] at b3; cases b3; rw [hd] at b6; cases b6
  exact ⟨hgs, hgP, ⟨bm, ob, b1, b2, hbG, hbP, H.keep _ _ b3, b4, b5, b6⟩⟩
theorem r_lambda {params : Arguments} {body : PySem.Expr} {scope : Scope} {pos : Pos} {ps : Array Value} {clos : List (Str × Addr)} {DD : Cell → Led} {Q : Value → Shared → Prop} (G : Base w B) (H : St s₀ B (F :: D) s) (U : ∀ P', Upd 124 (TabC ps) P' D (DD P'))
    (hdef : defaultsOf params env = ([], [])) (hcl : closureFor scope env = pure clos) (hg : env.globals = mainGlobals) (hcode : env.code = .ref 128) (ht : TriplesOk ps.toList) (hnf : codeAmong pos ps.toList = none)
    (h : ∀ f c' pm ctv s', St s₀ B (F :: (f, ObjC (kla_obj "<lambda>" (env.qual ++ "<lambda>") params body scope clos pm c' ctv)) :: (c', CodeC (env.qual ++ "<lambda>")) :: DD (TabC (ps ++ #[rawInt pos.line, rawInt pos.col, .ref c']))) s' → Q (.ref f) s') :
    wpAny (MM w) A (eval (.Lambda params body scope pos) env) Q E s := by
  obtain ⟨mg, _, hb⟩ := G.blt
  have hm : (124, TabC ps) ∈ F :: D := .tail _ (U (TabC ps)).mem
  obtain ⟨h1, h2, h3⟩ := hb H hm
  obtain ⟨o, ho, rfl⟩ := H.get hm
  refine kla_eval hdef (kla_makeFunction (mg := mg) hcl hg h1 hcode (G.code.keeps H.keep) ho ht hnf h2 h3 fun c' ctv h' tk hx hge hlt hrec htb => ?_)
  obtain ⟨c2, oc, vs, t, e2, hoc, hd, hv⟩ := hrec
  cases e2
  have hk : ∀ b o, h'.get? b = some o → (h'.push (kla_obj "<lambda>" (env.qual ++ "<lambda>") params body scope clos ((mg "__name__").getD .none) c' ctv)).get? b = some o := fun b o e => Heap.get?_push_of_some _ e
  have := H.extend (N := [(h'.objs.size, ObjC (kla_obj "<lambda>" (env.qual ++ "<lambda>") params body scope clos ((mg "__name__").getD .none) c' ctv)), (c', CodeC (env.qual ++ "<lambda>"))])
    (.there (x := F) (U (TabC (ps ++ #[rawInt pos.line, rawInt pos.col, .ref c'])))) (h' := h'.push (kla_obj "<lambda>" (env.qual ++ "<lambda>") params body scope clos ((mg "__name__").getD .none) c' ctv))
    (fun b o ne e => hk _ _ (hx b o ne e)) ⟨_, hk _ _ htb, rfl⟩ (fun p hp => ?_) ?_ tk
  · exact h _ c' _ ctv _ (this.perm (List.perm_middle (a := F) (l₁ := [(_, _), (_, _)])))
  · rcases List.mem_cons.mp hp with rfl | hp
    · exact ⟨Nat.le_trans hge (Nat.le_of_lt hlt), _, Heap.get?_push_size _ rfl, rfl⟩
    · rw [List.mem_singleton.mp hp]
      exact ⟨hge, oc, hk _ _ hoc, vs, t, hd, hv⟩
  · simp only [List.map_cons, List.map_nil, List.nodup_cons, List.mem_singleton, List.not_mem_nil, not_false_eq_true, List.nodup_nil, and_true]
    exact Nat.ne_of_gt hlt
theorem r_def {name : Str} {params : Arguments} {body : List Stmt} {scope : Scope} {pos : Pos} {ps : Array Value} {clos : List (Str × Addr)} {DD : Cell → Led} {rest : List Stmt} {Q : Flow → Shared → Prop} (G : Base w B) (H : St s₀ B (F :: D) s) (U : ∀ P', Upd 124 (TabC ps) P' D (DD P'))
    (hd0 : params.defaults = []) (hk0 : params.kw_defaults = []) (ha : annTrees params none env = []) (hcl : closureFor scope env = pure clos) (hg : env.globals = mainGlobals) (hcode : env.code = .ref 128) (ht : TriplesOk ps.toList) (hnf : codeAmong pos ps.toList = none)
    (h : ∀ f c' doc pm ctv s', St s₀ B (F :: (f, ObjC (fnMade name (qualnameIn env name name) params body scope clos doc pm c' ctv)) :: (c', CodeC (qualnameIn env name name)) :: DD (TabC (ps ++ #[rawInt pos.line, rawInt pos.col, .ref c']))) s' →
      wpAny (MM w) A (storeName env name (.ref f)) (fun _ s'' => wpAny (MM w) A (execs rest env) Q E s'') E s') :
    wpAny (MM w) A (execs (.FunctionDef name params body [] none [] scope none name pos :: rest) env) Q E s := by
  obtain ⟨mg, _, hb⟩ := G.blt
  have hm : (124, TabC ps) ∈ F :: D := .tail _ (U (TabC ps)).mem
  obtain ⟨h1, h2, h3⟩ := hb H hm
  obtain ⟨o, ho, rfl⟩ := H.get hm
  refine wpAny_execs_cons (nestDef_K hd0 hk0 ha (makeFunction_K (mg := mg) hcl hg h1 hcode (G.code.keeps H.keep) ho ht hnf h2 h3 fun c' ctv doc h' tk hx hge hlt hrec htb => ?_))
  obtain ⟨c2, oc, vs, t, e2, hoc, hd, hv⟩ := hrec
  cases e2
  have hk : ∀ b o, h'.get? b = some o → (h'.push (fnMade name (qualnameIn env name name) params body scope clos doc ((mg "__name__").getD .none) c' ctv)).get? b = some o := fun b o e => Heap.get?_push_of_some _ e
  have := H.extend (N := [(h'.objs.size, ObjC (fnMade name (qualnameIn env name name) params body scope clos doc ((mg "__name__").getD .none) c' ctv)), (c', CodeC (qualnameIn env name name))])
    (.there (x := F) (U (TabC (ps ++ #[rawInt pos.line, rawInt pos.col, .ref c'])))) (h' := h'.push (fnMade name (qualnameIn env name name) params body scope clos doc ((mg "__name__").getD .none) c' ctv))
    (fun b o ne e => hk _ _ (hx b o ne e)) ⟨_, hk _ _ htb, rfl⟩ (fun p hp => ?_) ?_ tk
  · exact h _ c' doc _ ctv _ (this.perm (List.perm_middle (a := F) (l₁ := [(_, _), (_, _)])))
  · rcases List.mem_cons.mp hp with rfl | hp
    · exact ⟨Nat.le_trans hge (Nat.le_of_lt hlt), _, Heap.get?_push_size _ rfl, rfl⟩
    · rw [List.mem_singleton.mp hp]
      exact ⟨hge, oc, hk _ _ hoc, vs, t, hd, hv⟩
  · simp only [List.map_cons, List.map_nil, List.nodup_cons, List.mem_singleton, List.not_mem_nil, not_false_eq_true, List.nodup_nil, and_true]
    exact Nat.ne_of_gt hlt
end
end
section
inductive StrsAre : List Value → List (List Nat) → Prop
  | nil : StrsAre [] []
  | cons (x : List Nat) (t : Tok) {vs : List Value} {xs : List (List Nat)} : StrsAre vs xs → StrsAre (.str (T x) t :: vs) (x :: xs)
theorem StrsAre.length {vs : List Value} {xs : List (List Nat)} (h : StrsAre vs xs) : vs.length = xs.length := by
  induction h with
  | nil => rfl
  | cons _ _ _ ih => rw [List.length_cons, List.length_cons, ih]
theorem StrsAre.append' {vs us : List Value} {xs ys : List (List Nat)} (h : StrsAre vs xs) (h' : StrsAre us ys) : StrsAre (vs ++ us) (xs ++ ys) := by
  induction h with
  | nil => exact h'
  | cons x t _ ih => exact .cons x t ih
theorem StrsAre.get {vs : List Value} {xs : List (List Nat)} (h : StrsAre vs xs) : ∀ (k : Nat) (x : List Nat), xs[k]? = some x → ∃ t, vs[k]? = some (.str (T x) t) := by
  induction h with
  | nil => intro k x hx; simp at hx
  | cons x t _ ih =>
    intro k y hy
    cases k with
    | zero => simp at hy; subst hy; exact ⟨t, rfl⟩
    | succ k => simpa using ih k y (by simpa using hy)
theorem StrsAre.values {vs : List Value} {xs : List (List Nat)} (h : StrsAre vs xs) : ∃ l : List (PySem.Str × Tok), vs = strValues l ∧ l.map (·.1) = xs.map T := by
  induction h with
  | nil => exact ⟨[], rfl, rfl⟩
  | cons x t _ ih =>
    obtain ⟨l, e1, e2⟩ := ih
    exact ⟨(T x, t) :: l, by rw [e1]; rfl, by rw [List.map_cons, List.map_cons, e2]⟩
noncomputable def StrsC (xs : List (List Nat)) : Cell := fun o => ∃ vs, StrsAre vs xs ∧ ListC vs o
theorem glued_T : ∀ (rest : List (List Nat)) (x : List Nat), (⟨(rest.map T).foldl (fun acc p => acc ++ (T []).cps ++ p.cps) (T x).cps⟩ : PySem.Str) = T (x ++ rest.flatten)
  | [], x => by simp
  | y :: rest, x => by
    have e : (T x).cps ++ (T []).cps ++ (T y).cps = (T (x ++ y)).cps := by simp [T]
    rw [List.map_cons, List.foldl_cons, e, glued_T rest]
    simp
theorem join_T (xs : List (List Nat)) : Txt.join (T []) (xs.map T) = T xs.flatten := by
  cases xs with
  | nil => rfl
  | cons x xs =>
    show (⟨_⟩ : PySem.Str) = _
    exact glued_T xs x
theorem pick_T (l : List Nat) (a : Nat) : ∀ c : Nat, ((List.range c).map fun k : Nat => ((a : Int) + 1 * (k : Int)).toNat).filterMap (l[·]?) = (l.drop a).take c
  | 0 => by simp
  | c + 1 => by
    rw [List.range_succ, List.map_append, List.filterMap_append, pick_T l a c, List.take_add_one, List.getElem?_drop]
    have e : ((a : Int) + 1 * (c : Int)).toNat = a + c := by omega
    rw [List.map_cons, List.map_nil, e, List.filterMap_cons, List.filterMap_nil]
    cases l[a + c]? <;> rfl
theorem sl_range (l : List Nat) (a b : Nat) (hb : b ≤ l.length) (hab : a ≤ l.length) : (sliceRange (a : Int) (b : Int) 1).filterMap (l[·]?) = (l.take b).drop a := by
  unfold sliceRange
  dsimp only
  rw [pick_T, List.drop_take]
  congr 1
  rw [if_pos (by decide)]
  split <;> omega
theorem Txt.slice_of (l : List Nat) (lo hi : Option Int) (a b : Nat) (hb : b ≤ l.length) (hab : a ≤ l.length) (e : Builtin.Str.strSliceIndices lo hi 1 l.length = sliceRange (a : Int) (b : Int) 1) : Txt.slice (T l) lo hi = T ((l.take b).drop a) := by
  unfold Txt.slice
  have hl : (T l).length = l.length := T_len l
  rw [hl, e]
  have p := sl_range l a b hb hab
  have p' : (sliceRange (a : Int) (b : Int) 1).filterMap ((T l).cps[·]?) = (l.take b).drop a := by
    rw [← p]
    congr 1
    funext k
    simp [T]
  rw [p']
  split
  · rename_i c
    have c' : (sliceRange (a : Int) (b : Int) 1).length = l.length := by simpa using c
    have hlen : (sliceRange (a : Int) (b : Int) 1).length = b - a := by
      unfold sliceRange
      dsimp only
      rw [List.length_map, List.length_range, if_pos (by decide)]
      split <;> omega
    have : b - a = l.length := by omega
    by_cases h0 : l.length = 0
    · have : l = [] := List.length_eq_zero_iff.mp h0
      subst this
      simp
    · have hb' : b = l.length := by omega
      have ha' : a = 0 := by omega
      subst hb'; subst ha'
      simp
  · rfl
theorem slice_T (l : List Nat) (i j : Nat) : Txt.slice (T l) (some (i : Int)) (some (j : Int)) = T ((l.take j).drop i) := by
  rw [Txt.slice_of l (some (i : Int)) (some (j : Int)) (min i l.length) (min j l.length) (by omega) (by omega)]
  · congr 1
    have e1 : l.take (min j l.length) = l.take j := by
      by_cases h : j ≤ l.length
      · rw [Nat.min_eq_left h]
      · rw [Nat.min_eq_right (by omega), List.take_length, List.take_of_length_le (by omega)]
    rw [e1]
    by_cases h : i ≤ l.length
    · rw [Nat.min_eq_left h]
    · rw [Nat.min_eq_right (by omega), List.drop_of_length_le (by simp; omega), List.drop_of_length_le (by simp; omega)]
  · have h1 : ¬ (i : Int) < 0 := by omega
    have h2 : ¬ (j : Int) < 0 := by omega
    have h3 : (1 : Int) > 0 := by decide
    unfold Builtin.Str.strSliceIndices
    simp only [h1, h2, h3, if_true, if_false]
    congr 1 <;> omega
theorem slice_T1 (l : List Nat) (i : Nat) : Txt.slice (T l) (some (i : Int)) none = T (l.drop i) := by
  rw [Txt.slice_of l (some (i : Int)) none (min i l.length) l.length (by omega) (by omega)]
  · congr 1
    rw [List.take_length]
    by_cases h : i ≤ l.length
    · rw [Nat.min_eq_left h]
    · rw [Nat.min_eq_right (by omega), List.drop_of_length_le (by simp), List.drop_of_length_le (by omega)]
  · have h1 : ¬ (i : Int) < 0 := by omega
    have h3 : (1 : Int) > 0 := by decide
    unfold Builtin.Str.strSliceIndices
    simp only [h1, h3, if_true, if_false]
    congr 1; omega
theorem contains_T (l : List Nat) (c : Nat) : Txt.contains (T l) (T [c]) = decide (c ∈ l) := by
  have := StrLaws.found_one (T l) c
  show (!(Builtin.Str.occurrences (T l) ⟨#[c]⟩ 0 (T l).length 1).isEmpty) = _
  rw [this]
  congr 1
end
section
section
variable {w : World} {A : Around} {E : Value → Shared → Prop} {s₀ s : Shared} {B : Heap} {D D' : Led} {F : Addr × Cell} {a l : Addr} {env : Env}
theorem r_strT {x : PySem.Str} {c : List Nat} {k : Nat} {pos : Pos} {Q : Value → Shared → Prop} (hx : x = T c) (H : St s₀ B D s) (h : ∀ t s', St s₀ B D s' → Q (.str (T c) t) s') : wpAny (MM w) A (eval (.Constant (.str x) k pos) env) Q E s := by
  subst hx
  exact Constant_str (h _ _ (H.toks _))
theorem r_addS {x y : List Nat} {t u : Tok} {Q : Value → Shared → Prop} (H : St s₀ B D s) (hz : x.length + y.length ≤ 100000) (h : ∀ t s', St s₀ B D s' → Q (.str (T (x ++ y)) t) s') : wpAny (MM w) A (binaryOp .Add (.str (T x) t) (.str (T y) u)) Q E s :=
  SB.add (fun t' k => by rw [T_app]; exact h _ _ (H.toks _)) (by rw [T_len, T_len, sizeLine_eq]; omega)
theorem r_iaddS {x y : List Nat} {t u : Tok} {Q : Value → Shared → Prop} (H : St s₀ B D s) (hz : x.length + y.length ≤ 100000) (h : ∀ t s', St s₀ B D s' → Q (.str (T (x ++ y)) t) s') : wpAny (MM w) A (inplaceOp .Add (.str (T x) t) (.str (T y) u)) Q E s :=
  SB.iadd (fun t' k => by rw [T_app]; exact h _ _ (H.toks _)) (by rw [T_len, T_len, sizeLine_eq]; omega)
theorem r_eqS {x y : List Nat} {t u : Tok} {Q : Value → Shared → Prop} (h : Q (.bool (decide (x = y))) s) : wpAny (MM w) A (compareOp .Eq (.str (T x) t) (.str (T y) u)) Q E s :=
  P.eq_str (by
    have e : ((T x).cps.toList == (T y).cps.toList) = decide (x = y) := by rw [Bool.eq_iff_iff]; simp [T]
    rw [e]; exact h)
theorem r_neS {x y : List Nat} {t u : Tok} {Q : Value → Shared → Prop} (h : Q (.bool (!decide (x = y))) s) : wpAny (MM w) A (compareOp .NotEq (.str (T x) t) (.str (T y) u)) Q E s :=
  P.ne_str (by
    have e : ((T x).cps.toList != (T y).cps.toList) = !decide (x = y) := by rw [Bool.eq_iff_iff]; simp [T, bne]
    rw [e]; exact h)
theorem r_inS {x : List Nat} {c : Nat} {t u : Tok} {Q : Value → Shared → Prop} (h : Q (.bool (decide (c ∈ x))) s) : wpAny (MM w) A (compareOp .In (.str (T [c]) u) (.str (T x) t)) Q E s :=
  SB.contains (by rw [contains_T]; exact h)
theorem r_itemS {x : List Nat} {c : Nat} {value slice : PySem.Expr} {k : Int} {t u : Tok} {Q : Value → Shared → Prop} (j : Nat) (H : St s₀ B D s) (hk : k = j) (hx : x[j]? = some c) (hz : x.length ≤ 100000)
    (hs : subscripted slice false (.str (T x) t) (.int k u) = operate [.str (T x) t, .int k u] (getItem (.str (T x) t) (.int k u))) (hg : ∀ r, letTemporaryGo value (.str (T x) t) r = pure ())
    (h : ∀ t s', St s₀ B D s' → Q (.str (T [c]) t) s') : wpAny (MM w) A (subscriptTail value slice (.str (T x) t) (.int k u)) Q E s := by
  have hj := (List.getElem?_eq_some_iff.mp hx).1
  refine tail_of_ItemOn ⟨"str", _, PySem.F.slot_str_getitem.lookup, typeIs_str _ _ _, P.getItem_str (c := c) ?_ ?_ (h _ _ (H.toks _))⟩ hs hg
  · rw [hk]
    simp only [Bool.or_eq_false_iff, decide_eq_false_iff_not]
    omega
  · rw [hk]
    have e : seqIndex? (j : Int) (T x).length = some j := by
      rw [T_len]
      unfold seqIndex?
      dsimp only
      rw [if_neg (show ¬ (j : Int) < 0 by omega), if_pos (by simp only [Bool.and_eq_true, decide_eq_true_eq]; omega)]
      rfl
    rw [e]
    simpa [T] using hx
theorem r_sliceT {sl : Addr} {x y : List Nat} {t : Tok} {lo hi : Option (Int × Tok)} {value slice : PySem.Expr} {Q : Value → Shared → Prop} (H : St s₀ B D s) (hs : (sl, SliceC (partValue lo) (partValue hi)) ∈ D)
    (hy : Txt.slice (T x) (lo.map (·.1)) (hi.map (·.1)) = T y) (hz : x.length ≤ 100000)
    (ht : subscripted slice false (.str (T x) t) (.ref sl) = operate [.ref sl, .str (T x) t] (getItem (.str (T x) t) (.ref sl))) (hg : ∀ r, letTemporaryGo value (.str (T x) t) r = pure ())
    (h : ∀ t' s', St s₀ B D s' → Q (.str (T y) t') s') : wpAny (MM w) A (subscriptTail value slice (.str (T x) t) (.ref sl)) Q E s :=
  r_sliceS (vl := .none) (vu := .none) H hs (by rw [T_len]; exact hz) ht hg (by rw [hy]; exact h)
theorem r_ord {c : Nat} {t : Tok} {Q : Value → Shared → Prop} (H : St s₀ B D s) (h : ∀ t s', St s₀ B D s' → Q (.int c t) s') : wpAny (MM w) A (call (.builtin "ord") [.str (T [c]) t]) Q E s :=
  P.ord_of_char (h _ _ (H.toks _))
theorem r_lenS {x : List Nat} {t : Tok} {Q : Value → Shared → Prop} (H : St s₀ B D s) (hz : x.length ≤ 100000) (h : ∀ t s', St s₀ B D s' → Q (.int x.length t) s') : wpAny (MM w) A (call (.builtin "len") [.str (T x) t]) Q E s := by
  refine P.len_str (by rw [T_len]; omega) ?_
  rw [T_len]
  exact h _ _ (H.toks _)
theorem St.strs {xs : List (List Nat)} (H : St s₀ B D s) (h : (l, StrsC xs) ∈ D) : ∃ vs n, StrsAre vs xs ∧ IsL s.heap l vs.toArray n := by
  obtain ⟨o, ho, vs, hi, n, rfl⟩ := H.get h
  exact ⟨vs, n, hi, ho⟩
theorem r_join {xs : List (List Nat)} {t : Tok} {Q : Value → Shared → Prop} (H : St s₀ B D s) (hm : (l, StrsC xs) ∈ D) (hz : ∀ x ∈ xs, x.length ≤ 1000) (hn : xs.length ≤ 100)
    (h : ∀ t s', St s₀ B D s' → Q (.str (T xs.flatten) t) s') : wpAny (MM w) A (call (.builtin "str.join") [.str (T []) t, .ref l]) Q E s := by
  obtain ⟨vs, n, hi, hl⟩ := H.strs hm
  obtain ⟨lp, rfl, e⟩ := hi.values
  refine SC.join (texts := xs.map T) hl.isList e ?_ fun t' k => ?_
  · unfold JoinOk
    rw [Bool.not_eq_true']
    refine StrLaws.joinFits (B := 1000) (fun y hy => ?_) ?_
    · obtain ⟨x, hx, rfl⟩ := List.mem_map.mp hy
      rw [T_len]; exact hz x hx
    · rw [List.length_map, T_len]; simp; omega
  · rw [join_T]; exact h _ _ (H.toks _)
theorem r_strMethod {x : PySem.Str} {t : Tok} {pl : Sem Bool} {Q : Value × List Value → Shared → Prop} (h : Q (.builtin "str.join", [.str x t]) s) : wpAny (MM w) A (getMethod (.str x t) "join" pl) Q E s := GM.join h
theorem r_countMethod {x : PySem.Str} {t : Tok} {pl : Sem Bool} {Q : Value × List Value → Shared → Prop} (h : Q (.builtin "str.count", [.str x t]) s) : wpAny (MM w) A (getMethod (.str x t) "count" pl) Q E s := GM.count h
noncomputable def Y (l : List UInt8) : Array UInt8 := l.toArray
theorem r_bytes {x : List UInt8} {k : Nat} {pos : Pos} {Q : Value → Shared → Prop} (H : St s₀ B D s) (h : ∀ t s', St s₀ B D s' → Q (.bytes (Y x) t) s') : wpAny (MM w) A (eval (.Constant (.bytes x) k pos) env) Q E s :=
  Constant_bytes (h _ _ (H.toks _))
theorem r_addY {x y : List UInt8} {t u : Tok} {Q : Value → Shared → Prop} (H : St s₀ B D s) (hz : x.length + y.length ≤ 100000) (h : ∀ t s', St s₀ B D s' → Q (.bytes (Y (x ++ y)) t) s') : wpAny (MM w) A (binaryOp .Add (.bytes (Y x) t) (.bytes (Y y) u)) Q E s :=
  KBy.add_bytes (by simp [Y]; omega) fun t' k => by
    have e : Y x ++ Y y = Y (x ++ y) := by simp [Y]
    rw [e]; exact h _ _ (H.toks _)
theorem r_sliceY {sl : Addr} {x y : List UInt8} {t : Tok} {vl vu : Value} {lo hi : Option Int} {value slice : PySem.Expr} {Q : Value → Shared → Prop} (H : St s₀ B D s) (hs : (sl, SliceC vl vu) ∈ D)
    (pl : IsPart vl lo) (pu : IsPart vu hi) (hw : KBy.whole (Y x) lo hi = false) (hp : KBy.picked (Y x) lo hi = Y y) (hz : y.length ≤ 1000)
    (ht : subscripted slice false (.bytes (Y x) t) (.ref sl) = operate [.ref sl, .bytes (Y x) t] (getItem (.bytes (Y x) t) (.ref sl))) (hg : ∀ r, letTemporaryGo value (.bytes (Y x) t) r = pure ())
    (h : ∀ t s', St s₀ B D s' → Q (.bytes (Y y) t) s') : wpAny (MM w) A (subscriptTail value slice (.bytes (Y x) t) (.ref sl)) Q E s := by
  refine tail_of_ItemOn ⟨"bytes", _, FB.slot_bytes_getitem.lookup, typeIs_bytes _ _ _, getItem_meets (typeIs_bytes _ _ _) (by decide) FB.slot_bytes_getitem FB.entry_bytes_getitem (FB.args_bytes_getitem_2 _ _) (KBy.meets_slice (Y x) t _ pl pu hw)
    ⟨H.slice hs, ?_, ?_⟩⟩ ht hg
  · rw [hp, sizeLine_eq]; simp [Y]; omega
  · rw [hp]; exact h _ _ (H.toks _)
theorem r_abs {x : Int} {t : Tok} {Q : Value → Shared → Prop} (H : St s₀ B D s) (h : ∀ t s', St s₀ B D s' → Q (.int (if x < 0 then -x else x) t) s') : wpAny (MM w) A (call (.builtin "abs") [.int x t]) Q E s :=
  call_abs_int fun u tk => h _ _ (H.toks _)
theorem r_intI {x : Int} {t : Tok} {Q : Value → Shared → Prop} (h : Q (.int x t) s) : wpAny (MM w) A (call (.type "int") [.int x t]) Q E s := call_int_int h
theorem r_divmod {x y : Int} {t u : Tok} {Q : Value → Shared → Prop} (H : St s₀ B (F :: D) s) (hy : y ≠ 0) (hp : Builtin.divisionGoesByPylong x y = false)
    (h : ∀ l t1 t2 s', St s₀ B (F :: (l, TupC [.int (x.fdiv y) t1, .int (x.fmod y) t2]) :: D) s' → Q (.ref l) s') : wpAny (MM w) A (call (.builtin "divmod") [.int x t, .int y u]) Q E s :=
  divmod_int hy (h _ _ _ _ ((H.push (P := TupC [.int (x.fdiv y) s.toks, .int (x.fmod y) (s.toks + 1)]) (o := { cls := .type "tuple", data := .seq #[.int (x.fdiv y) s.toks, .int (x.fmod y) (s.toks + 1)] }) ⟨0, rfl⟩).swap.toks _)) (Or.inl hp)
end
end
noncomputable def SliceEnd (s₀ : Shared) (B : Heap) (l u : Value) (Q : Value → Shared → Prop) (s : Shared) : Prop := ∃ F D, St s₀ B (F :: D) s ∧ ∀ sl s', St s₀ B (F :: (sl, SliceC l u) :: D) s' → Q (.ref sl) s'
theorem r_sliceH {w : World} {A : Around} {E : Value → Shared → Prop} {s₀ s : Shared} {B : Heap} {D : Led} {env : Env} {lower upper : Option PySem.Expr} {p : Pos} {Q : Value → Shared → Prop} (_H : St s₀ B D s)
    (h : wpAny (MM w) A (evalPart lower env) (fun l s₁ => wpAny (MM w) A (evalPart upper env) (fun u s₂ => SliceEnd s₀ B l u Q s₂) E s₁) E s) :
    wpAny (MM w) A (eval (.Slice lower upper none p) env) Q E s := r_slice h
theorem r_sliceE {s₀ s : Shared} {B : Heap} {D : Led} {F : Addr × Cell} {l u : Value} {Q : Value → Shared → Prop} (H : St s₀ B (F :: D) s) (h : ∀ sl s', St s₀ B (F :: (sl, SliceC l u) :: D) s' → Q (.ref sl) s') : SliceEnd s₀ B l u Q s := ⟨F, D, H, h⟩
local macro_rules | `(tactic| keq_rows) => mAll [
  "q r_strT c ?hx H ?h|hx:D|t s",
  "q r_strT c43 ?hx H ?h|hx:D|t s",
  "q r_strT c45 ?hx H ?h|hx:D|t s",
  "q r_strT c34 ?hx H ?h|hx:D|t s",
  "q r_strT c92 ?hx H ?h|hx:D|t s",
  "q r_strT c10 ?hx H ?h|hx:D|t s",
  "q r_strT c60 ?hx H ?h|hx:D|t s",
  "q r_strT c61.61 ?hx H ?h|hx:D|t s",
  "q r_strT c32.10.9.13 ?hx H ?h|hx:D|t s",
  "q r_strT c10.9.13.32 ?hx H ?h|hx:D|t s",
  "q r_strT c97.115.99.105.105 ?hx H ?h|hx:D|t s",
  "p r_bytes H ?_||t s",
  "q r_addS H ?hz ?h|hz:a|t s",
  "q r_iaddS H ?hz ?h|hz:a|t s",
  "p r_eqS ?_||",
  "p r_neS ?_||",
  "p r_inS ?_||",
  "p r_ord H ?_||t s",
  "q r_lenS H ?hz ?h|hz:o|t s",
  "p r_strMethod ?_||",
  "p r_countMethod ?_||",
  "p r_abs H ?_||t s",
  "p r_intI ?_||",
  "p r_sliceH H ?_||",
  "p r_partN ?_||",
  "p r_partS ?_||",
  "p r_sliceE H ?_||l s"]
section
noncomputable def lettersB (n : Int) : List UInt8 := if n = 0 then [] else [(65 + n.natAbs).toUInt8]
noncomputable def lettersN (n : Int) : List Nat := if n = 0 then [] else [65 + n.natAbs]
theorem num_mem (n : Int) (h1 : -16 < n) (h2 : n < 16) : n ∈ ([-15, -14, -13, -12, -11, -10, -9, -8, -7, -6, -5, -4, -3, -2, -1, 0, 1, 2, 3, 4, 5, 6, 7, 8, 9, 10, 11, 12, 13, 14, 15] : List Int) := by
  have h : ∀ k : Nat, k < 31 → (k : Int) - 15 ∈ ([-15, -14, -13, -12, -11, -10, -9, -8, -7, -6, -5, -4, -3, -2, -1, 0, 1, 2, 3, 4, 5, 6, 7, 8, 9, 10, 11, 12, 13, 14, 15] : List Int) := by decide +kernel
  have := h (n + 15).toNat (by omega)
  rwa [show (((n + 15).toNat : Nat) : Int) - 15 = n by omega] at this
theorem num_cases {P : Int → Prop} (h : ∀ n ∈ ([-15, -14, -13, -12, -11, -10, -9, -8, -7, -6, -5, -4, -3, -2, -1, 0, 1, 2, 3, 4, 5, 6, 7, 8, 9, 10, 11, 12, 13, 14, 15] : List Int), P n) (n : Int) (h1 : -16 < n) (h2 : n < 16) : P n := h n (num_mem n h1 h2)
section
variable {w : World} {A : Around} {E : Value → Shared → Prop} {s₀ s : Shared} {B : Heap} {D D' : Led} {F : Addr × Cell} {a l : Addr}
theorem ap_slice (n : Int) (h1 : -16 < n) (h2 : n < 16) (h0 : n ≠ 0) (AP : List UInt8) (hAP : AP = [65, 66, 67, 68, 69, 70, 71, 72, 73, 74, 75, 76, 77, 78, 79, 80]) (m : Int) (hm : m = if n < 0 then -n else n) :
    KBy.whole (Y AP) (some m) (some (m + 1)) = false ∧ KBy.picked (Y AP) (some m) (some (m + 1)) = Y (lettersB n) := by
  subst hAP hm
  have := num_cases (P := fun n => n ≠ 0 → KBy.whole (Y [65, 66, 67, 68, 69, 70, 71, 72, 73, 74, 75, 76, 77, 78, 79, 80]) (some (if n < 0 then -n else n)) (some ((if n < 0 then -n else n) + 1)) = false ∧
    KBy.picked (Y [65, 66, 67, 68, 69, 70, 71, 72, 73, 74, 75, 76, 77, 78, 79, 80]) (some (if n < 0 then -n else n)) (some ((if n < 0 then -n else n) + 1)) = Y (lettersB n)) (by decide +kernel) n h1 h2 h0
  exact this
set_option maxHeartbeats 4000000 in
theorem c_int2ap {n : Int} {tn : Tok} {Q : Value → Shared → Prop} (G : Base w B) (hA : Ok A 1) (H : St s₀ B D s) (h1 : -16 < n) (h2 : n < 16)
    (h : ∀ t s', St s₀ B D s' → Q (.bytes (Y (lettersB n)) t) s') : wpAny (MM w) A (call (.ref 63) [.int n tn]) Q E s := by
  kpt_turns
  repeat tb_start
  generalize hm : (if n < 0 then -n else n) = m at H
  have hm0 : 0 ≤ m ∧ m < 16 := by split at hm <;> omega
  have hmn : m = 0 ↔ n = 0 := by split at hm <;> omega
  refine r_while (fun k s' => ∃ (x : Int) (v : List UInt8) (t1 t2 t3 : Tok) (lo : List (PySem.Str × Value)), (x = 0 → v = lettersB n) ∧ (x ≠ 0 → x = m ∧ v = []) ∧ k = (if x = 0 then 0 else 1) ∧ St s₀ B ((L, LocC (("val", .bytes (Y v) t1) :: ("AP", .bytes (Y [65, 66, 67, 68, 69, 70, 71, 72, 73, 74, 75, 76, 77, 78, 79, 80]) t2) :: ("num", .int x t3) :: lo)) :: D) s') ?_ _ ⟨m, [], _, _, _, [], fun e => by rw [lettersB, if_pos (hmn.mp e)], fun _ => ⟨rfl, rfl⟩, rfl, H⟩
  clear H
  rintro k s ⟨x, v, t1, t2, t3, lo, hx0, hx1, rfl, H⟩ E'
  have H := loc_mono (l' := [("val", .bytes (Y v) t1), ("AP", .bytes (Y [65, 66, 67, 68, 69, 70, 71, 72, 73, 74, 75, 76, 77, 78, 79, 80]) t2), ("num", .int x t3)]) H (by regstrif_slice)
  kfm_turns
  repeat tb_start
  by_cases c : x = 0
  · have e : (x != 0) = false := by simpa using c
    simp only [e, Bool.false_eq_true, if_false]
    repeat tb_start
    have hv := hx0 c
    subst hv
    exact h _ _ (by exact St.sub H (by regstrif_gather))
  · have e : (x != 0) = true := by simpa using c
    simp only [e, if_true]
    obtain ⟨rfl, rfl⟩ := hx1 c
    have hnp : Builtin.divisionGoesByPylong x 16 = false := PyProof.noPylong_small (by omega)
    repeat tb_start
    refine r_divmod H (by decide) hnp ?_
    clear H
    intro l t4 t5 s H
    have e1 : x.fdiv 16 = 0 := by rw [Int.fdiv_eq_ediv_of_nonneg _ (by decide)]; omega
    have e2 : x.fmod 16 = x := by rw [Int.fmod_eq_emod_of_nonneg _ (by decide)]; omega
    rw [e1, e2] at H
    repeat tb_start
    obtain ⟨p1, p2⟩ := ap_slice n h1 h2 (fun e => c (hmn.mpr e)) _ rfl x hm.symm
    refine r_sliceY H (by tb_rel) (.int _ _) (.int _ _) p1 p2 (by unfold lettersB; split <;> simp) rfl (fun _ => rfl) ?_
    clear H
    intro t s H
    repeat tb_start
    refine r_addY H (by unfold lettersB; split <;> simp) ?_
    clear H
    intro t s H
    rw [List.append_nil]
    repeat tb_start
    refine ⟨0, by simp [c], 0, lettersB n, _, _, _, [], fun _ => rfl, fun e => absurd rfl e, rfl, loc_mono (H.sub (by regstrif_gather)) (by regstrif_slice)⟩
end
end
section
open Builtin
noncomputable abbrev ascii : PySem.Str := PySem.Str.ofString "ascii"
section
variable {b : Array UInt8} {c : UInt8} {cs : List UInt8} {t : Tok} {x : PySem.Str} {n : Nat}
theorem a_road {id : String} : _codecs.decodeRoad id b ascii none [] = (_codecs.runDecoder id _codecs.asciiDecoder none true b 0 [] >>= fun r => mkStr ⟨r.1⟩) := by kernel_rfl
theorem a_text {t1 t2 : Tok} {d : PySem.Str} (hd : ∀ id, _codecs.runDecoder id _codecs.asciiDecoder none true b 0 [] = pure (x.cps, n)) :
    Meets («_codecs.decode.text» ⟨[.bytes b t, .str ascii t1, .none, .str d t2], []⟩) (fun _ R s => x.length ≤ sizeLine ∧ R (.ok (.ret (.str x s.toks))) { s with toks := s.toks + 1 }) := by
  refine .of_wp fun prog w A R s hS => ?_
  obtain ⟨hsz, h⟩ := hS
  show wpAny _ _ (Bytes.bytesLike _ (.bytes b t) >>= fun r => _) _ _ s
  refine wpAny_bind (wpAny_of_eq KBd.like_eq ?_)
  refine wpAny_bind (wpAny_of_eq KBd.held_eq ?_)
  show wpAny _ _ (_codecs.decodeRoad _ b ascii none [] >>= fun v => _) _ _ s
  rw [a_road, hd]
  refine wpAny_bind (wpAny_bind (wpAny_pure ?_))
  exact wpAny_mkStr (wpAny_pure ⟨_, rfl, h⟩) hsz
theorem a_entry {u : Tok} : «bytes.decode» ⟨[.bytes (c :: cs).toArray t, .str ascii u], []⟩ = (mkStr (PySem.Str.ofString "utf-8") >>= fun _ => mkStr ascii >>= fun e => mkStr (PySem.Str.ofString "bytes.decode") >>= fun d =>
    call (.builtin "_codecs.decode.text") [.bytes (c :: cs).toArray t, e, .none, d] >>= fun v => ret v) := by kernel_rfl
theorem a_entry0 {u : Tok} : «bytes.decode» ⟨[.bytes ([] : List UInt8).toArray t, .str ascii u], []⟩ = (rule "bytes.decode.empty" >>= fun _ => retStr PySem.Str.empty) := by kernel_rfl
theorem a_meets {u : Tok} (hd : ∀ id, _codecs.runDecoder id _codecs.asciiDecoder none true (c :: cs).toArray 0 [] = pure (x.cps, n)) :
    Meets («bytes.decode» ⟨[.bytes (c :: cs).toArray t, .str ascii u], []⟩) (fun _ R s => x.length ≤ sizeLine ∧ ∀ t' k, R (.ok (.ret (.str x t'))) { s with toks := k }) := by
  refine .of_wp fun prog w A R s hS => ?_
  obtain ⟨hsz, h⟩ := hS
  rw [a_entry]
  refine wpAny_bind (wpAny_mkStr ?_ (by decide))
  refine wpAny_bind (wpAny_mkStr ?_ (by decide))
  refine wpAny_bind (wpAny_mkStr ?_ (by decide))
  exact wpAny_bind (call_function_meets KBd.kind_text KBd.plain_text KBd.entry_text (KBd.args_text _ _ _ _) (a_text hd) ⟨hsz, wpAny_pure ⟨_, rfl, h _ _⟩⟩)
theorem a_meets0 {u : Tok} : Meets («bytes.decode» ⟨[.bytes ([] : List UInt8).toArray t, .str ascii u], []⟩) (fun _ R s => ∀ t' k, R (.ok (.ret (.str (T []) t'))) { s with toks := k }) := by
  refine .of_wp fun prog w A R s hS => ?_
  rw [a_entry0]
  refine wpAny_bind (wpAny_rule ?_)
  exact wpAny_bind (wpAny_mkStr (wpAny_pure ⟨_, rfl, hS _ _⟩) (by decide))
end
theorem args_decode_2 (a : Value) (x : PySem.Str) (u : Tok) : argsOk "bytes.decode" ⟨[a, .str x u], []⟩ := by unfold argsOk; kernel_rfl
section
variable {w : World} {A : Around} {E : Value → Shared → Prop} {s₀ s : Shared} {B : Heap} {D D' : Led} {F : Addr × Cell} {a l : Addr} {env : Env}
theorem r_decode0 {t u : Tok} {Q : Value → Shared → Prop} (H : St s₀ B D s) (h : ∀ t s', St s₀ B D s' → Q (.str (T []) t) s') : wpAny (MM w) A (call (.builtin "bytes.decode") [.bytes (Y []) t, .str (T [97, 115, 99, 105, 105]) u]) Q E s :=
  call_meets FB.slot_bytes_decode (typeIs_bytes _ _ _) FB.entry_bytes_decode (args_decode_2 _ _ _) a_meets0 fun t' k => h _ _ (H.toks _)
theorem r_decode1 {c : UInt8} {t u : Tok} {Q : Value → Shared → Prop} (H : St s₀ B D s) (hc : ∀ id, _codecs.runDecoder id _codecs.asciiDecoder none true (c :: []).toArray 0 [] = pure ((T [c.toNat]).cps, 1))
    (h : ∀ t s', St s₀ B D s' → Q (.str (T [c.toNat]) t) s') : wpAny (MM w) A (call (.builtin "bytes.decode") [.bytes (Y [c]) t, .str (T [97, 115, 99, 105, 105]) u]) Q E s :=
  call_meets FB.slot_bytes_decode (typeIs_bytes _ _ _) FB.entry_bytes_decode (args_decode_2 _ _ _) (a_meets hc) ⟨by rw [T_len, sizeLine_eq]; simp, fun t' k => h _ _ (H.toks _)⟩
end
theorem run1 (c : UInt8) (hc : c ∈ ([66, 67, 68, 69, 70, 71, 72, 73, 74, 75, 76, 77, 78, 79, 80] : List UInt8)) : ∀ id, _codecs.runDecoder id _codecs.asciiDecoder none true (c :: []).toArray 0 [] = pure ((T [c.toNat]).cps, 1) := by
  intro id
  simp only [List.mem_cons, List.not_mem_nil, or_false] at hc
  rcases hc with rfl | rfl | rfl | rfl | rfl | rfl | rfl | rfl | rfl | rfl | rfl | rfl | rfl | rfl | rfl <;> kernel_rfl
end
section
noncomputable def partsW (r q : List Int) : List Int :=
  [q.getD 0 0 * ((r.getD 0 0 - q.getD 1 0) ^ 2 + r.getD 2 0 - q.getD 2 0), q.getD 0 0 * 2 * r.getD 1 0 * (r.getD 0 0 - q.getD 1 0)]
noncomputable def sizeW (r q : List Int) : Int := let p := partsW r q; p.getD 0 0 * max (p.getD 0 0) (-(p.getD 0 0)) + p.getD 1 0 * max (p.getD 1 0) (-(p.getD 1 0)) * r.getD 2 0
noncomputable def signW (r q : List Int) : Int := (if 0 < sizeW r q then 1 else 0) - (if sizeW r q < 0 then 1 else 0)
section
variable {w : World} {A : Around} {E : Value → Shared → Prop} {s₀ s : Shared} {B : Heap} {D D' : Led} {F : Addr × Cell} {a l : Addr}
set_option maxHeartbeats 4000000 in
theorem c_parts {lr lq : Addr} {x side inner e m d : Int} {Q : Value → Shared → Prop} (G : Base w B) (hA : Ok A 1) (H : St s₀ B (F :: D) s) (h1 : (lr, ITupC [x, side, inner]) ∈ F :: D) (h2 : (lq, ITupC [e, m, d]) ∈ F :: D)
    (hs : ∀ y ∈ [x, side, inner, e, m, d], -(2 ^ 60) < y ∧ y < 2 ^ 60)
    (h : ∀ r s', St s₀ B (F :: (r, ITupC (partsW [x, side, inner] [e, m, d])) :: D) s' → Q (.ref r) s') : wpAny (MM w) A (call (.ref 177) [.ref lr, .ref lq]) Q E s := by
  have bx := hs x (by simp)
  have bs := hs side (by simp)
  have bi := hs inner (by simp)
  have be := hs e (by simp)
  have bm := hs m (by simp)
  have bd := hs d (by simp)
  kpt_turns
  repeat tb_start
  refine r_pow H (by decide) (by have := intBits_le_64 (k := x - m) (by omega) (by omega); omega) ?_
  clear H
  intro t s H
  repeat tb_start
  have H := H.imp (a := l) (P' := ITupC (partsW [x, side, inner] [e, m, d])) (by none_booked) (fun o ho => ⟨_, .cons _ _ (.cons _ _ .nil), ho⟩)
  exact h _ _ (St.swap (by exact St.sub H (by regstrif_gather)))
theorem r_iteQ {c : Bool} {P R : Prop} {i : Decidable (c = true)} (h1 : c = true → P) (h2 : c = false → R) : @ite _ (c = true) i P R := by
  cases c with
  | true => exact r_iteT (h1 rfl)
  | false => exact r_iteF (h2 rfl)
set_option maxHeartbeats 4000000 in
theorem c_sign {lr lq : Addr} {x side inner e m d : Int} {Q : Value → Shared → Prop} (G : Base w B) (hA : Ok A 2) (H : St s₀ B (F :: D) s) (h1 : (lr, ITupC [x, side, inner]) ∈ F :: D) (h2 : (lq, ITupC [e, m, d]) ∈ F :: D)
    (hs : ∀ y ∈ [x, side, inner, e, m, d], -(2 ^ 60) < y ∧ y < 2 ^ 60) (hp : ∀ y ∈ partsW [x, side, inner] [e, m, d], -(2 ^ 60) < y ∧ y < 2 ^ 60)
    (h : ∀ t s', St s₀ B (F :: D) s' → Q (.int (signW [x, side, inner] [e, m, d]) t) s') : wpAny (MM w) A (call (.ref 184) [.ref lr, .ref lq]) Q E s := by
  kpt_turns
  repeat tb_start
  refine c_parts G hA H (by tb_rel) (by tb_rel) hs ?_
  clear H
  intro r s H
  have hsg : signW [x, side, inner] [e, m, d] = (if 0 < sizeW [x, side, inner] [e, m, d] then 1 else 0) - (if sizeW [x, side, inner] [e, m, d] < 0 then 1 else 0) := rfl
  have hsz : sizeW [x, side, inner] [e, m, d] = (partsW [x, side, inner] [e, m, d]).getD 0 0 * max ((partsW [x, side, inner] [e, m, d]).getD 0 0) (-((partsW [x, side, inner] [e, m, d]).getD 0 0)) + (partsW [x, side, inner] [e, m, d]).getD 1 0 * max ((partsW [x, side, inner] [e, m, d]).getD 1 0) (-((partsW [x, side, inner] [e, m, d]).getD 1 0)) * inner := rfl
  obtain ⟨a, b, hab⟩ : ∃ a b, partsW [x, side, inner] [e, m, d] = [a, b] := ⟨_, _, rfl⟩
  rw [hab] at H hsz hp
  have ba := hp a (by simp)
  have bb := hp b (by simp)
  have bi := hs inner (by simp)
  simp only [List.getD_cons_zero, List.getD_cons_succ] at hsz
  repeat tb_start
  refine r_itemIT 2 H (by tb_rel) rfl (by simp) (by simp) rfl (fun _ => rfl) fun t => ?_
  repeat tb_start
  refine r_mul H (IntMulOk.of_right (intBits_le_64 (by show -(2 ^ 64) < inner; omega) (by show inner < 2 ^ 64; omega))) ?_
  clear H
  intro t s H
  refine r_add H ?_
  clear H
  intro t s H
  have e3 : ([x, side, inner].getD 2 0) = inner := rfl
  rw [e3, ← hsz]
  generalize sizeW [x, side, inner] [e, m, d] = z at hsg hsz
  repeat tb_start
  by_cases c1 : 0 < z
  · have c2 : ¬ z < 0 := by omega
    refine r_iteTC (decide_eq_true c1) ?_
    repeat tb_start
    refine r_iteFC (decide_eq_false c2) ?_
    repeat tb_start
    rw [if_pos c1, if_neg c2] at hsg
    rw [← hsg]
    exact h _ _ (by exact St.sub H (by regstrif_gather))
  · refine r_iteFC (decide_eq_false c1) ?_
    repeat tb_start
    by_cases c2 : z < 0
    · refine r_iteTC (decide_eq_true c2) ?_
      repeat tb_start
      rw [if_neg c1, if_pos c2] at hsg
      rw [← hsg]
      exact h _ _ (by exact St.sub H (by regstrif_gather))
    · refine r_iteFC (decide_eq_false c2) ?_
      repeat tb_start
      rw [if_neg c1, if_neg c2] at hsg
      rw [← hsg]
      exact h _ _ (by exact St.sub H (by regstrif_gather))
end
end
section
noncomputable def wordN (n : Int) : List Nat := (if n < 0 then 45 else 43) :: lettersN n
section
variable {w : World} {A : Around} {E : Value → Shared → Prop} {s₀ s : Shared} {B : Heap} {D D' : Led} {F : Addr × Cell} {a l : Addr}
theorem letters_cases (n : Int) (h1 : -16 < n) (h2 : n < 16) : (lettersB n = [] ∧ lettersN n = []) ∨ ∃ c : UInt8, lettersB n = [c] ∧ lettersN n = [c.toNat] ∧ c ∈ ([66, 67, 68, 69, 70, 71, 72, 73, 74, 75, 76, 77, 78, 79, 80] : List UInt8) := by
  rcases num_cases (P := fun n => (lettersB n = [] ∧ lettersN n = []) ∨ ∃ c ∈ ([66, 67, 68, 69, 70, 71, 72, 73, 74, 75, 76, 77, 78, 79, 80] : List UInt8), lettersB n = [c] ∧ lettersN n = [c.toNat]) (by decide +kernel) n h1 h2 with h | ⟨c, hc, e1, e2⟩
  · exact .inl h
  · exact .inr ⟨c, e1, e2, hc⟩
theorem r_decode {n : Int} (h1 : -16 < n) (h2 : n < 16) {t u : Tok} {Q : Value → Shared → Prop} (H : St s₀ B D s) (h : ∀ t s', St s₀ B D s' → Q (.str (T (lettersN n)) t) s') :
    wpAny (MM w) A (call (.builtin "bytes.decode") [.bytes (Y (lettersB n)) t, .str (T [97, 115, 99, 105, 105]) u]) Q E s := by
  rcases letters_cases n h1 h2 with ⟨e1, e2⟩ | ⟨c, e1, e2, hc⟩
  · rw [e1]; rw [e2] at h; exact r_decode0 H h
  · rw [e1]; rw [e2] at h; exact r_decode1 H (run1 c hc) h
theorem r_decodeMethod {b : Array UInt8} {t : Tok} {pl : Sem Bool} {Q : Value × List Value → Shared → Prop} (h : Q (.builtin "bytes.decode", [.bytes b t]) s) : wpAny (MM w) A (getMethod (.bytes b t) "decode" pl) Q E s := KBd.method h
set_option maxHeartbeats 4000000 in
theorem c_word {n : Int} {tn : Tok} {Q : Value → Shared → Prop} (G : Base w B) (hA : Ok A 2) (H : St s₀ B D s) (h1 : -16 < n) (h2 : n < 16)
    (h : ∀ t s', St s₀ B D s' → Q (.str (T (wordN n)) t) s') : wpAny (MM w) A (call (.ref 136) [.int n tn]) Q E s := by
  kpt_turns
  repeat tb_start
  apply r_iteQ
  · intro c
    have c' : n < 0 := by simpa using c
    repeat tb_start
    refine c_int2ap G hA H h1 h2 ?_
    clear H
    intro t s H
    repeat tb_start
    refine r_decodeMethod ?_
    repeat tb_start
    refine r_decode h1 h2 H ?_
    clear H
    intro t s H
    refine r_addS H (by unfold lettersN; split <;> simp) ?_
    clear H
    intro t s H
    rw [wordN, if_pos c'] at h
    exact h _ _ (by exact St.sub H (by regstrif_gather))
  · intro c
    have c' : ¬ n < 0 := by simpa using c
    repeat tb_start
    refine c_int2ap G hA H h1 h2 ?_
    clear H
    intro t s H
    repeat tb_start
    refine r_decodeMethod ?_
    repeat tb_start
    refine r_decode h1 h2 H ?_
    clear H
    intro t s H
    refine r_addS H (by unfold lettersN; split <;> simp) ?_
    clear H
    intro t s H
    rw [wordN, if_neg c'] at h
    exact h _ _ (by exact St.sub H (by regstrif_gather))
end
end
noncomputable def DictC {K : Type} [DecidableEq K] {w : World} (knd : KeyKind PR w K) (kvs : List (K × Value)) : Cell := fun o => o.IsDictOf knd kvs
noncomputable def IterS (x : List Nat) (t : Tok) (i : Nat) : Cell := fun o => o.cls = .type "str_ascii_iterator" ∧ o.data = .fields #[.str (T x) t, .int i 0]
section
variable {w : World} {A : Around} {E : Value → Shared → Prop} {s₀ s : Shared} {B : Heap} {D D' : Led} {F : Addr × Cell} {a l : Addr} {env : Env}
noncomputable def DictEnd (w : World) {K : Type} [DecidableEq K] (knd : KeyKind PR w K) (s₀ : Shared) (B : Heap) (d : Addr) (Q : Value → Shared → Prop) (vs : List (Value × Value)) (s : Shared) : Prop :=
  ∃ kvs D D', St s₀ B D s ∧ Upd d (DictC knd []) (DictC knd kvs) D D' ∧ Carries knd vs kvs ∧ (kvs.map (·.1)).Nodup ∧ ∀ s', St s₀ B D' s' → Q (.ref d) s'
theorem isDict_nil {K : Type} [DecidableEq K] (knd : KeyKind PR w K) : ({ cls := .type "dict", data := .dict #[] } : Obj).IsDictOf knd [] :=
  ⟨#[], _, ⟨rfl, rfl, rfl⟩, rfl, by intro e he; simp at he, .nil, List.nodup_nil⟩
theorem r_dict {K : Type} [DecidableEq K] (knd : KeyKind PR w K) {keys : List (Option PySem.Expr)} {values : List PySem.Expr} {pos : Pos} {Q : Value → Shared → Prop} (H : St s₀ B (F :: D) s)
    (hall : keys.all (·.isSome) = true) (hl : keys.length = values.length) (h0 : keys ≠ []) (hlen : keys.length ≤ 15)
    (h : ∀ d s', St s₀ B (F :: (d, DictC knd []) :: D) s' → wpAny (MM w) A (evalPairs (pairTrees keys values env pos)) (DictEnd w knd s₀ B d Q) E s') :
    wpAny (MM w) A (eval (.Dict keys values pos) env) Q E s := by
  refine wpAny_Dict_walk (knd := knd) hall hl h0 hlen (wpAny_mono (h _ _ (H.push (P := DictC knd []) (isDict_nil knd)).swap) (fun vs s₁ h₁ => ?_) fun _ _ z => z)
  obtain ⟨kvs, D1, D2, H1, U, hc, hn, h2⟩ := h₁
  refine ⟨kvs, hc, Heap.dictOf_iff.mpr (H1.get U.mem), fun h' hd hs => ?_⟩
  rw [merged_nil_of_nodup _ hn] at hd
  exact h2 _ ((H1.upd' U hs (Heap.dictOf_iff.mp hd)).toks _)
theorem r_pairC {k v : PySem.Expr} {ks : List (Option PySem.Expr)} {vs : List PySem.Expr} {pos : Pos} {Q : List (Value × Value) → Shared → Prop}
    (h : wpAny (MM w) A (eval k env) (fun kv s₁ => wpAny (MM w) A (eval v env) (fun vv s₂ => wpAny (MM w) A (evalPairs (pairTrees ks vs env pos)) (fun r s₃ => Q ((kv, vv) :: r) s₃) E s₂) E s₁) E s) :
    wpAny (MM w) A (evalPairs (pairTrees (some k :: ks) (v :: vs) env pos)) Q E s := pairTrees_cons_walk h
theorem r_pairN {pos : Pos} {Q : List (Value × Value) → Shared → Prop} (h : Q [] s) : wpAny (MM w) A (evalPairs (pairTrees [] [] env pos)) Q E s := pairTrees_nil_walk h
theorem r_itemD {K : Type} [DecidableEq K] {knd : KeyKind PR w K} {kvs : List (K × Value)} {k : K} {key v : Value} {value slice : PySem.Expr} {Q : Value → Shared → Prop} (H : St s₀ B D s) (hm : (l, DictC knd kvs) ∈ D)
    (hkey : knd.is k key = true) (hv : valueAt kvs k = some v) (hs : subscripted slice false (.ref l) key = operate [.ref l, key] (getItem (.ref l) key)) (hg : ∀ r, letTemporaryGo value (.ref l) r = pure ())
    (h : ∀ s', St s₀ B D s' → Q v s') : wpAny (MM w) A (subscriptTail value slice (.ref l) key) Q E s := by
  have hd := Heap.dictOf_iff.mpr (H.get hm)
  exact subscriptTail_builtin hd.typeIs slot_dict_getitem.lookup (wpAny_getItem_of hkey hd.mapOf hv (h _ (H.toks _))) hs hg
theorem walk_str (it : Addr) (x : List Nat) (t : Tok) : Walker w it x.length (IterS x t) (fun i v => ∃ c u, x[i]? = some c ∧ v = .str (T [c]) u) (fun _ => True) where
  next := fun i hi H _ h => by
    obtain ⟨o, ho, hc, hd⟩ := H.get (.tail _ (.head _))
    refine wpAny_pyNext_ascii_item (x := T x) (c := x[i]) ⟨o, ho, hc, hd⟩ (by simp [T, hi]) fun h' hit hs => h _ _ ⟨x[i], _, by simp [hi], rfl⟩ ((H.upd' upd2 hs ?_).toks _)
    obtain ⟨o', ho', hc', hd'⟩ := hit
    exact ⟨o', ho', hc', hd'⟩
  stop := fun hh H _ h => by
    obtain ⟨o, ho, hc, hd⟩ := H.get (.tail _ (.head _))
    exact wpAny_pyNext_ascii_end (x := T x) hh ⟨o, ho, hc, hd⟩ (by simp [T]) fun h' he => h _ (H.dropExt he)
  self := fun i H _ h => by
    obtain ⟨o, ho, hc, hd⟩ := H.get (.tail _ (.head _))
    exact wpAny_pyIter_striter_ascii (x := T x) ⟨o, ho, hc, hd⟩ h
  own := fun i target v H h => by
    obtain ⟨o, ho, hc, hd⟩ := H.get (.tail _ (.head _))
    exact own_of ho hc hd (by decide) h
theorem r_iterS {x : List Nat} {t : Tok} {Q : Value → Shared → Prop} (H : St s₀ B (F :: D) s) (ha : x.all (· < 128) = true) (h : ∀ it s', St s₀ B (F :: (it, IterS x t 0) :: D) s' → Q (.ref it) s') : wpAny (MM w) A (pyIter (.str (T x) t)) Q E s :=
  wpAny_pyIter_ascii (by simpa [T] using ha) (h _ _ (H.push (P := IterS x t 0) ⟨rfl, rfl⟩).swap)
end
noncomputable def goodE (w : World) : List DictEntry → Prop
  | [] => True
  | e :: r => (match e.key with | .str k _ => e.hash = hashStr w k | _ => False) ∧ goodE w r
theorem goodE.all {w : World} : ∀ {l : List DictEntry}, goodE w l → ∀ e ∈ l, ∃ k, (strKind PR w).is k e.key = true ∧ e.hash = (strKind PR w).hash k
  | [], _, e, he => nomatch he
  | x :: l, ⟨h1, h2⟩, e, he => by
    rcases List.mem_cons.mp he with rfl | he
    · obtain ⟨hash, key, val⟩ := e
      dsimp only at h1 ⊢
      split at h1
      · rename_i k t
        exact ⟨k, strKind_is PR w k t, h1⟩
      · exact h1.elim
    · exact goodE.all h2 e he
theorem tab_map {w : World} {s : Shared} {a : Addr} {es : Array DictEntry} {ep : Nat} (ho : s.heap.get? a = some { cls := .type "dict", dict := none, data := .dict es ep, slots := #[] }) (hg : goodE w es.toList) :
    s.heap.MapOf (strKind PR w) a (fun k => findBy (strKind PR w).is es k) :=
  ⟨_, es, ep, ho, ⟨rfl, rfl, rfl⟩, rfl, fun e he => goodE.all hg e (by simpa using he), fun _ => rfl⟩
section
variable {w : World} {A : Around} {E : Value → Shared → Prop} {s₀ s : Shared} {B : Heap} {D D' : Led} {F : Addr × Cell} {a l : Addr} {env : Env}
theorem r_itemTab {es : Array DictEntry} {ep : Nat} {x : PySem.Str} {t : Tok} {v : Value} {value slice : PySem.Expr} {Q : Value → Shared → Prop} (G : Base w B) (H : St s₀ B D s)
    (ho : (KF w).lookup l = some { cls := .type "dict", dict := none, data := .dict es ep, slots := #[] }) (hg : goodE w es.toList) (hv : findBy (strKind PR w).is es x = some v)
    (hs : subscripted slice false (.ref l) (.str x t) = operate [.ref l, .str x t] (getItem (.ref l) (.str x t))) (ht : ∀ r, letTemporaryGo value (.ref l) r = pure ())
    (h : ∀ s', St s₀ B D s' → Q v s') : wpAny (MM w) A (subscriptTail value slice (.ref l) (.str x t)) Q E s := by
  have M := tab_map (w := w) (s := s) (H.keep _ _ (G.K _ _ ho)) hg
  exact subscriptTail_builtin M.typeIs slot_dict_getitem.lookup (wpAny_getItem_of (strKind_is PR w x t) M hv (h _ (H.toks _))) hs ht
theorem good106 : ∀ {es : Array DictEntry} {ep : Nat}, (KF w).lookup 106 = some { cls := .type "dict", dict := none, data := .dict es ep, slots := #[] } → goodE w es.toList := by
  intro es ep h
  have e : ∃ es' ep', (KF w).lookup 106 = some { cls := .type "dict", dict := none, data := .dict es' ep', slots := #[] } ∧ goodE w es'.toList := by
    refine ⟨_, _, rfl, ?_⟩
    repeat (first | exact trivial | refine ⟨rfl, ?_⟩)
  obtain ⟨es', ep', h1, h2⟩ := e
  rw [h1] at h
  cases h
  exact h2
end
local macro_rules | `(tactic| keq_rows) => mAll [
  "p r_pairC ?_||",
  "p r_pairN ?_||"]
section
noncomputable def sizeN (ls : List Nat) : Int := ls.foldl (fun (z : Int) (c : Nat) => 16 * z + (c : Int) - 65) 0
theorem sizeN_snoc (ls : List Nat) (c : Nat) : sizeN (ls ++ [c]) = 16 * sizeN ls + (c : Int) - 65 := by simp [sizeN]
section
variable {w : World} {A : Around} {E : Value → Shared → Prop} {s₀ s : Shared} {B : Heap} {D D' : Led} {F : Addr × Cell} {a l : Addr}
set_option maxHeartbeats 4000000 in
theorem c_number {sg : Nat} {ls : List Nat} {tn : Tok} {Q : Value → Shared → Prop} (G : Base w B) (hA : Ok A 2) (H : St s₀ B D s) (hs : sg = 43 ∨ sg = 45) (hl : ls.all (· < 128) = true) (hn : ls.length ≤ 1000)
    (h : ∀ t s', St s₀ B D s' → Q (.int (if sg = 43 then 0 + sizeN ls else 0 - sizeN ls) t) s') : wpAny (MM w) A (call (.ref 143) [.str (T (sg :: ls)) tn]) Q E s := by
  kpt_turns
  repeat tb_start
  with_reducible refine' r_dict (intKind PR w) H ?hall ?hl ?h0 ?hlen ?h
  case hall => exact rfl
  case hl => exact rfl
  case h0 => intro e; cases e
  case hlen => decide
  clear H
  intro deeds s H
  repeat tb_start
  refine ⟨[(14, .ref 21), (15, .ref 42)], _, _, H, by none_booked, carries_intKeyPairs _ _ _ rfl, by decide, ?_⟩
  clear H
  intro s H
  repeat tb_start
  refine r_sliceT (y := ls) (lo := some (1, _)) (hi := none) H (by tb_rel) (slice_T1 (sg :: ls) 1) (by simp; omega) rfl (fun _ => rfl) ?_
  clear H
  intro tw s H
  repeat tb_start
  refine r_iterS H hl ?_
  clear H
  intro it s H
  have H := H.sub (D' := (_, _) :: (it, _) :: (deeds, _) :: D) (by regstrif_gather)
  refine r_forLoop (walk_str it ls tw) hA.hh (J := fun i F' D' => (∃ t, F' = (L, LocC [("word", .str (T (sg :: ls)) tn), ("deeds", .ref deeds), ("size", .int (sizeN (ls.take i)) t)])) ∧ D' = (deeds, DictC (intKind PR w) [(14, .ref 21), (15, .ref 42)]) :: D) (fun _ _ _ _ => trivial) (loc_mono H (by regstrif_slice)) ⟨⟨_, rfl⟩, rfl⟩ ?_ ?_
  · rintro i v _ _ s E' hi ⟨c, u, hc, rfl⟩ ⟨⟨t, rfl⟩, rfl⟩ H
    repeat tb_start
    have e : 16 * sizeN (ls.take i) + (c : Int) - 65 = sizeN (ls.take (i + 1)) := by
      rw [List.take_add_one, hc, Option.toList_some, sizeN_snoc]
    rw [e] at H
    exact turn_loc H (by regstrif_slice) (by regstrif_gather) ⟨⟨_, rfl⟩, rfl⟩
  · rintro _ _ s ⟨⟨t, rfl⟩, rfl⟩ H
    rw [List.take_length] at H
    repeat tb_start
    refine r_itemS 0 H rfl (c := sg) rfl (by simp; omega) rfl (fun _ => rfl) ?_
    clear H
    intro tc s H
    rcases hs with rfl | rfl
    · refine r_itemTab (v := .int 14 328) G H rfl (good106 rfl) (by kernel_rfl) rfl (fun _ => rfl) ?_
      clear H
      intro s H
      refine r_itemD (k := 14) H (by tb_rel) (intKind_is PR w _ _) rfl rfl (fun _ => rfl) ?_
      clear H
      intro s H
      repeat tb_start
      refine c_add G hA H ?_
      clear H
      intro t s H
      exact h _ _ (by exact St.sub H (by regstrif_gather))
    · refine r_itemTab (v := .int 15 330) G H rfl (good106 rfl) (by kernel_rfl) rfl (fun _ => rfl) ?_
      clear H
      intro s H
      refine r_itemD (k := 15) H (by tb_rel) (intKind_is PR w _ _) rfl rfl (fun _ => rfl) ?_
      clear H
      intro s H
      repeat tb_start
      refine c_sub G hA H ?_
      clear H
      intro t s H
      exact h _ _ (by exact St.sub H (by regstrif_gather))
end
end
section
noncomputable def wrapW (way : Int) (x : List Nat) : List Nat := if way = 0 then x else if way = 1 then 34 :: x ++ [34] else (x.map fun c => [92, c]).flatten
noncomputable def wsW (turn : Int) (k : Nat) : Nat := ([32, 10, 9, 13] : List Nat).getD ((turn.fdiv 3 + k).fmod 4).toNat 0
noncomputable def pageW (words : List (List Nat)) (turn : Int) : Nat → List Nat
  | 0 => []
  | k + 1 => pageW words turn k ++ wrapW ((turn + k).fmod 3) (words.getD k []) ++ [wsW turn k]
theorem wrapW_len (way : Int) (x : List Nat) : (wrapW way x).length ≤ 2 * x.length + 2 := by
  unfold wrapW
  split
  · omega
  · split
    · simp; omega
    · have : ((x.map fun c => [92, c]).flatten).length = 2 * x.length := by
        induction x with
        | nil => rfl
        | cons a x ih => simp at ih ⊢; omega
      omega
theorem pageW_len (words : List (List Nat)) (turn : Int) (hw : ∀ x ∈ words, x.length ≤ 100) : ∀ k, (pageW words turn k).length ≤ 210 * k
  | 0 => Nat.le_refl _
  | k + 1 => by
    have := pageW_len words turn hw k
    have h2 := wrapW_len ((turn + k).fmod 3) (words.getD k [])
    have h3 : (words.getD k []).length ≤ 100 := by
      by_cases hk : k < words.length
      · rw [List.getD_eq_getElem?_getD, List.getElem?_eq_getElem hk]; exact hw _ (List.getElem_mem hk)
      · rw [List.getD_eq_getElem?_getD, List.getElem?_eq_none (by omega)]; simp
    simp only [pageW, List.length_append, List.length_singleton]
    omega
section
variable {w : World} {A : Around} {E : Value → Shared → Prop} {s₀ s : Shared} {B : Heap} {D D' : Led} {F : Addr × Cell} {a l : Addr} {env : Env}
theorem r_itemStr {xs : List (List Nat)} {value slice : PySem.Expr} {k : Int} {t : Tok} {x : List Nat} {Q : Value → Shared → Prop} (j : Nat) (H : St s₀ B D s) (hm : (l, StrsC xs) ∈ D) (hk : k = j) (hx : xs[j]? = some x) (hb : xs.length < 2 ^ 60)
    (hs : subscripted slice false (.ref l) (.int k t) = operate [.ref l, .int k t] (getItem (.ref l) (.int k t))) (h : ∀ t, Q (.str (T x) t) s) :
    wpAny (MM w) A (subscriptTail value slice (.ref l) (.int k t)) Q E s := by
  obtain ⟨vs, n, hi, hl⟩ := H.strs hm
  obtain ⟨t', hv⟩ := hi.get j x hx
  have hj := (List.getElem?_eq_some_iff.mp hx).1
  have e : k.toNat = j := by omega
  exact tail_any hl.isList.typeIs slot_list_getitem.lookup (wpAny_getItem_list hl.isList (by omega) (by omega) (by rw [e]; simpa using hv) (h _)) hs
theorem r_lenSt {xs : List (List Nat)} {Q : Value → Shared → Prop} (H : St s₀ B D s) (hm : (l, StrsC xs) ∈ D) (hf : (xs.length : Int) < 2 ^ 63) (h : ∀ t s', St s₀ B D s' → Q (.int xs.length t) s') :
    wpAny (MM w) A (call (.builtin "len") [.ref l]) Q E s := by
  obtain ⟨vs, n, hi, hl⟩ := H.strs hm
  have e : vs.length = xs.length := hi.length
  exact call_len_list hl.isList (by simpa [e] using hf) (by simpa [e] using h _ _ (H.toks _))
set_option maxHeartbeats 4000000 in
theorem c_page {lw : Addr} {words : List (List Nat)} {turn : Int} {tn : Tok} {Q : Value → Shared → Prop} (G : Base w B) (hA : Ok A 2) (H : St s₀ B (F :: D) s) (hm : (lw, StrsC words) ∈ F :: D)
    (h0 : 0 ≤ turn) (h1 : turn < 2 ^ 40) (hn : words.length ≤ 20) (hw : ∀ x ∈ words, x.length ≤ 100 ∧ x.all (· < 128) = true)
    (h : ∀ t s', St s₀ B (F :: D) s' → Q (.str (T (pageW words turn words.length)) t) s') : wpAny (MM w) A (call (.ref 148) [.ref lw, .int turn tn]) Q E s := by
  have hlen := pageW_len words turn (fun x hx => (hw x hx).1)
  have hm' : ∀ {x1 x2 : Addr × Cell}, (lw, StrsC words) ∈ x1 :: x2 :: F :: D := .tail _ (.tail _ hm)
  kpt_turns
  repeat tb_start
  refine r_lenSt H (by tb_rel) (by omega) ?_
  clear H
  intro t s H
  repeat tb_start
  have H := H.sub (D' := (_, _) :: (it, _) :: F :: D) (by regstrif_gather)
  refine r_forLoop (walk_range it 0 words.length) hA.hh (J := fun i F' D' => (∃ t, F' = (L, LocC [("words", .ref lw), ("turn", .int turn tn), ("page", .str (T (pageW words turn i)) t)])) ∧ D' = F :: D) (fun _ _ _ _ => trivial) H ⟨⟨_, rfl⟩, rfl⟩ ?_ ?_
  · rintro i v _ _ s E' hi ⟨tv, rfl⟩ ⟨⟨tp, rfl⟩, rfl⟩ H
    have hli := hlen i
    obtain ⟨x, hx⟩ : ∃ x, words[i]? = some x := ⟨_, List.getElem?_eq_getElem hi⟩
    have hg : words.getD i [] = x := by rw [List.getD_eq_getElem?_getD, hx]; rfl
    obtain ⟨hxl, hxa⟩ := hw x (List.mem_of_getElem? hx)
    have hpg : pageW words turn (i + 1) = pageW words turn i ++ wrapW ((turn + i).fmod 3) x ++ [wsW turn i] := by rw [pageW, hg]
    have hwl := wrapW_len ((turn + i).fmod 3) x
    have e0 : turn + (0 + (i : Int)) = turn + i := by omega
    repeat tb_start
    refine r_mod H (by decide) ?_
    clear H
    intro t s H
    rw [e0]
    generalize hway : (turn + (i : Int)).fmod 3 = way at hpg hwl
    repeat tb_start
    let loc (pg : List Nat) (t1 t2 : Tok) : Led := (L, LocC [("words", .ref lw), ("turn", .int turn tn), ("k", .int (0 + (i : Int)) tv), ("way", .int way t1), ("page", .str (T pg) t2)]) :: (it, IterR (0 + (i + 1 : Nat)) ((words.length : Int) - (i + 1 : Nat))) :: F :: D
    refine r_mid (fun f s' => f = .next ∧ ∃ t1 t2, St s₀ B (loc (pageW words turn i ++ wrapW way x) t1 t2) s') ?_ ?_
    · by_cases c0 : way = 0
      · have e : (way == 0) = true := by simpa using c0
        simp only [e, if_true]
        repeat tb_start
        refine r_itemStr i H (by tb_rel) (by omega) hx (by omega) rfl fun t => ?_
        repeat tb_start
        have ew : wrapW way x = x := by rw [wrapW, if_pos c0]
        rw [ew]
        exact ⟨rfl, _, _, loc_mono (H.sub (by regstrif_gather)) (by regstrif_slice)⟩
      · have e : (way == 0) = false := by simpa using c0
        simp only [e, if_false, Bool.false_eq_true]
        repeat tb_start
        by_cases c1 : way = 1
        · have e : (way == 1) = true := by simpa using c1
          simp only [e, if_true]
          repeat tb_start
          refine r_itemStr i H (by tb_rel) (by omega) hx (by omega) rfl fun t => ?_
          repeat tb_start
          have ew : wrapW way x = 34 :: x ++ [34] := by rw [wrapW, if_neg c0, if_pos c1]
          rw [ew]
          exact ⟨rfl, _, _, loc_mono (H.sub (by regstrif_gather)) (by regstrif_slice)⟩
        · have e : (way == 1) = false := by simpa using c1
          simp only [e, if_false, Bool.false_eq_true]
          repeat tb_start
          refine r_itemStr i H (by tb_rel) (by omega) hx (by omega) rfl fun t => ?_
          obtain ⟨it1, ei⟩ : ∃ y, y = it := ⟨_, rfl⟩
          subst ei
          refine r_iterS H hxa ?_
          clear H
          intro it s H
          have hxl1 : x.length ≤ 100 := hxl
          have H := H.sub (D' := (_, _) :: (it, _) :: (it1, _) :: F :: D) (by regstrif_gather)
          refine r_compGo (walk_str it x _) hA.hh rfl rfl (fun k vs lo D' => lo = [] ∧ (D' = (it1, IterR (0 + (i + 1 : Nat)) ((words.length : Int) - (i + 1 : Nat))) :: F :: D) ∧ StrsAre vs ((x.take k).map fun c => [92, c])) ?_ (by omega) ?_ H ⟨rfl, rfl, .nil⟩ ?_ ?_
          · rintro acc k vs lo D' _
            trivial
          · rintro k vs lo D' ⟨_, _, hi⟩
            rw [hi.length, List.length_map, List.length_take]
            omega
          · rintro C acc k v vs lo D' s E3 hk ⟨c, u, hc, rfl⟩ ⟨rfl, rfl, hvs⟩ H
            repeat tb_start
            refine compEnd_loc H (by regstrif_slice) (by regstrif_gather) ⟨rfl, rfl, ?_⟩
            rw [List.take_add_one, hc, List.map_append]
            exact StrsAre.append' hvs (.cons _ _ .nil)
          · rintro C acc vs lo D' s ⟨rfl, rfl, hvs⟩ H
            rw [List.take_length] at hvs
            have H := H.imp (a := acc) (P' := StrsC (x.map fun c => [92, c])) (by none_booked) (fun o ho => ⟨vs, hvs, ho⟩)
            refine r_dropL H fun s H => ?_
            repeat tb_start
            refine r_join H (by tb_rel) (by rintro y hy; obtain ⟨c, _, rfl⟩ := List.mem_map.mp hy; simp) (by simpa using hxl) ?_
            clear H
            intro t s H
            have ew : wrapW way x = (x.map fun c => [92, c]).flatten := by rw [wrapW, if_neg c0, if_neg c1]
            rw [← ew]
            repeat tb_start
            exact ⟨rfl, _, _, loc_mono (H.sub (by regstrif_gather)) (by regstrif_slice)⟩
    · rintro _ s ⟨rfl, t1, t2, H⟩
      simp only [loc] at H
      repeat tb_start
      refine r_div H (by decide) (PyProof.noPylong_small (by decide)) ?_
      clear H
      intro t s H
      repeat tb_start
      rw [show turn.fdiv 3 + (0 + (i : Int)) = turn.fdiv 3 + i by omega]
      refine r_mod H (by decide) ?_
      clear H
      intro t s H
      have hm4 : 0 ≤ (turn.fdiv 3 + (i : Int)).fmod 4 ∧ (turn.fdiv 3 + (i : Int)).fmod 4 < 4 := by
        rw [Int.fmod_eq_emod_of_nonneg _ (by decide)]
        omega
      have hws : ([32, 10, 9, 13] : List Nat)[((turn.fdiv 3 + (i : Int)).fmod 4).toNat]? = some (wsW turn i) := by
        unfold wsW
        generalize (turn.fdiv 3 + (i : Int)).fmod 4 = z at hm4
        have : z = 0 ∨ z = 1 ∨ z = 2 ∨ z = 3 := by omega
        rcases this with rfl | rfl | rfl | rfl <;> rfl
      refine r_itemS ((turn.fdiv 3 + (i : Int)).fmod 4).toNat H (by omega) hws (by decide) rfl (fun _ => rfl) ?_
      clear H
      intro t s H
      refine' r_iaddS H ?hz ?h
      case hz => simp; omega
      clear H
      intro t s H
      repeat tb_start
      rw [← hpg] at H
      exact turn_loc H (by regstrif_slice) (by regstrif_gather) ⟨⟨_, rfl⟩, rfl⟩
  · rintro _ _ s ⟨⟨t, rfl⟩, rfl⟩ H
    repeat tb_start
    exact h _ _ (by exact St.sub H (by regstrif_gather))
end
end
section
noncomputable def inn (x : Int) (two : List Int) (i : Nat) : Nat → List Int → List Int
  | 0, row => row
  | j + 1, row => let r := inn x two i j row; r.set (i + j) (r.getD (i + j) 0 + x * two.getD j 0)
noncomputable def out (one two : List Int) : Nat → List Int → List Int
  | 0, row => row
  | i + 1, row => inn (one.getD i 0) two i two.length (out one two i row)
noncomputable def prodW (one two : List Int) : List Int := out one two one.length (List.replicate (one.length + two.length - 1) 0)
theorem inn_len (x : Int) (two : List Int) (i : Nat) : ∀ (j : Nat) (row : List Int), (inn x two i j row).length = row.length
  | 0, _ => rfl
  | j + 1, row => by simp [inn, inn_len x two i j row]
theorem out_len (one two : List Int) : ∀ (i : Nat) (row : List Int), (out one two i row).length = row.length
  | 0, _ => rfl
  | i + 1, row => by simp [out, inn_len, out_len one two i row]
section
variable {w : World} {A : Around} {E : Value → Shared → Prop} {s₀ s : Shared} {B : Heap} {D D' : Led} {F : Addr × Cell} {a l : Addr}

set_option maxHeartbeats 4000000 in
theorem c_product {l1 l2 : Addr} {one two : List Int} {Q : Value → Shared → Prop} (G : Base w B) (hA : Ok A 2) (H : St s₀ B (F :: D) s) (h1 : (l1, IntsC one) ∈ F :: D) (h2 : (l2, IntsC two) ∈ F :: D)
    (n1 : 0 < one.length) (n2 : 0 < two.length) (m1 : one.length < 1000) (m2 : two.length < 1000) (hs : small one)
    (h : ∀ r s', St s₀ B (F :: (r, IntsC (prodW one two)) :: D) s' → Q (.ref r) s') : wpAny (MM w) A (call (.ref 155) [.ref l1, .ref l2]) Q E s := by
  have hin : ∀ i j, i < one.length → j < two.length → i + j < one.length + two.length - 1 := fun i j hi hj => by omega
  have h1' : ∀ {x1 x2 x3 x4 : Addr × Cell}, (l1, IntsC one) ∈ x1 :: x2 :: x3 :: x4 :: F :: D := .tail _ (.tail _ (.tail _ (.tail _ h1)))
  have h2' : ∀ {x1 x2 x3 x4 : Addr × Cell}, (l2, IntsC two) ∈ x1 :: x2 :: x3 :: x4 :: F :: D := .tail _ (.tail _ (.tail _ (.tail _ h2)))
  kpt_turns
  repeat tb_start
  refine r_repI (k := one.length + two.length - 1) H (by tb_rel) (by omega) (by omega) ?_
  clear H
  intro row s H
  repeat tb_start
  have H := H.sub (D' := (_, _) :: (it, _) :: (row, _) :: F :: D) (by regstrif_gather)
  refine r_forLoop (walk_range it 0 one.length) hA.hh (J := fun i F' D' => F' = (L, LocC [("one", .ref l1), ("two", .ref l2), ("row", .ref row)]) ∧ D' = (row, IntsC (out one two i (List.replicate (one.length + two.length - 1) 0))) :: F :: D) (fun _ _ _ _ => trivial) H ⟨rfl, rfl⟩ ?_ ?_
  · rintro i v _ _ s E' hi ⟨t, rfl⟩ ⟨rfl, rfl⟩ H
    have hol : (out one two i (List.replicate (one.length + two.length - 1) 0)).length = one.length + two.length - 1 := by rw [out_len, List.length_replicate]
    generalize hO : out one two i (List.replicate (one.length + two.length - 1) 0) = O at H hol
    obtain ⟨it1, e⟩ : ∃ x, x = it := ⟨_, rfl⟩
    subst e
    repeat tb_start
    have H := H.sub (D' := (_, _) :: (it, _) :: (it1, _) :: (row, _) :: F :: D) (by regstrif_gather)
    refine r_forLoop (walk_range it 0 two.length) hA.hh (J := fun j F' D' => (∃ ti, F' = (L, LocC [("one", .ref l1), ("two", .ref l2), ("row", .ref row), ("i", .int (0 + (i : Int)) ti)])) ∧ D' = (it1, IterR (0 + (i + 1 : Nat)) ((one.length : Int) - (i + 1 : Nat))) :: (row, IntsC (inn (one.getD i 0) two i j O)) :: F :: D) (fun _ _ _ _ => trivial) H ⟨⟨_, rfl⟩, rfl⟩ ?_ ?_
    · rintro j v _ _ s E' hj ⟨t, rfl⟩ ⟨⟨ti, rfl⟩, rfl⟩ H
      have hil : (inn (one.getD i 0) two i j O).length = one.length + two.length - 1 := by rw [inn_len, hol]
      have := hin i j hi hj
      repeat tb_start
      refine r_itemN (i + j) H (by tb_rel) (by omega) (by omega) (by omega) rfl fun t => ?_
      repeat tb_start
      refine r_itemN i H h1' (by omega) (by omega) (by omega) rfl fun t => ?_
      repeat tb_start
      refine r_itemN j H h2' (by omega) (by omega) (by omega) rfl fun t => ?_
      repeat tb_start
      refine c_mul G hA H (mulOk_small (hs.getD i)) ?_
      clear H
      intro t s H
      repeat tb_start
      refine c_add G hA H ?_
      clear H
      intro t s H
      repeat tb_start
      refine' r_setN (i + j) H ?U ?hk ?hj ?hb ?h
      case U => none_booked
      case hk => omega
      case hj => omega
      case hb => omega
      clear H
      intro s H
      repeat tb_start
      exact turn_loc H (by regstrif_slice) (by regstrif_gather) ⟨⟨_, rfl⟩, rfl⟩
    · rintro _ _ s ⟨⟨ti, rfl⟩, rfl⟩ H
      repeat tb_start
      refine turn_loc H (by regstrif_slice) (by regstrif_gather) ⟨rfl, ?_⟩
      rw [out, hO]
  · rintro _ _ s ⟨rfl, rfl⟩ H
    repeat tb_start
    exact h _ _ (St.swap (by exact St.sub H (by regstrif_gather)))
end
end
section
noncomputable def redK (top size : Int) (by_ : List Int) : Nat → List Int → List Int
  | 0, row => row
  | k + 1, row => let r := redK top size by_ k row; r.set k (if k + 1 < by_.length then r.getD k 0 * size - top * by_.getD (k + 1) 0 else r.getD k 0 * size)
theorem redK_len (top size : Int) (by_ : List Int) : ∀ (k : Nat) (row : List Int), (redK top size by_ k row).length = row.length
  | 0, _ => rfl
  | k + 1, row => by simp [redK, redK_len top size by_ k row]
noncomputable def redW (by_ : List Int) (x : Int) (row : List Int) : List Int :=
  if x = 0 then row else if by_.getD 0 0 < 0 then redK (-x) (-(by_.getD 0 0)) by_ row.length row else redK x (by_.getD 0 0) by_ row.length row
theorem redW_len (by_ : List Int) (x : Int) (row : List Int) : (redW by_ x row).length = row.length := by
  unfold redW; split
  · rfl
  · split <;> exact redK_len ..
noncomputable def restRow (by_ : List Int) : Nat → List Int → List Int
  | 0, row => row
  | _ + 1, [] => []
  | n + 1, x :: row => if by_.length ≤ row.length + 1 ∨ x = 0 then restRow by_ n (redW by_ x row) else x :: row
theorem restRow_head (by_ : List Int) (hb : 0 < by_.length) : ∀ (n : Nat) (row : List Int), row.length ≤ n → restRow by_ n row = [] ∨ (restRow by_ n row).getD 0 0 ≠ 0
  | 0, row, h => .inl (List.length_eq_zero_iff.mp (Nat.le_zero.mp h))
  | n + 1, [], h => .inl rfl
  | n + 1, x :: row, h => by
    unfold restRow
    split
    · exact restRow_head by_ hb n _ (by rw [redW_len]; simpa using h)
    · rename_i c
      exact .inr fun e => c (.inr (by simpa using e))
theorem restRow_len (by_ : List Int) : ∀ (n : Nat) (row : List Int), (restRow by_ n row).length ≤ row.length
  | 0, _ => Nat.le_refl _
  | n + 1, [] => Nat.le_refl _
  | n + 1, x :: row => by
    unfold restRow
    split
    · exact Nat.le_trans (restRow_len by_ n _) (by rw [redW_len]; simp)
    · exact Nat.le_refl _
noncomputable def gcdW : Nat → Int → Int → Int
  | 0, c, _ => c
  | n + 1, c, x => if x = 0 then c else gcdW n x (c.fmod x)
theorem fmod_lt (c x : Int) (hx : x ≠ 0) : (c.fmod x).natAbs < x.natAbs := by
  have h0 := Int.emod_nonneg c hx
  have h1 := Int.emod_lt c hx
  rw [Int.fmod_eq_emod]
  split
  · omega
  · rename_i q
    have hd : ¬ x ∣ c := fun d => q (.inr d)
    have hm : c % x ≠ 0 := fun e => hd (Int.dvd_of_emod_eq_zero e)
    omega
theorem gcd_fmod (c x : Int) : x.gcd (c.fmod x) = c.gcd x := by
  have : c.fmod x = c - x * c.fdiv x := by have := Int.mul_fdiv_add_fmod c x; omega
  rw [this, Int.gcd_comm c x]
  exact Int.gcd_sub_mul_left_right ..
theorem gcdW_abs : ∀ (n : Nat) (c x : Int), x.natAbs ≤ n → (gcdW n c x).natAbs = c.gcd x
  | 0, c, x, h => by
    have : x = 0 := by omega
    subst this
    simp [gcdW]
  | n + 1, c, x, h => by
    unfold gcdW
    split
    · rename_i e; subst e; simp
    · rename_i e
      have := fmod_lt c x e
      rw [gcdW_abs n _ _ (by omega), gcd_fmod]
noncomputable def restG (row : List Int) : Int := row.foldl (fun c x => (Int.gcd c x : Int)) 0
noncomputable def restW (whole by_ : List Int) : List Int := let r := restRow by_ whole.length whole; r.map (·.fdiv (restG r))
theorem gcdfold_nonneg : ∀ (row : List Int) (c : Int), 0 ≤ c → 0 ≤ row.foldl (fun c x => (Int.gcd c x : Int)) c
  | [], c, h => h
  | x :: row, c, h => gcdfold_nonneg row _ (Int.natCast_nonneg _)
theorem gcdfold_pos : ∀ (row : List Int) (c : Int), 0 < c → 0 < row.foldl (fun c x => (Int.gcd c x : Int)) c
  | [], c, h => h
  | x :: row, c, h => gcdfold_pos row _ (Int.natCast_pos.mpr (Int.gcd_pos_of_ne_zero_left x (show c ≠ 0 by omega)))
theorem restG_pos : ∀ (row : List Int), row.getD 0 0 ≠ 0 → 0 < restG row
  | [], h => absurd rfl h
  | x :: row, h => by
    unfold restG
    rw [List.foldl_cons]
    refine gcdfold_pos row _ ?_
    have := Int.gcd_pos_of_ne_zero_right 0 (show x ≠ 0 by simpa using h)
    omega
theorem restG_snoc (row : List Int) (x : Int) : restG (row ++ [x]) = (Int.gcd (restG row) x : Int) := by simp [restG]
end
section
section
variable {w : World} {A : Around} {E : Value → Shared → Prop} {s₀ s : Shared} {B : Heap} {D D' : Led} {F : Addr × Cell} {a l : Addr}
set_option maxHeartbeats 4000000 in
theorem c_rest {l1 l2 : Addr} {whole by_ : List Int} {Q : Value → Shared → Prop} (G : Base w B) (hA : Ok A 2) (H : St s₀ B (F :: D) s) (h1 : (l1, IntsC whole) ∈ F :: D) (h2 : (l2, IntsC by_) ∈ F :: D)
    (n2 : 0 < by_.length) (m1 : whole.length < 1000) (m2 : by_.length < 1000) (hs : small by_) (hg : (restG (restRow by_ whole.length whole)).natAbs.log2 < 9000)
    (h : ∀ r s', St s₀ B (F :: (r, IntsC (restW whole by_)) :: D) s' → Q (.ref r) s') : wpAny (MM w) A (call (.ref 160) [.ref l1, .ref l2]) Q E s := by
  have h1' : ∀ {x1 x2 x3 : Addr × Cell}, (l1, IntsC whole) ∈ x1 :: x2 :: F :: D := .tail _ (.tail _ h1)
  have h2' : ∀ {x1 x2 x3 : Addr × Cell}, (l2, IntsC by_) ∈ x1 :: x2 :: x3 :: F :: D := .tail _ (.tail _ (.tail _ h2))
  refine' r_callC (lo := [("whole", .ref l1), ("by", .ref l2)]) (co := fun L => [("common", L + 1, none)]) G hA H ?ho ?hcd ?hbind ?hkind ?hlo ?hco ?hnd ?hsc ?hgen ?hk ?hh
  case ho => exact rfl
  case hcd => kernel_rfl
  case hbind => exact rfl
  case hkind => intro L; exact rfl
  case hlo => exact rfl
  case hco => intro L; exact rfl
  case hnd => intro L; simp
  case hsc => exact rfl
  case hgen => exact rfl
  case hk => exact rfl
  clear H hA
  intro A L s hA H
  simp only [List.map_cons, List.map_nil, List.cons_append, List.nil_append] at H
  repeat tb_start
  refine r_listCopyI H (by tb_rel) (by rw [sizeLine_eq]; omega) ?_
  clear H
  intro row s H
  repeat tb_start
  generalize hR : restRow by_ whole.length whole = R at hg h
  refine r_while (fun n s' => ∃ rw, rw.length = n ∧ rw.length ≤ whole.length ∧ restRow by_ n rw = R ∧ St s₀ B ((L, LocC [("whole", .ref l1), ("by", .ref l2), ("row", .ref row)]) :: (row, IntsC rw) :: (L + 1, CellC none) :: F :: D) s') ?_ whole.length ⟨whole, rfl, Nat.le_refl _, hR, H⟩
  clear H
  rintro n s ⟨rw, rfl, hn, hRw, H⟩ E'
  refine r_once H (!decide (rw = []) && (decide (by_.length ≤ rw.length) || (rw.getD 0 0 == 0))) ((L, LocC [("whole", .ref l1), ("by", .ref l2), ("row", .ref row)]) :: (row, IntsC rw) :: (L + 1, CellC none) :: F :: D) ?_ ?_
  · repeat tb_start
    refine r_neNil hA H (by tb_rel) (by tb_rel) ?_
    repeat tb_start
    cases rw with
    | nil => exact ⟨rfl, by exact St.sub H (by regstrif_gather)⟩
    | cons x rw =>
      simp only [reduceCtorEq, decide_false, Bool.not_false, if_true]
      repeat tb_start
      have e1 : (decide ((by_.length : Int) ≤ ((x :: rw).length : Int))) = decide (by_.length ≤ (x :: rw).length) := by simp only [Int.ofNat_le]
      rw [e1]
      cases decide (by_.length ≤ (x :: rw).length) with
      | true =>
        simp only [if_true]
        repeat tb_start
        exact ⟨rfl, by exact St.sub H (by regstrif_gather)⟩
      | false =>
        simp only [Bool.false_eq_true, if_false]
        repeat tb_start
        kfm_turns
        repeat tb_start
        refine r_itemN 0 H (by tb_rel) (by omega) (by simp) (by omega) rfl fun t => ?_
        repeat tb_start
        refine c_iseof G hA H ?_
        clear H
        intro s H
        repeat tb_start
        cases ((x :: rw).getD 0 0 == 0) with
        | true =>
          simp only [if_true]
          repeat tb_start
          exact ⟨rfl, by exact St.sub H (by regstrif_gather)⟩
        | false =>
          simp only [Bool.false_eq_true, if_false]
          repeat tb_start
          exact ⟨rfl, by exact St.sub H (by regstrif_gather)⟩
  · intro s H
    by_cases c : (!decide (rw = []) && (decide (by_.length ≤ rw.length) || (rw.getD 0 0 == 0))) = true
    · rw [if_pos c]
      cases rw with
      | nil => simp at c
      | cons x rw =>
        have c' : by_.length ≤ rw.length + 1 ∨ x = 0 := by simpa using c
        have hR' : restRow by_ rw.length (redW by_ x rw) = R := by rw [← hRw, List.length_cons, restRow, if_pos c']
        clear c c' hRw
        have hn' : rw.length + 1 ≤ whole.length := by simpa using hn
        repeat tb_start
        refine r_itemN 0 H (by tb_rel) (by omega) (by simp) (by omega) rfl fun t => ?_
        repeat tb_start
        refine r_itemN 0 H h2' (by omega) n2 (by omega) rfl fun t => ?_
        repeat tb_start
        let loc (tp sz : Int) (t1 t2 : Tok) : Led := (L, LocC [("whole", .ref l1), ("by", .ref l2), ("row", .ref row), ("size", .int sz t2), ("top", .int tp t1)]) :: (row, IntsC (x :: rw)) :: (L + 1, CellC none) :: F :: D
        refine r_mid (fun f s' => f = .next ∧ ∃ t1 t2, St s₀ B (loc (if by_.getD 0 0 < 0 then -x else x) (if by_.getD 0 0 < 0 then -(by_.getD 0 0) else by_.getD 0 0) t1 t2) s') ?_ ?_
        · by_cases c : by_.getD 0 0 < 0
          · simp only [c, if_true, decide_true]
            repeat tb_start
            exact ⟨rfl, _, _, by exact St.sub H (by regstrif_gather)⟩
          · simp only [c, if_false, decide_false, Bool.false_eq_true]
            repeat tb_start
            exact ⟨rfl, _, _, by exact St.sub H (by regstrif_gather)⟩
        · rintro _ s ⟨rfl, t1, t2, H⟩
          have hW : redW by_ x rw = if x = 0 then rw else redK (if by_.getD 0 0 < 0 then -x else x) (if by_.getD 0 0 < 0 then -(by_.getD 0 0) else by_.getD 0 0) by_ rw.length rw := by
            unfold redW
            split
            · rfl
            · split <;> rfl
          have hsz : -(2 ^ 64) < (if by_.getD 0 0 < 0 then -(by_.getD 0 0) else by_.getD 0 0) ∧ (if by_.getD 0 0 < 0 then -(by_.getD 0 0) else by_.getD 0 0) < 2 ^ 64 := by
            have := hs.getD 0
            split <;> omega
          have ht0 : (if by_.getD 0 0 < 0 then -x else x) = 0 ↔ x = 0 := by split <;> omega
          generalize (if by_.getD 0 0 < 0 then -x else x) = tp at H hW ht0
          generalize (if by_.getD 0 0 < 0 then -(by_.getD 0 0) else by_.getD 0 0) = sz at H hW hsz
          simp only [loc] at H
          repeat tb_start
          refine c_delitem (j := 0) G hA H (by none_booked) (by decide) (by simp [seqIndex?]) (by rw [sizeLine_eq]; omega) ?_
          clear H
          intro s H
          simp only [List.eraseIdx_zero, List.tail_cons] at H
          repeat tb_start
          have fin : ∀ lo s, St s₀ B ((L, LocC (("whole", .ref l1) :: ("by", .ref l2) :: ("row", .ref row) :: lo)) :: (row, IntsC (redW by_ x rw)) :: (L + 1, CellC none) :: F :: D) s →
              ∃ m, m < (x :: rw).length ∧ ∃ rw, rw.length = m ∧ rw.length ≤ whole.length ∧ restRow by_ m rw = R ∧ St s₀ B ((L, LocC [("whole", .ref l1), ("by", .ref l2), ("row", .ref row)]) :: (row, IntsC rw) :: (L + 1, CellC none) :: F :: D) s := fun lo s H =>
            ⟨rw.length, by simp, redW by_ x rw, redW_len .., by rw [redW_len]; omega, hR', loc_mono H (by regstrif_slice)⟩
          by_cases c0 : tp = 0
          · subst c0
            rw [hW, if_pos (ht0.mp rfl)] at fin
            simp only [bne_self_eq_false, Bool.false_eq_true, if_false]
            repeat tb_start
            exact fin [("size", _), ("top", _)] _ H
          · rw [hW, if_neg (fun e => c0 (ht0.mpr e))] at fin
            have e2 : (tp != 0) = true := by simpa using c0
            simp only [e2, if_true]
            repeat tb_start
            have H := H.sub (D' := (_, _) :: (it, _) :: (row, _) :: (L + 1, _) :: F :: D) (by regstrif_gather)
            refine r_forLoop (walk_range it 0 rw.length) hA.hh (J := fun k F' D' => F' = (L, LocC [("whole", .ref l1), ("by", .ref l2), ("row", .ref row), ("size", .int sz t2), ("top", .int tp t1)]) ∧ D' = (row, IntsC (redK tp sz by_ k rw)) :: (L + 1, CellC none) :: F :: D) (fun _ _ _ _ => trivial) H ⟨rfl, rfl⟩ ?_ ?_
            · rintro k v _ _ s E' hk ⟨t, rfl⟩ ⟨rfl, rfl⟩ H
              have hkl := redK_len tp sz by_ k rw
              repeat tb_start
              refine r_itemN k H (by tb_rel) (by omega) (by omega) (by omega) rfl fun t => ?_
              repeat tb_start
              refine c_mul G hA H (IntMulOk.of_right (intBits_le_64 (by omega) (by omega))) ?_
              clear H
              intro t s H
              repeat tb_start
              refine r_setN k H (by none_booked) (by omega) (by omega) (by omega) ?_
              clear H
              intro s H
              repeat tb_start
              by_cases c1 : k + 1 < by_.length
              · have e3 : decide (0 + (k : Int) + 1 < by_.length) = true := decide_eq_true (by omega)
                simp only [e3, if_true]
                repeat tb_start
                refine r_itemN k H (by tb_rel) (by omega) (by rw [List.length_set]; omega) (by rw [List.length_set]; omega) rfl fun t => ?_
                repeat tb_start
                refine r_itemN (k + 1) H (by tb_rel) (by omega) (by omega) (by omega) rfl fun t => ?_
                repeat tb_start
                refine c_mul G hA H (IntMulOk.of_right (by have := hs.getD (k + 1); exact intBits_le_64 (by omega) (by omega))) ?_
                clear H
                intro t s H
                repeat tb_start
                refine c_sub G hA H ?_
                clear H
                intro t s H
                repeat tb_start
                refine r_setN k H (by none_booked) (by omega) (by rw [List.length_set]; omega) (by rw [List.length_set]; omega) ?_
                clear H
                intro s H
                repeat tb_start
                refine turn_loc H (by regstrif_slice) (by regstrif_gather) ⟨rfl, ?_⟩
                rw [redK, if_pos c1]
                simp only [List.set_set, List.getD_eq_getElem?_getD, List.getElem?_set, hkl, hk, if_true, Option.getD_some]
              · have e3 : decide (0 + (k : Int) + 1 < by_.length) = false := decide_eq_false (by omega)
                simp only [e3, Bool.false_eq_true, if_false]
                repeat tb_start
                refine turn_loc H (by regstrif_slice) (by regstrif_gather) ⟨rfl, ?_⟩
                rw [redK, if_neg c1]
            · rintro _ _ s ⟨rfl, rfl⟩ H
              repeat tb_start
              exact fin [("size", _), ("top", _)] _ H
    · rw [if_neg c]
      have hRR : rw = R := by
        cases rw with
        | nil => exact hRw
        | cons x rw =>
          rw [← hRw, List.length_cons, restRow, if_neg (by simpa using c)]
      subst hRR
      clear hRw c
      have hhd : rw = [] ∨ rw.getD 0 0 ≠ 0 := hR ▸ restRow_head by_ n2 whole.length whole (Nat.le_refl _)
      repeat tb_start
      have H := H.sub (D' := (_, _) :: (it, _) :: (row, _) :: (L + 1, _) :: F :: D) (by regstrif_gather)
      refine r_forLoop (walk_listI row it rw) hA.hh (J := fun i F' D' => F' = (L, LocC [("whole", .ref l1), ("by", .ref l2), ("row", .ref row)]) ∧ ∃ c t, D' = (row, IntsC rw) :: (L + 1, CellC (some (.int c t))) :: F :: D ∧ (c.natAbs : Int) = restG (rw.take i)) (by rintro i F' D' ⟨rfl, c, t, rfl, _⟩; tb_rel) H ⟨rfl, _, _, rfl, rfl⟩ ?_ ?_
      · rintro i v _ _ s E' hi ⟨t, rfl⟩ ⟨rfl, c, tc, rfl, hc⟩ H
        have hgc : (c.gcd (rw.getD i 0) : Int) = restG (rw.take (i + 1)) := by
          rw [List.take_add_one, getElem?_getD hi]
          simp only [Option.toList_some, restG_snoc, ← hc]
          simp [Int.gcd]
        repeat tb_start
        refine r_while (fun n s' => ∃ c x tc tx, x.natAbs = n ∧ (c.gcd x : Int) = restG (rw.take (i + 1)) ∧ St s₀ B ((L, LocC [("whole", .ref l1), ("by", .ref l2), ("row", .ref row), ("number", .int x tx)]) :: (it, IterL row (i + 1)) :: (row, IntsC rw) :: (L + 1, CellC (some (.int c tc))) :: F :: D) s') ?_ _ ⟨c, _, _, _, rfl, hgc, H⟩
        clear H
        rintro n s ⟨c, x, tc, tx, rfl, hcx, H⟩ E''
        repeat tb_start
        by_cases hx : x = 0
        · subst hx
          simp only [bne_self_eq_false, Bool.false_eq_true, if_false]
          repeat tb_start
          exact turn_loc H (by regstrif_slice) (by regstrif_gather) ⟨rfl, _, _, rfl, by rw [← hcx]; simp⟩
        · have e : (x != 0) = true := by simpa using hx
          simp only [e, if_true]
          repeat tb_start
          refine r_mod H hx ?_
          clear H
          intro t s H
          repeat tb_start
          refine ⟨_, ?_, _, _, _, _, rfl, ?_, by exact St.sub H (by regstrif_gather)⟩
          · exact fmod_lt c x hx
          · rw [gcd_fmod]; exact hcx
      · rintro _ _ s ⟨rfl, c, tc, rfl, hc⟩ H
        rw [List.take_length] at hc
        repeat tb_start
        have hmax : max c (-c) = restG rw := by omega
        rw [hmax] at H
        have H := H.sub (D' := (_, _) :: (it, _) :: (row, _) :: (L + 1, _) :: F :: D) (by regstrif_gather)
        refine r_compGo (walk_listI row it rw) hA.hh rfl rfl (fun i vs lo D' => lo = [] ∧ (D' = (row, IntsC rw) :: (L + 1, CellC (some (.int (restG rw) t))) :: F :: D) ∧ IntsAre vs ((rw.take i).map (·.fdiv (restG rw)))) ?_ (by omega) ?_ H ⟨rfl, rfl, .nil⟩ ?_ ?_
        · rintro acc i vs lo D' ⟨rfl, rfl, _⟩
          tb_rel
        · rintro i vs lo D' ⟨_, _, hi⟩
          rw [hi.length, List.length_map, List.length_take]
          omega
        · rintro C acc i v vs lo D' s E3 hi ⟨tv, rfl⟩ ⟨rfl, rfl, hvs⟩ H
          repeat tb_start
          have hr : rw.getD 0 0 ≠ 0 := by rcases hhd with e | e; · rw [e] at hi; simp at hi
                                          · exact e
          have hpos := restG_pos rw hr
          refine r_div H (by omega) (PyProof.noPylong_of_log2 hg) ?_
          clear H
          intro t s H
          refine compEnd_loc H (by regstrif_slice) (by regstrif_gather) ⟨rfl, rfl, ?_⟩
          rw [List.take_add_one, getElem?_getD hi, List.map_append]
          exact IntsAre.append' hvs (.cons _ _ .nil)
        · rintro C acc vs lo D' s ⟨rfl, rfl, hvs⟩ H
          rw [List.take_length] at hvs
          refine r_dropL H fun s H => ?_
          have H := H.imp (a := acc) (P' := IntsC (restW whole by_)) (by none_booked) (fun o ho => ⟨vs, by rw [restW, hR]; exact hvs, ho⟩)
          exact h _ _ (St.swap (by exact St.sub H (by regstrif_gather)))
end
end
section
section
variable {w : World} {A : Around} {E : Value → Shared → Prop} {s₀ s : Shared} {B : Heap} {D D' : Led} {F : Addr × Cell} {a l : Addr}
set_option maxHeartbeats 4000000 in
theorem c_countOf {l1 : Addr} {bs : List Bool} {Q : Value → Shared → Prop} (G : Base w B) (hA : Ok A 1) (H : St s₀ B (F :: D) s) (h1 : (l1, ListC (bs.map .bool)) ∈ F :: D)
    (h : ∀ t s', St s₀ B (F :: D) s' → Q (.int (bs.count true) t) s') : wpAny (MM w) A (call (.ref 49) [.ref l1, .bool true]) Q E s := by
  kpt_turns
  repeat tb_start
  have H := H.sub (D' := (_, _) :: (it, _) :: F :: D) (by regstrif_gather)
  refine r_forLoop (walk_list l1 it (bs.map .bool)) hA.hh (J := fun i F' D' => (∃ t, F' = (L, LocC [("a", .ref l1), ("b", .bool true), ("count", .int ((bs.take i).count true) t)])) ∧ D' = F :: D) (by rintro i F' D' ⟨_, rfl⟩; tb_rel) H ⟨⟨_, rfl⟩, rfl⟩ ?_ ?_
  · rintro i v _ _ s E' hi hv ⟨⟨t, rfl⟩, rfl⟩ H
    rw [List.getElem?_map] at hv
    obtain ⟨b, hb, rfl⟩ := Option.map_eq_some_iff.mp hv
    have hc : ((bs.take (i + 1)).count true : Int) = (bs.take i).count true + (if b = true then 1 else 0) := by
      rw [List.take_add_one, hb]
      cases b <;> simp
    repeat tb_start
    cases b with
    | true =>
      repeat tb_start
      simp only [if_true] at hc
      rw [← hc] at H
      exact turn_loc H (by regstrif_slice) (by regstrif_gather) ⟨⟨_, rfl⟩, rfl⟩
    | false =>
      repeat tb_start
      simp only [Bool.false_eq_true, if_false, Int.add_zero] at hc
      rw [← hc] at H
      exact turn_loc H (by regstrif_slice) (by regstrif_gather) ⟨⟨_, rfl⟩, rfl⟩
  · rintro _ _ s ⟨⟨t, rfl⟩, rfl⟩ H
    have e : bs.take (bs.map Value.bool).length = bs := by rw [List.length_map, List.take_length]
    rw [e] at H
    repeat tb_start
    exact h _ _ (by exact St.sub H (by regstrif_gather))
end
end
section
noncomputable def flips : List Bool → List Bool
  | a :: b :: r => (a != b) :: flips (b :: r)
  | _ => []
noncomputable def rightB (rows : List (List Int)) : List Bool := rows.map fun r => decide (0 < r.getD 0 0)
noncomputable def leftB (rows : List (List Int)) : List Bool := rows.map fun r => (decide (0 < r.getD 0 0) == (r.length % 2 == 1))
noncomputable def fallW (rows : List (List Int)) : Int := (flips (leftB rows)).count true - (flips (rightB rows)).count true
theorem flips_len : ∀ (l : List Bool), (flips l).length = l.length - 1
  | [] => rfl
  | [_] => rfl
  | a :: b :: r => by simp [flips, flips_len (b :: r)]
theorem flips_get : ∀ (l : List Bool) (k : Nat) (a b : Bool), l[k]? = some a → l[k + 1]? = some b → (flips l)[k]? = some (a != b)
  | [], k, a, b, h, _ => by simp at h
  | [x], k, a, b, _, h => by simp at h
  | x :: y :: r, 0, a, b, h1, h2 => by simp at h1 h2; subst h1; subst h2; simp [flips]
  | x :: y :: r, k + 1, a, b, h1, h2 => by
    rw [flips, List.getElem?_cons_succ]
    exact flips_get (y :: r) k a b (by simpa using h1) (by simpa using h2)
section
variable {w : World} {A : Around} {E : Value → Shared → Prop} {s₀ s : Shared} {B : Heap} {D D' : Led} {F : Addr × Cell} {a l : Addr}
set_option maxHeartbeats 4000000 in
theorem c_fall {lc : Addr} {as : List Addr} {rows : List (List Int)} {Q : Value → Shared → Prop} (G : Base w B) (hA : Ok A 2) (H : St s₀ B (F :: D) s) (h1 : (lc, ListC (as.map .ref)) ∈ F :: D) (hl : as.length = rows.length)
    (hr : ∀ i a, as[i]? = some a → (a, IntsC (rows.getD i [])) ∈ F :: D) (hne : ∀ r ∈ rows, 0 < r.length ∧ r.length < 1000) (hm : rows.length < 1000)
    (h : ∀ t s', St s₀ B (F :: D) s' → Q (.int (fallW rows) t) s') : wpAny (MM w) A (call (.ref 165) [.ref lc]) Q E s := by
  refine' r_callC (lo := []) (co := fun L => [("chain", L + 1, some (.ref lc)), ("right", L + 1 + 1, none)]) G hA H ?ho ?hcd ?hbind ?hkind ?hlo ?hco ?hnd ?hsc ?hgen ?hk ?hh
  case ho => exact rfl
  case hcd => kernel_rfl
  case hbind => exact rfl
  case hkind => intro L; exact rfl
  case hlo => exact rfl
  case hco => intro L; exact rfl
  case hnd => intro L; simp
  case hsc => exact rfl
  case hgen => exact rfl
  case hk => exact rfl
  clear H hA
  intro A L s hA H
  simp only [List.map_cons, List.map_nil, List.cons_append, List.nil_append] at H
  repeat tb_start
  have hal : (as.map Value.ref).length = rows.length := by rw [List.length_map, hl]
  have hrl : (rightB rows).length = rows.length := by simp [rightB]
  have hll : (leftB rows).length = rows.length := by simp [leftB]
  refine r_compGo (walk_list lc it (as.map .ref)) hA.hh rfl rfl (fun i vs lo D' => lo = [] ∧ (D' = (L + 1, CellC (some (.ref lc))) :: (L + 1 + 1, CellC none) :: F :: D) ∧ vs = ((rightB rows).take i).map .bool) ?_ (by omega) ?_ H ⟨rfl, rfl, rfl⟩ ?_ ?_
  · rintro acc i vs lo D' ⟨rfl, rfl, _⟩
    tb_rel
  · rintro i vs lo D' ⟨_, _, rfl⟩
    rw [List.length_map, List.length_take]
    omega
  · rintro C acc i v vs lo D' s E3 hi hv ⟨rfl, rfl, rfl⟩ H
    rw [List.getElem?_map] at hv
    obtain ⟨b, hb, rfl⟩ := Option.map_eq_some_iff.mp hv
    have hrow := hr i b hb
    have hi' : i < rows.length := by omega
    have hg : rows.getD i [] ∈ rows := by
      rw [List.getD_eq_getElem?_getD, List.getElem?_eq_getElem hi']
      exact List.getElem_mem hi'
    have hn := hne _ hg
    repeat tb_start
    refine r_itemN 0 H (by tb_rel) (by omega) (by omega) (by omega) rfl fun t => ?_
    repeat tb_start
    refine c_add G hA H ?_
    clear H
    intro t s H
    repeat tb_start
    refine c_isnonterm G hA H ?_
    clear H
    intro s H
    refine compEnd_loc H (by regstrif_slice) (by regstrif_gather) ⟨rfl, rfl, ?_⟩
    rw [List.take_add_one, List.map_append]
    congr 1
    have : (rightB rows)[i]? = some (decide (0 < (rows.getD i []).getD 0 0)) := by
      rw [rightB, List.getElem?_map, List.getD_eq_getElem?_getD (l := rows), List.getElem?_eq_getElem hi']; rfl
    rw [this]
    simp only [Option.toList_some, List.map_cons, List.map_nil]
    congr 2
    exact decide_eq_decide.mpr (by omega)
  · rintro C right vs lo D' s ⟨rfl, rfl, rfl⟩ H
    rw [hal, ← hrl, List.take_length] at H
    refine r_dropL H fun s H => ?_
    repeat tb_start
    have H := H.sub (D' := (_, _) :: (it, _) :: (right, _) :: (L + 1, _) :: (L + 1 + 1, _) :: F :: D) (by regstrif_gather)
    rw [hal] at H
    refine r_compGo (walk_range it 0 rows.length) hA.hh rfl rfl (fun i vs lo D' => lo = [] ∧ (D' = (right, ListC ((rightB rows).map .bool)) :: (L + 1, CellC (some (.ref lc))) :: (L + 1 + 1, CellC (some (.ref right))) :: F :: D) ∧ vs = ((leftB rows).take i).map .bool) ?_ (by omega) ?_ H ⟨rfl, rfl, rfl⟩ ?_ ?_
    · rintro acc i vs lo D' ⟨rfl, rfl, _⟩
      trivial
    · rintro i vs lo D' ⟨_, _, rfl⟩
      rw [List.length_map, List.length_take]
      omega
    · rintro C acc i v vs lo D' s E3 hi ⟨tv, rfl⟩ ⟨rfl, rfl, rfl⟩ H
      obtain ⟨b, hb⟩ : ∃ b, as[i]? = some b := ⟨_, List.getElem?_eq_getElem (by omega)⟩
      have hrow := hr i b hb
      have hg : rows.getD i [] ∈ rows := by
        rw [List.getD_eq_getElem?_getD, List.getElem?_eq_getElem hi]
        exact List.getElem_mem hi
      have hn := hne _ hg
      have hrb : ((rightB rows).map Value.bool)[i]? = some (.bool (decide (0 < (rows.getD i []).getD 0 0))) := by
        rw [rightB, List.getElem?_map, List.getElem?_map, List.getD_eq_getElem?_getD (l := rows), List.getElem?_eq_getElem hi]; rfl
      have hlb : (leftB rows)[i]? = some (decide (0 < (rows.getD i []).getD 0 0) == ((rows.getD i []).length % 2 == 1)) := by
        rw [leftB, List.getElem?_map, List.getD_eq_getElem?_getD (l := rows), List.getElem?_eq_getElem hi]; rfl
      have hab : (as.map Value.ref)[i]? = some (.ref b) := by rw [List.getElem?_map, hb]; rfl
      have hrm : ((rightB rows).map Value.bool).length = rows.length := by rw [List.length_map, hrl]
      repeat tb_start
      refine r_itemL i H (by tb_rel) (by omega) hrb (by omega) rfl ?_
      repeat tb_start
      refine r_itemL i H (by tb_rel) (by omega) hab (by omega) rfl ?_
      repeat tb_start
      refine r_mod H (by decide) ?_
      clear H
      intro t s H
      repeat tb_start
      refine compEnd_loc H (by regstrif_slice) (by regstrif_gather) ⟨rfl, rfl, ?_⟩
      rw [List.take_add_one, List.map_append]
      congr 1
      rw [hlb]
      simp only [Option.toList_some, List.map_cons, List.map_nil]
      congr 3
      rw [Bool.eq_iff_iff, beq_iff_eq, beq_iff_eq, Int.fmod_eq_emod_of_nonneg _ (by decide)]
      omega
    · rintro C left vs lo D' s ⟨rfl, rfl, rfl⟩ H
      rw [← hll, List.take_length] at H
      repeat tb_start
      refine r_dropL H fun s H => ?_
      repeat tb_start
      obtain ⟨tup, e⟩ : ∃ x, x = l := ⟨_, rfl⟩
      subst e
      let cnt (bs : List Bool) : Int := (flips bs).count true
      let X : Led := (tup, TupC [.ref left, .ref right]) :: (left, ListC ((leftB rows).map .bool)) :: (right, ListC ((rightB rows).map .bool)) :: (L + 1, CellC (some (.ref lc))) :: (L + 1 + 1, CellC (some (.ref right))) :: F :: D
      refine r_compGoC (x := "ends") (walk_tup tup it [.ref left, .ref right]) hA.hh (fun m => rfl) (fun C i vs lo D' => lo = [] ∧ (∃ cv, D' = (C + 1, CellC cv) :: X) ∧ IntsAre vs ([cnt (leftB rows), cnt (rightB rows)].take i)) ?_ (by simp) ?_ H (fun acc C => by tb_rel) (fun C => ⟨rfl, ⟨_, rfl⟩, .nil⟩) ?_ ?_
      · rintro C acc i vs lo D' ⟨rfl, ⟨cv, rfl⟩, _⟩
        tb_rel
      · rintro C i vs lo D' ⟨_, _, hi⟩
        rw [hi.length, List.length_take]
        omega
      · rintro C acc i v vs lo D' s E3 hi hv ⟨rfl, ⟨cv, rfl⟩, hvs⟩ H
        obtain ⟨e, bs, rfl, hbs, hlen, hmem⟩ : ∃ e bs, v = .ref e ∧ [cnt (leftB rows), cnt (rightB rows)][i]? = some (cnt bs) ∧ bs.length = rows.length ∧ (e, ListC (bs.map .bool)) ∈ X := by
          match i, hv with
          | 0, hv => cases hv; exact ⟨_, leftB rows, rfl, rfl, hll, by tb_rel⟩
          | 1, hv => cases hv; exact ⟨_, rightB rows, rfl, rfl, hrl, by tb_rel⟩
        have hbl : (bs.map Value.bool).length = rows.length := by rw [List.length_map, hlen]
        generalize X = X at H hmem
        repeat tb_start
        rw [hbl] at H
        refine r_iterRange (n := rows.length - 1) H (by tb_rel) (by split <;> omega) (by omega) (by omega) (by omega) (by omega) ?_
        clear H
        obtain ⟨it2, e2⟩ : ∃ x, x = it := ⟨_, rfl⟩
        subst e2
        intro it s H
        have hfl : (flips bs).length = rows.length - 1 := by rw [flips_len, hlen]
        refine r_compGo (walk_range it 1 (rows.length - 1)) hA.hh rfl rfl (fun k vs2 lo D' => lo = [] ∧ (D' = (r, RangeC 1 rows.length) :: (it2, IterT tup (i + 1)) :: (acc, ListC vs) :: (L, LocC [("left", .ref left)]) :: (C + 1, CellC (some (.ref e))) :: X) ∧ vs2 = ((flips bs).take k).map .bool) ?_ (by omega) ?_ H ⟨rfl, rfl, rfl⟩ ?_ ?_
        · rintro acc i vs lo D' ⟨rfl, rfl, _⟩
          trivial
        · rintro i vs lo D' ⟨_, _, rfl⟩
          rw [List.length_map, List.length_take]
          omega
        · rintro C2 acc2 k v vs2 lo D' s E4 hk ⟨tv, rfl⟩ ⟨rfl, rfl, rfl⟩ H
          obtain ⟨b1, hb1⟩ : ∃ b, bs[k]? = some b := ⟨_, List.getElem?_eq_getElem (by omega)⟩
          obtain ⟨b2, hb2⟩ : ∃ b, bs[k + 1]? = some b := ⟨_, List.getElem?_eq_getElem (by omega)⟩
          repeat tb_start
          refine r_itemL k H (by tb_rel) (by omega) (v := .bool b1) (by rw [List.getElem?_map, hb1]; rfl) (by omega) rfl ?_
          repeat tb_start
          refine r_itemL (k + 1) H (by tb_rel) (by omega) (v := .bool b2) (by rw [List.getElem?_map, hb2]; rfl) (by omega) rfl ?_
          repeat tb_start
          refine compEnd_loc H (by regstrif_slice) (by regstrif_gather) ⟨rfl, rfl, ?_⟩
          rw [List.take_add_one, List.map_append, flips_get bs k b1 b2 hb1 hb2]
          rfl
        · rintro C2 acc2 vs2 lo D' s ⟨rfl, rfl, rfl⟩ H
          refine r_dropL H fun s H => ?_
          rw [← hfl, List.take_length] at H
          repeat tb_start
          refine c_countOf G hA H (by tb_rel) ?_
          clear H
          intro t s H
          refine compEnd_loc H (by regstrif_slice) (by regstrif_gather) ⟨rfl, ⟨_, rfl⟩, ?_⟩
          rw [List.take_add_one, hbs]
          exact IntsAre.append' hvs (.cons _ _ .nil)
      · rintro C acc vs lo D' s ⟨rfl, ⟨cv, rfl⟩, hvs⟩ H
        have H := H.imp (a := acc) (P' := IntsC [cnt (leftB rows), cnt (rightB rows)]) (by none_booked) (fun o ho => ⟨vs, hvs, ho⟩)
        repeat tb_start
        refine r_dropL H fun s H => ?_
        repeat tb_start
        refine r_itemN 0 H (by tb_rel) (by decide) (by simp) (by simp) rfl fun t => ?_
        repeat tb_start
        refine r_itemN 1 H (by tb_rel) (by decide) (by simp) (by simp) rfl fun t => ?_
        repeat tb_start
        refine c_sub G hA H ?_
        clear H
        intro t s H
        exact h _ _ (by exact St.sub H (by regstrif_gather))
end
end
section
noncomputable def wholeW (d : Int) : List Int := [0, 1, 2].filter fun k => k * k == d
noncomputable def rootOf (m d side : Int) : List Int := if wholeW d = [] then [m, side, d] else [m + side * (wholeW d).getD 0 0, 0, 0]
noncomputable def addRoot (rs : List (List Int)) (r : List Int) : List (List Int) := if r ∈ rs then rs else rs ++ [r]
noncomputable def quadRoots (rs : List (List Int)) (q : List Int) : List (List Int) := addRoot (addRoot rs (rootOf (q.getD 1 0) (q.getD 2 0) (-1))) (rootOf (q.getD 1 0) (q.getD 2 0) 1)
noncomputable def rootsW (quads : List (List Int)) : List (List Int) := quads.foldl quadRoots []
theorem addRoot_len (rs : List (List Int)) (r : List Int) : (addRoot rs r).length ≤ rs.length + 1 := by
  unfold addRoot; split <;> simp
theorem rootsW_snoc (qs : List (List Int)) (q : List Int) : rootsW (qs ++ [q]) = quadRoots (rootsW qs) q := by simp [rootsW]
theorem rootsW_len : ∀ (n : Nat) (qs : List (List Int)), qs.length = n → (rootsW qs).length ≤ 2 * n
  | 0, qs, h => by rw [List.length_eq_zero_iff.mp h]; simp [rootsW]
  | n + 1, qs, h => by
    rcases List.eq_nil_or_concat qs with rfl | ⟨qs', q, rfl⟩
    · simp at h
    · simp only [List.concat_eq_append, List.length_append, List.length_singleton, Nat.add_right_cancel_iff] at h
      rw [List.concat_eq_append, rootsW_snoc]
      have h1 := rootsW_len n qs' h
      have h2 := addRoot_len (rootsW qs') (rootOf (q.getD 1 0) (q.getD 2 0) (-1))
      have h3 := addRoot_len (addRoot (rootsW qs') (rootOf (q.getD 1 0) (q.getD 2 0) (-1))) (rootOf (q.getD 1 0) (q.getD 2 0) 1)
      unfold quadRoots
      omega
noncomputable def Tups (as : List Addr) (rows : List (List Int)) (T : Led) : Prop := as.length = rows.length ∧ ∀ i a, as[i]? = some a → (a, ITupC (rows.getD i [])) ∈ T
theorem Tups.nil : Tups [] [] [] := ⟨rfl, fun i a h => by simp at h⟩
theorem Tups.snoc {as : List Addr} {rows : List (List Int)} {T : Led} (h : Tups as rows T) (a : Addr) (r : List Int) : Tups (as ++ [a]) (rows ++ [r]) ((a, ITupC r) :: T) := by
  refine ⟨by simp [h.1], fun i b hb => ?_⟩
  rw [List.getElem?_append] at hb
  split at hb
  · rename_i hlt
    have e : (rows ++ [r]).getD i [] = rows.getD i [] := by
      have : i < rows.length := by rw [← h.1]; exact hlt
      simp [List.getD_eq_getElem?_getD, List.getElem?_append, this]
    rw [e]
    exact .tail _ (h.2 i b hb)
  · rename_i hlt
    have hi : i - as.length = 0 := by
      have := (List.getElem?_eq_some_iff.mp hb).1
      simp at this; omega
    rw [hi] at hb
    cases hb
    have e : (rows ++ [r]).getD i [] = r := by
      have h1 := h.1
      have : i = rows.length := by omega
      subst this
      simp [List.getD_eq_getElem?_getD]
    rw [e]
    exact .head _
section
variable {w : World} {A : Around} {E : Value → Shared → Prop} {s₀ s : Shared} {B : Heap} {D D' : Led} {F : Addr × Cell} {a l : Addr}
set_option maxHeartbeats 4000000 in
theorem c_roots {lq : Addr} {qs : List Addr} {quads : List (List Int)} {Q : Value → Shared → Prop} (G : Base w B) (hA : Ok A 2) (H : St s₀ B (F :: D) s) (h1 : (lq, ListC (qs.map .ref)) ∈ F :: D)
    (hq : Tups qs quads (F :: D)) (hn : quads.length < 1000) (h3 : ∀ q ∈ quads, ∃ e m d, q = [e, m, d] ∧ -1000 < m ∧ m < 1000)
    (h : ∀ rl as T s', Tups as (rootsW quads) T → St s₀ B (F :: (rl, ListC (as.map .ref)) :: (T ++ D)) s' → Q (.ref rl) s') : wpAny (MM w) A (call (.ref 170) [.ref lq]) Q E s := by
  refine' r_callC (lo := [("quads", .ref lq)]) (co := fun L => [("d", L + 1, none)]) G hA H ?ho ?hcd ?hbind ?hkind ?hlo ?hco ?hnd ?hsc ?hgen ?hk ?hh
  case ho => exact rfl
  case hcd => kernel_rfl
  case hbind => exact rfl
  case hkind => intro L; exact rfl
  case hlo => exact rfl
  case hco => intro L; exact rfl
  case hnd => intro L; simp
  case hsc => exact rfl
  case hgen => exact rfl
  case hk => exact rfl
  clear H hA
  intro A L s hA H
  simp only [List.map_cons, List.map_nil, List.cons_append, List.nil_append] at H
  repeat tb_start
  obtain ⟨rl, e⟩ : ∃ x, x = l := ⟨_, rfl⟩
  subst e
  obtain ⟨it1, e⟩ : ∃ x, x = it := ⟨_, rfl⟩
  subst e
  have hql : (qs.map Value.ref).length = quads.length := by rw [List.length_map, hq.1]
  have H := H.sub (D' := (_, _) :: (it1, _) :: (rl, _) :: (L + 1, _) :: F :: D) (by regstrif_gather)
  refine r_forLoop (walk_list lq it1 (qs.map .ref)) hA.hh (J := fun i F' D' => F' = (L, LocC [("quads", .ref lq), ("roots", .ref rl)]) ∧ ∃ as T cd, Tups as (rootsW (quads.take i)) T ∧ D' = (rl, ListC (as.map .ref)) :: (L + 1, CellC cd) :: (T ++ F :: D)) ?_ H ⟨rfl, [], [], none, Tups.nil, rfl⟩ ?_ ?_
  · rintro i F' D' ⟨rfl, as, T, cd, _, rfl⟩
    tb_rel
  · rintro i v _ _ s E' hi hv ⟨rfl, as, T, cd, hT, rfl⟩ H
    rw [List.getElem?_map] at hv
    obtain ⟨b, hb, rfl⟩ := Option.map_eq_some_iff.mp hv
    have hrow := hq.2 i b hb
    have hi' : i < quads.length := by omega
    have hg : quads[i]? = some (quads.getD i []) := by rw [List.getD_eq_getElem?_getD, List.getElem?_eq_getElem hi']; rfl
    have htake : rootsW (quads.take (i + 1)) = quadRoots (rootsW (quads.take i)) (quads.getD i []) := by
      rw [List.take_add_one, hg]; exact rootsW_snoc _ _
    have hrl := rootsW_len i (quads.take i) (by rw [List.length_take]; omega)
    generalize rootsW (quads.take i) = rows at hT htake hrl
    obtain ⟨e, m, d, hqq, hm1, hm2⟩ := h3 _ (List.mem_of_getElem? hg)
    rw [hqq] at hrow htake
    repeat tb_start
    refine r_iterRange (n := 3) H (by tb_rel) (by decide) (by omega) (by omega) (by omega) (by omega) ?_
    clear H
    intro it s H
    have H := H.sub (D' := (_, _) :: (it, _) :: (it1, _) :: (rl, _) :: (L + 1, _) :: (T ++ F :: D)) (by regstrif_gather)
    refine r_compGo (walk_range it 0 3) hA.hh rfl rfl (fun k vs lo D' => lo = [] ∧ (∃ td, D' = (it1, IterL lq (i + 1)) :: (rl, ListC (as.map .ref)) :: (L + 1, CellC (some (.int d td))) :: (T ++ F :: D)) ∧ IntsAre vs ((([0, 1, 2] : List Int).take k).filter fun k => k * k == d)) ?_ (by omega) ?_ H ⟨rfl, ⟨_, rfl⟩, .nil⟩ ?_ ?_
    · rintro acc i vs lo D' ⟨rfl, _, _⟩
      trivial
    · rintro k vs lo D' ⟨_, _, hi⟩
      rw [hi.length]
      refine Nat.le_trans (List.length_filter_le _ _) ?_
      rw [List.length_take]; omega
    · rintro C acc k v vs lo D' s E3 hk ⟨tv, rfl⟩ ⟨rfl, ⟨td, rfl⟩, hvs⟩ H
      have htk : ([0, 1, 2] : List Int).take (k + 1) = ([0, 1, 2] : List Int).take k ++ [0 + (k : Int)] := by
        match k, hk with
        | 0, _ => rfl
        | 1, _ => rfl
        | 2, _ => rfl
      repeat tb_start
      by_cases c : (0 + (k : Int)) * (0 + (k : Int)) = d
      · refine r_iteTC (by simpa using c) ?_
        repeat tb_start
        refine compEnd_loc H (by regstrif_slice) (by regstrif_gather) ⟨rfl, ⟨_, rfl⟩, ?_⟩
        rw [htk, List.filter_append, List.filter_cons_of_pos (by simpa using c)]
        exact IntsAre.append' hvs (.cons _ _ .nil)
      · refine r_iteFC (by simpa using c) ?_
        refine compEnd_loc H (by regstrif_slice) (by regstrif_gather) ⟨rfl, ⟨_, rfl⟩, ?_⟩
        rw [htk, List.filter_append, List.filter_cons_of_neg (by simpa using c)]
        simpa using hvs
    · rintro C wl vs lo D' s ⟨rfl, ⟨td, rfl⟩, hvs⟩ H
      have H := H.imp (a := wl) (P' := IntsC (wholeW d)) (by none_booked) (fun o ho => ⟨vs, hvs, ho⟩)
      repeat tb_start
      refine r_dropL H fun s H => ?_
      clear hvs
      repeat tb_start
      obtain ⟨tup, e⟩ : ∃ x, x = l := ⟨_, rfl⟩
      subst e
      have H := H.imp (a := tup) (P' := ITupC [-1, 1]) (by none_booked) (fun o ho => ⟨_, .cons _ _ (.cons _ _ .nil), ho⟩)
      refine r_forLoop (walk_itup tup it [-1, 1]) hA.hh (J := fun k F' D' => (∃ tm, F' = (L, LocC [("quads", .ref lq), ("roots", .ref rl), ("m", .int m tm), ("whole", .ref wl)])) ∧ ∃ as T, Tups as ((([-1, 1] : List Int).take k).foldl (fun rs sd => addRoot rs (rootOf m d sd)) rows) T ∧ D' = (tup, ITupC [-1, 1]) :: (wl, IntsC (wholeW d)) :: (it1, IterL lq (i + 1)) :: (rl, ListC (as.map .ref)) :: (L + 1, CellC (some (.int d td))) :: (T ++ F :: D)) ?_ (loc_mono H (by regstrif_slice)) ⟨⟨_, rfl⟩, as, T, hT, rfl⟩ ?_ ?_
      · rintro k F' D' ⟨_, as, T, _, rfl⟩
        tb_rel
      · rintro k v _ _ s E3 hk ⟨tv, rfl⟩ ⟨⟨tm, rfl⟩, as, T, hT, rfl⟩ H
        have htk : ([-1, 1] : List Int).take (k + 1) = ([-1, 1] : List Int).take k ++ [([-1, 1] : List Int).getD k 0] := by
          match k, hk with
          | 0, _ => rfl
          | 1, _ => rfl
        have hrl2 : ((([-1, 1] : List Int).take k).foldl (fun rs sd => addRoot rs (rootOf m d sd)) rows).length ≤ 2 * i + 2 := by
          match k, hk with
          | 0, _ => simp; omega
          | 1, _ => have := addRoot_len rows (rootOf m d (-1)); simp; omega
        have hsd : -(2 ^ 60) < ([-1, 1] : List Int).getD k 0 ∧ ([-1, 1] : List Int).getD k 0 < 2 ^ 60 := by
          match k, hk with
          | 0, _ => decide
          | 1, _ => decide
        simp only [htk, List.foldl_append, List.foldl_cons, List.foldl_nil]
        generalize (([-1, 1] : List Int).take k).foldl (fun rs sd => addRoot rs (rootOf m d sd)) rows = rows' at hT hrl2 ⊢
        generalize ([-1, 1] : List Int).getD k 0 = sd at H hsd ⊢
        tb_start
        tb_start
        refine r_assign rfl ?_
        refine r_mid (fun v s' => ∃ r, v = .ref r ∧ St s₀ B ((L, LocC [("quads", .ref lq), ("roots", .ref rl), ("m", .int m tm), ("whole", .ref wl)]) :: (r, ITupC (rootOf m d sd)) :: (it, IterT tup (k + 1)) :: (tup, ITupC [-1, 1]) :: (wl, IntsC (wholeW d)) :: (it1, IterL lq (i + 1)) :: (rl, ListC (as.map .ref)) :: (L + 1, CellC (some (.int d td))) :: (T ++ F :: D)) s') ?_ ?_
        · repeat tb_start
          refine r_eqNil hA H (by tb_rel) (by tb_rel) ?_
          repeat tb_start
          by_cases c : wholeW d = []
          · refine r_iteTC (decide_eq_true c) ?_
            repeat tb_start
            have H := H.imp (a := l) (P' := ITupC (rootOf m d sd)) (by none_booked) (fun o ho => ⟨_, by rw [rootOf, if_pos c]; exact .cons _ _ (.cons _ _ (.cons _ _ .nil)), ho⟩)
            exact ⟨_, rfl, loc_mono (H.sub (by regstrif_gather)) (by regstrif_slice)⟩
          · refine r_iteFC (decide_eq_false c) ?_
            have hw : 0 < (wholeW d).length := List.length_pos_iff.mpr c
            have hw2 : (wholeW d).length ≤ 3 := List.length_filter_le _ _
            repeat tb_start
            refine r_itemN 0 H (by tb_rel) rfl hw (by omega) rfl fun t => ?_
            repeat tb_start
            have H := H.imp (a := l) (P' := ITupC (rootOf m d sd)) (by none_booked) (fun o ho => ⟨_, by rw [rootOf, if_neg c]; exact .cons _ _ (.cons _ _ (.cons _ _ .nil)), ho⟩)
            exact ⟨_, rfl, loc_mono (H.sub (by regstrif_gather)) (by regstrif_slice)⟩
        · rintro _ s ⟨r, rfl, H⟩
          repeat tb_start
          refine r_notInITups hA H (by tb_rel) hT.1 (fun i a ha => ?_) (by tb_rel) ?_
          · have := hT.2 i a ha
            tb_rel
          repeat tb_start
          by_cases c : rootOf m d sd ∈ rows'
          · rw [decide_eq_true c]
            repeat tb_start
            refine turn_loc H (by regstrif_slice) (by regstrif_gather) ⟨⟨_, rfl⟩, as, T, ?_, rfl⟩
            rw [addRoot, if_pos c]
            exact hT
          · rw [decide_eq_false c]
            have hlas : (as.map Value.ref).length ≤ 2 * i + 2 := by rw [List.length_map, hT.1]; omega
            repeat tb_start
            have e : as.map Value.ref ++ [.ref r] = (as ++ [r]).map Value.ref := by simp
            rw [e] at H
            have H := H.perm (List.Perm.cons _ (List.perm_middle (a := (r, ITupC (rootOf m d sd))) (l₁ := [(it, _), (tup, _), (wl, _), (it1, _), (rl, _), (L + 1, _)])).symm)
            refine turn_loc H (by regstrif_slice) (List.Sublist.refl _) ⟨⟨_, rfl⟩, _, (r, ITupC (rootOf m d sd)) :: T, ?_, rfl⟩
            rw [addRoot, if_neg c]
            exact hT.snoc _ _
      · rintro _ _ s ⟨⟨tm, rfl⟩, as, T, hT, rfl⟩ H
        repeat tb_start
        refine turn_loc H (by regstrif_slice) (by regstrif_gather) ⟨rfl, as, T, _, ?_, rfl⟩
        rw [htake]
        exact hT
  · rintro _ _ s ⟨rfl, as, T, cd, hT, rfl⟩ H
    have e : quads.take (qs.map Value.ref).length = quads := by rw [hql, List.take_length]
    rw [e] at hT
    repeat tb_start
    have H := H.sub (D' := (rl, _) :: (T ++ F :: D)) (by regstrif_gather)
    exact h _ as T _ hT (H.perm ((List.perm_middle (a := F) (l₁ := (rl, _) :: T))))
end
end
section
open Builtin Builtin.ObjectAttr
theorem store_function : StoreFacts "function" [.type "function", .type "object"] "object.__setattr__" "object" where
  mro := by kernel_rfl
  slot := .of (owner := "object") (n := "__setattr__") (by rw [typeLookup_type, builtinLookup_eq_fast]; kernel_rfl) (by decide +kernel) (by decide +kernel) (by decide +kernel)
    (by first | exact .inl (by decide +kernel) | exact .inr (by decide +kernel)) (by rw [isSubtype_type]; kernel_rfl)
  entry := PySem.F.entry_object_sa
  kind := by decide +kernel
  split := by decide +kernel
  hasOwner := by decide +kernel
  args := fun a b c => by unfold argsOk; kernel_rfl
  passes := fun self => by kernel_rfl
theorem slot_function_ga : Slot "function" "__getattribute__" "object.__getattribute__" :=
  .of (owner := "object") (n := "__getattribute__") (by rw [typeLookup_type, builtinLookup_eq_fast]; kernel_rfl) (by decide +kernel) (by decide +kernel) (by decide +kernel)
    (by first | exact .inl (by decide +kernel) | exact .inr (by decide +kernel)) (by rw [isSubtype_type]; kernel_rfl)
theorem look_function_getattr : typeLookup (.type "function") "__getattr__" = pure none := by rw [typeLookup_type, builtinLookup_eq_fast]; kernel_rfl
theorem look_function_read : typeLookup (.type "function") "read" = pure none := by rw [typeLookup_type, builtinLookup_eq_fast]; kernel_rfl
noncomputable abbrev fnObj (fd : FuncData) (dx : Option Addr) : Obj := { cls := .type "function", dict := dx, data := .func fd, slots := #[] }
section
variable {w : World} {A : Around} {E : Value → Shared → Prop} {s₀ s : Shared} {B : Heap} {D D' : Led} {F : Addr × Cell} {a l : Addr} {env : Env}
theorem St.obj {o : Obj} (H : St s₀ B D s) (h : (a, ObjC o) ∈ D) : s.heap.get? a = some o := by
  obtain ⟨o', ho, rfl⟩ := H.get h
  exact ho
theorem r_fnMethod {f dx : Addr} {fd : FuncData} {lo : List (PySem.Str × Value)} {name : PySem.Str} {v : Value} {pl : Sem Bool} {Q : Value × List Value → Shared → Prop} (H : St s₀ B D s)
    (hf : (f, ObjC (fnObj fd (some dx))) ∈ D) (hd : (dx, NsL lo) ∈ D) (hn : typeLookup (.type "function") name = pure none) (hl : lo.lookup name = some v) (hv : PySem.W.handedIn v = true)
    (h : ∀ s', St s₀ B D s' → Q (v, []) s') : wpAny (MM w) A (getMethod (.ref f) name pl) Q E s := by
  have ho := H.obj hf
  have hT : s.TypeIs (.ref f) "function" := ⟨_, ho, rfl⟩
  obtain ⟨od, hod, hN⟩ := H.get hd
  have hNs : s.heap.Ns dx (fun x => lo.lookup x) := ns_iff.mpr ⟨od, hod, hN.ns⟩
  unfold getMethod
  refine wpAny_bind (wpAny_specialOf hT slot_function_ga.lookup ?_)
  show wpAny _ A (if (Manifest.canonical "object.__getattribute__" != "object.__getattribute__") = true then _ else _) Q E s
  rw [PySem.F.canon_object_ga, if_neg Bool.false_ne_true]
  refine wpAny_bind (wpAny_specialOf hT look_function_getattr ?_)
  refine wpAny_bind (wpAny_specialOf hT hn ?_)
  dsimp only
  refine wpAny_bind ?_
  unfold getAttr
  refine wpAny_bind (wpAny_mkText ?_)
  have hT' : ({ s with toks := s.toks + 1 } : Shared).TypeIs (.ref f) "function" := hT
  unfold getAttrBy
  refine wpAny_holding (wpAny_bind (wpAny_typeOf hT' (wpAny_bind (wpAny_of_eq slot_function_ga.lookup ?_))))
  show wpAny _ A (getAttrByItsOwn _ _ _ _ _ _) _ _ _
  unfold getAttrByItsOwn
  refine wpAny_bind (wpAny_of_eq (a := none) rfl ?_)
  refine wpAny_bind (wpAny_attempt (wpAny_holding ?_))
  show wpAny _ A (boundAndCalled _ _ _) _ _ _
  unfold boundAndCalled
  rw [slot_function_ga.bind]
  refine wpAny_bind (wpAny_pure ?_)
  refine wpAny_call_entry slot_function_ga hT' PySem.F.entry_object_getattribute ?_ (PySem.F.args_object_getattribute_2 _ _)
  unfold Builtin.«object.__getattribute__»
  refine wpAny_bind (wpAny_of_eq (a := (Value.ref f, [Value.str name s.toks])) (by first | rfl | kernel_rfl) ?_)
  refine wpAny_bind (wpAny_of_eq (a := name) (by first | rfl | kernel_rfl) ?_)
  refine wpAny_bind (wpAny_typeOf hT' ?_)
  refine wpAny_bind ?_
  unfold find
  refine wpAny_bind (wpAny_of_eq hn ?_)
  refine wpAny_bind (wpAny_of_eq (a := none) rfl ?_)
  refine wpAny_bind (wpAny_of_eq (a := none) rfl ?_)
  dsimp only
  unfold ownThenClass
  refine wpAny_bind ?_
  show wpAny _ _ (inOwnDict name (.ref f)) _ _ _
  unfold inOwnDict ObjectAttr.ownDict
  refine wpAny_bind (wpAny_bind (wpAny_loadPart ho ?_))
  dsimp only
  unfold instanceDict
  refine wpAny_bind (wpAny_loadPart ho ?_)
  dsimp only
  refine wpAny_pure ?_
  unfold inDict
  refine wpAny_nsGet (m := fun x => lo.lookup x) hNs ?_
  rw [hl]
  refine wpAny_bind (wpAny_rule (wpAny_pure ?_))
  refine wpAny_pure ⟨_, rfl, ?_⟩
  rw [handedOut_of hv]
  exact wpAny_pure (wpAny_pure (h _ (H.toks _)))
theorem r_setFn {f : Addr} {fd : FuncData} {name : PySem.Str} {v : Value} {DD : Cell → Led} {Q : Unit → Shared → Prop} (H : St s₀ B (F :: D) s) (U : ∀ P', Upd f (ObjC (fnObj fd none)) P' D (DD P'))
    (hn : typeLookup (.type "function") name = pure none) (h : ∀ dx s', St s₀ B (F :: (dx, NsL [(name, v)]) :: DD (ObjC (fnObj fd (some dx)))) s' → Q () s') : wpAny (MM w) A (setAttr (.ref f) name v) Q E s := by
  have SF := store_function
  have ho := H.obj (.tail _ (U (ObjC (fnObj fd none))).mem)
  have hT : s.TypeIs (.ref f) "function" := ⟨_, ho, rfl⟩
  have hT' : ({ s with toks := s.toks + 1 } : Shared).TypeIs (.ref f) "function" := hT
  unfold setAttr
  refine wpAny_bind (wpAny_mkText (wpAny_bind (wpAny_callSpecial?_slot hT' SF.slot (wpAny_call_entry SF.slot hT' SF.entry ?_ (SF.args _ _ _)))))
  rw [osa_eq, refuse_eq]
  refine wpAny_bind (wpAny_bind (wpAny_typeOf hT' (wpAny_bind (wpAny_of_eq SF.mro ?_))))
  rw [SF.passes]
  refine wpAny_pure (wpAny_bind (wpAny_typeOf hT' (wpAny_bind (wpAny_of_eq hn (wpAny_bind (wpAny_of_eq (a := none) rfl ?_))))))
  dsimp only
  unfold storeInOwnDict
  refine wpAny_bind (wpAny_of_eq (a := ()) (by first | rfl | kernel_rfl) ?_)
  show wpAny _ _ (ownDictForStores (.ref f) >>= fun r => _) _ _ _
  refine wpAny_bind ?_
  unfold ownDictForStores instanceDict
  dsimp only
  refine wpAny_bind (wpAny_loadPart (s := { s with toks := s.toks + 1 }) ho ?_)
  dsimp only
  rw [if_neg (show ¬ ((!true || !typeHasDict (Value.type "function")) = true) by unfold typeHasDict; rw [find?_eq_fast]; decide +kernel)]
  refine wpAny_bind (wpAny_alloc ?_)
  have ho1 : (s.heap.push { cls := .type "dict", data := .dict #[] }).get? f = some (fnObj fd none) := Heap.get?_push_of_some _ ho
  refine wpAny_bind (wpAny_update (s := { s with toks := s.toks + 1, heap := s.heap.push { cls := .type "dict", data := .dict #[] } }) ho1 ?_)
  dsimp only
  refine wpAny_of_eq (a := some s.heap.objs.size) (by first | rfl | kernel_rfl) ?_
  have hne : f ≠ s.heap.objs.size := Nat.ne_of_lt (Heap.lt_size ho)
  have hd1 : ((s.heap.push { cls := .type "dict", data := .dict #[] }).update f fun o => { cls := o.cls, dict := some s.heap.objs.size, data := o.data, slots := o.slots }).get? s.heap.objs.size = some { cls := .type "dict", data := .dict #[] } :=
    (Heap.get?_update_ne _ _ _ _ hne.symm).trans (Heap.get?_push_at rfl rfl)
  have hf1 : ((s.heap.push { cls := .type "dict", data := .dict #[] }).update f fun o => { cls := o.cls, dict := some s.heap.objs.size, data := o.data, slots := o.slots }).get? f = some (fnObj fd (some s.heap.objs.size)) :=
    Heap.get?_update_self _ ho1 rfl
  have hk1 : ∀ b o, b ≠ f → s.heap.get? b = some o → ((s.heap.push { cls := .type "dict", data := .dict #[] }).update f fun o => { cls := o.cls, dict := some s.heap.objs.size, data := o.data, slots := o.slots }).get? b = some o := fun b o hb e =>
    (Heap.get?_update_ne _ _ _ _ hb).trans (Heap.get?_push_of_some _ e)
  generalize ((s.heap.push { cls := .type "dict", data := .dict #[] }).update f fun o => { cls := o.cls, dict := some s.heap.objs.size, data := o.data, slots := o.slots }) = h1 at hd1 hf1 hk1
  have hnd : h1.Ns s.heap.objs.size (fun _ => none) := ⟨_, #[], _, hd1, rfl, fun e he => absurd he (by simp), fun _ => rfl⟩
  show wpAny _ _ (storeInDict s.heap.objs.size (.str name s.toks) name v) _ _ _
  unfold storeInDict newKeyGuard
  refine wpAny_bind (wpAny_pure (wpAny_bind (wpAny_nsSet1 (Heap.Ns1.of_empty hnd) fun h' hn' hs => ?_)))
  obtain ⟨oD, esD, epD, hoD, hdD, hcD⟩ := hn'.count (Within.cons name v Within.nil)
  refine wpAny_bind (wpAny_lookBehind hoD (by rw [hdD]; exact pastItsLine_dict (Nat.le_trans hcD (by rw [List.length_cons, List.length_nil, sizeLine_eq]; omega))) ?_)
  refine wpAny_pure ⟨_, rfl, wpAny_pure (h s.heap.objs.size _ ?_)⟩
  have H2 := H.extend (N := [(s.heap.objs.size, NsL [(name, v)])]) (.there (x := F) (U (ObjC (fnObj fd (some s.heap.objs.size))))) (h' := h')
    (fun b o hb e => (hs.2 b (Nat.ne_of_lt (Heap.lt_size e))).trans (hk1 b o hb e)) ⟨_, (hs.2 f hne).trans hf1, rfl⟩ (fun p hp => ?_) (by simp) ?_
  · exact H2.perm (List.Perm.swap ..)
  · rw [List.mem_singleton.mp hp]
    refine ⟨Nat.le_refl _, ?_⟩
    have e : (fun x => if x = name then some v else (fun _ => none : PySem.Str → Option Value) x) = fun x => List.lookup x [(name, v)] := by
      funext x
      by_cases hx : x = name
      · simp [List.lookup, hx]
      · have e' : (x == name) = false := by simpa using hx
        simp [List.lookup, hx, e']
    rw [e] at hn'
    exact ns1_iff.mp hn'
end
end
section
section
variable {w : World} {A : Around} {E : Value → Shared → Prop} {s₀ s : Shared} {B : Heap} {D D' : Led} {F : Addr × Cell} {a l : Addr} {env : Env}
theorem r_callCode {f : Addr} {n : Nat} {name qual : Str} {params : Arguments} {body : List Stmt} {scope : Scope} {dV kV doc pm cdv ct oc : Value} {an od : Option Addr} {osl : Array (Option Value)}
    {args : List Value} {ps : List Str} {R : Result → Shared → Prop} (G : Base w B) (hA : Ok A (n + 1)) (H : St s₀ B D s)
    (ho : (KF w).lookup f = some ⟨oc, od, .func (fnOf name qual params body scope dV kV doc pm an cdv ct), osl⟩) (hcd : codeIn (KF w) cdv qual = true)
    (hps : params.args.map (·.arg) = ps) (hnd : ps.Nodup)
    (hbind : bindArgs (fnOf name qual params body scope dV kV doc pm an cdv ct) ⟨args, []⟩ = pure ((params.args.map (·.arg)).zip args)) (hcell : ∀ x ∈ scope.names, x.2 ≠ .cell) (hloc : ∀ x ∈ ps, scope.names.lookup x = some .local)
    (hco : scope.isCoroutine = false) (hgen : scope.isGenerator = false) (hk : scope.kind = .function)
    (h : ∀ A' L s', Ok A' n → St s₀ B ((L, LocC (ps.zip args)) :: D) s' →
      wpAny (MM w) A' (execs body (envX qual scope L f cdv [])) (fun fl s' => R (.ok (.ret (match fl with | .ret v => v | _ => .none))) s') (fun _ _ => False) s') :
    codeAny (MM w) A (.call (.ref f) ⟨args, []⟩) R s := by
  subst hps
  refine (codeAny_call_def hA.room (H.keep _ _ (G.K _ _ ho)) rfl (G.nolimit.keeps H.keep) ((codeRec_of G.K hcd).keeps H.keep) rfl (BindsTo.of_eq hbind) hcell (fun x hx => hloc x.1 (List.of_mem_zip hx).1) (fun h₀ hns hk₀ => ?_) hco hgen hk)
  obtain ⟨oL, hoL, hN⟩ := ns_iff.mp hns
  have hl : ∀ p ∈ (params.args.map (·.arg)).zip args, ((params.args.map (·.arg)).zip args).reverse.lookup p.1 = some p.2 := fun p hp => lookup_zip hnd _ hp
  have H1 := (H.alloc (P := LocC ((params.args.map (·.arg)).zip args)) rfl hk₀ hoL ⟨_, hN, hl⟩).toks (s.toks + ((params.args.map (·.arg)).zip args).length)
  exact wpAny_mono (h _ _ _ (hA.deeper _) H1) (fun _ _ q => q) fun _ _ q => q.elim
theorem r_callMade {f c' : Addr} {n : Nat} {name qual : Str} {params : Arguments} {body : List Stmt} {scope : Scope} {cl : List (Str × Addr)} {doc pm ctv : Value}
    {args : List Value} {ps : List Str} {Q : Value → Shared → Prop} (G : Base w B) (hA : Ok A (n + 1)) (H : St s₀ B D s)
    (ho : (f, ObjC (fnMade name qual params body scope cl doc pm c' ctv)) ∈ D) (hcd : (c', CodeC qual) ∈ D)
    (hps : params.args.map (·.arg) = ps) (hnd : ps.Nodup)
    (hbind : bindArgs (fnX name qual params body scope cl .none .none doc pm none (.ref c') ctv) ⟨args, []⟩ = pure ((params.args.map (·.arg)).zip args)) (hcell : ∀ x ∈ scope.names, x.2 ≠ .cell) (hloc : ∀ x ∈ ps, scope.names.lookup x = some .local)
    (hco : scope.isCoroutine = false) (hgen : scope.isGenerator = false) (hk : scope.kind = .function)
    (h : ∀ A' L s', Ok A' n → St s₀ B ((L, LocC (ps.zip args)) :: D) s' →
      wpAny (MM w) A' (execs body (envX qual scope L f (.ref c') cl)) (fun fl s' => Q (match fl with | .ret v => v | _ => .none) s') (fun _ _ => False) s') :
    wpAny (MM w) A (call (.ref f) args) Q E s := by
  subst hps
  obtain ⟨oc, hoc, vs, t, hd, hv⟩ := H.get hcd
  refine wpAny_call (codeAny_call_def hA.room (H.obj ho) rfl (G.nolimit.keeps H.keep) ⟨c', oc, vs, t, rfl, hoc, hd, hv⟩ rfl (BindsTo.of_eq hbind) hcell (fun x hx => hloc x.1 (List.of_mem_zip hx).1) (fun h₀ hns hk₀ => ?_) hco hgen hk)
  obtain ⟨oL, hoL, hN⟩ := ns_iff.mp hns
  have hl : ∀ p ∈ (params.args.map (·.arg)).zip args, ((params.args.map (·.arg)).zip args).reverse.lookup p.1 = some p.2 := fun p hp => lookup_zip hnd _ hp
  have H1 := (H.alloc (P := LocC ((params.args.map (·.arg)).zip args)) rfl hk₀ hoL ⟨_, hN, hl⟩).toks (s.toks + ((params.args.map (·.arg)).zip args).length)
  exact wpAny_mono (h _ _ _ (hA.deeper _) H1) (fun _ _ q => q) fun _ _ q => q.elim
theorem weight_tc (C : Addr) (rest : List Value) (kw : List (Str × Value)) : (Code.builtin "type.__call__" ⟨.ref C :: rest, kw⟩).weight = 1 := by kernel_rfl
theorem units_tc (C : Addr) (rest : List Value) (kw : List (Str × Value)) : (Code.builtin "type.__call__" ⟨.ref C :: rest, kw⟩).cUnits = 1 := by kernel_rfl
theorem Ok.under {n : Nat} {C : Addr} {rest : List Value} {kw : List (Str × Value)} (h : Ok A (n + 1)) : Ok (A.under (.builtin "type.__call__" ⟨.ref C :: rest, kw⟩)) n := by
  have h1 := weight_tc C rest kw
  have h2 := units_tc C rest kw
  refine ⟨h.hh, ?_, ?_⟩
  · have := h.hd; show A.depth + (Code.builtin "type.__call__" ⟨.ref C :: rest, kw⟩).weight + 10 * n + 10 < _; omega
  · have := h.hu; show A.units + (Code.builtin "type.__call__" ⟨.ref C :: rest, kw⟩).cUnits + 100 * n + 100 < _; omega
theorem r_make {n : Nat} {C fI : Addr} {args : List Value} {Q : Value → Shared → Prop} (G : Base w B) (hA : Ok A (n + 1)) (H : St s₀ B (F :: D) s) (hm : makesIn (KF w) C = true) (hi : findIn (KF w) (.ref C) "__init__" = some (some (.ref fI)))
    (hf : typeIn (KF w) (.ref fI) = some (.type "function"))
    (h : ∀ x dx A' s', Ok A' n → St s₀ B (F :: (x, InstC C dx) :: (dx, NsL []) :: D) s' → codeAny (MM w) A' (.call (.ref fI) ⟨.ref x :: args, []⟩) (fun r s' => r = .ok (.ret .none) ∧ Q (.ref x) s') s') :
    wpAny (MM w) A (call (.ref C) args) Q E s := by
  obtain ⟨hh, g, d, t, os⟩ := s
  have X := G.K.keeps H.keep
  refine wpAny_call (make_core (makes_of X hm) (looks_findIn X hi) (fun self => bind_fn X self hf) (.inl rfl) ?_)
  have H1 : St s₀ B ((hh.objs.size, NsL []) :: F :: D) ⟨hh.push emptyDict, g, d, t, os⟩ := H.push (o := emptyDict) (P := NsL []) ⟨#[], _, rfl, by intro e he; simp at he, List.Pairwise.nil, fun _ => rfl⟩
  have H2 : St s₀ B ((hh.objs.size + 1, InstC C hh.objs.size) :: (hh.objs.size, NsL []) :: F :: D) ⟨(hh.push emptyDict).push (instObj C hh.objs.size), g, d, t, os⟩ := by
    have := H1.push (o := instObj C hh.objs.size) (P := InstC C hh.objs.size) ⟨#[], rfl⟩
    rwa [show ((⟨hh.push emptyDict, g, d, t, os⟩ : Shared).heap.objs.size) = hh.objs.size + 1 from Heap.size_push ..] at this
  refine codeAny_mono (h _ _ _ _ (hA.under) (H2.perm (List.perm_middle (a := F) (l₁ := [(_, _), (_, _)]) (l₂ := D)))) fun r s' z => ?_
  obtain ⟨rfl, z⟩ := z
  exact ⟨rfl, z⟩
end
end
section
noncomputable def HasK (w : World) (s : Shared) : Prop := (KF w).In s.heap
section
variable {w : World} {A : Around} {E : Value → Shared → Prop} {s₀ s : Shared} {B : Heap} {D D' : Led} {F : Addr × Cell} {a l : Addr} {env : Env}
theorem r_hasK (G : Base w B) (H : St s₀ B D s) {P : Prop} (h : P) : (KF w).In s.heap ∧ P := ⟨G.K.keeps H.keep, h⟩
theorem r_attr {n attr : Str} {np pos : Pos} {Q : Value → Shared → Prop} (h : wpAny (MM w) A (eval (.Name n np) env) (fun o s₁ => wpAny (MM w) A (getAttr o attr true) Q E s₁) E s) :
    wpAny (MM w) A (eval (.Attribute (.Name n np) attr pos) env) Q E s := Attribute_name h
theorem r_assignAttr {o e : PySem.Expr} {attr : Str} {p' pos : Pos} {rest : List Stmt} {Q : Flow → Shared → Prop} (hs : swapsWith e (some (.Attribute o attr p')) pos.line env = pure false)
    (h : wpAny (MM w) A (eval e env) (fun v s₁ => wpAny (MM w) A (eval o env) (fun ov s₂ => wpAny (MM w) A (setAttr ov attr v) (fun _ s₄ => wpAny (MM w) A (execs rest env) Q E s₄) E s₂) E s₁) E s) :
    wpAny (MM w) A (execs (.Assign [.Attribute o attr p'] e pos :: rest) env) Q E s := wpAny_execs_cons (plainObj_wpAny_Assign_Attribute h hs)
theorem r_augAttr {o e : PySem.Expr} {attr : Str} {p' pos : Pos} {op : Operator} {rest : List Stmt} {Q : Flow → Shared → Prop}
    (h : wpAny (MM w) A (eval o env) (fun ov s₁ => wpAny (MM w) A (getAttr ov attr true) (fun old s₂ => wpAny (MM w) A (eval e env) (fun v s₃ => wpAny (MM w) A (inplaceOp op old v) (fun new s₄ =>
      wpAny (MM w) A (setAttr ov attr new) (fun _ s₅ => wpAny (MM w) A (execs rest env) Q E s₅) E s₄) E s₃) E s₂) E s₁) E s) :
    wpAny (MM w) A (execs (.AugAssign (.Attribute o attr p') op e pos :: rest) env) Q E s := wpAny_execs_cons (wpAny_AugAssign_AttributeAny h)
theorem r_callK {f : Value} {first : List Value} {pos : Pos} {e : PySem.Expr} {rest : List PySem.Expr} {Q : Value → Shared → Prop} (G : Base w B) (hk : keepIn (KF w) f = true)
    (he : starEach (e :: rest) env = (false, eval e env) :: starEach rest env) (hp : (backTo pos (starEach rest env)).any (·.1) = false)
    (h : wpAny (MM w) A (spliced (backTo pos (starEach (e :: rest) env))) (fun vs s₁ => (KF w).In s₁.heap ∧ wpAny (MM w) A (call f (first ++ vs)) Q E s₁) E s) :
    wpAny (MM w) A (callWith pos f first (backTo pos (starEach (e :: rest) env)) []) Q E s := callWith_K G.K hk h he hp
theorem r_callK0 {f : Value} {first : List Value} {pos : Pos} {Q : Value → Shared → Prop} (G : Base w B) (H : St s₀ B D s) (hk : keepIn (KF w) f = true)
    (h : wpAny (MM w) A (call f (first ++ [])) Q E s) : wpAny (MM w) A (callWith pos f first (backTo pos (starEach [] env)) []) Q E s := callWith_K0 (G.K.keeps H.keep) hk h
theorem r_callF {f : Addr} {first : List Value} {pos : Pos} {e : PySem.Expr} {rest : List PySem.Expr} {Q : Value → Shared → Prop} {dx : Option Addr} {fd : FuncData} (H : St s₀ B D s) (hf : (f, ObjC (fnObj fd dx)) ∈ D)
    (he : starEach (e :: rest) env = (false, eval e env) :: starEach rest env) (hp : (backTo pos (starEach rest env)).any (·.1) = false)
    (h : wpAny (MM w) A (spliced (backTo pos (starEach (e :: rest) env))) (fun vs s₁ => s₁.heap.get? f = some (fnObj fd dx) ∧ wpAny (MM w) A (call (.ref f) (first ++ vs)) Q E s₁) E s) :
    wpAny (MM w) A (callWith pos (.ref f) first (backTo pos (starEach (e :: rest) env)) []) Q E s :=
  callWith_F ⟨_, _, _, _, H.obj hf⟩ (wpAny_mono h (fun _ _ z => ⟨⟨_, _, _, _, z.1⟩, z.2⟩) fun _ _ z => z) he hp
theorem r_objR {f : Addr} {o : Obj} (H : St s₀ B D s) (hf : (f, ObjC o) ∈ D) {P : Prop} (h : P) : s.heap.get? f = some o ∧ P := ⟨H.obj hf, h⟩
theorem r_bound {x C dx f : Addr} {lo : List (Str × Value)} {name : Str} {expr : Bool} {Q : Value → Shared → Prop} (G : Base w B) (H : St s₀ B (F :: D) s) (hx : (x, InstC C dx) ∈ F :: D) (hd : (dx, NsL lo) ∈ F :: D)
    (hg : plainGet (KF w) C name = true) (hh : hasDictIn (KF w) C = true) (ha : findIn (KF w) (.ref C) name = some (some (.ref f))) (hf : isFn (KF w) (.ref f) = true)
    (hgf : specialIn (KF w) (.ref f) "__get__" = some (some (.builtin "function.__get__"))) (ht : takesIn (KF w) (.ref f) = some false) (hc : copiedNames.contains name = false) (hl : lo.lookup name = none)
    (h : ∀ q s', St s₀ B (F :: (q, ObjC (methodObj (.ref f) (.ref x))) :: D) s' → Q (.ref q) s') : wpAny (MM w) A (getAttr (.ref x) name expr) Q E s := by
  obtain ⟨ox, od, I, _, hN⟩ := H.inst hx hd
  have X := G.K.keeps H.keep
  refine get_bind X I (plainGet_of hg).1 (findObj_fn hh ha hgf ht hc (by rw [lookIn_ns hN.ns, hl])) (plainGet_of hg).2
    (wpAny_call (fn_get (s := { s with toks := s.toks + 1 }) X (beq_iff_eq.mp hf) (handed_on rfl (h s.heap.objs.size _ ?_))))
  exact ((H.toks (s.toks + 1)).push (P := ObjC (methodObj (.ref f) (.ref x))) rfl).swap
theorem codeBound {q f : Addr} {x : Value} {args : List Value} {R : Result → Shared → Prop} (hb : s.heap.get? q = some (methodObj (.ref f) x))
    (h : codeAny (MM w) A (.call (.ref f) ⟨x :: args, []⟩) R s) : codeAny (MM w) A (.call (.ref q) ⟨args, []⟩) R s := ks_codeAny_call_bound hb h
noncomputable def IterCall (m : Addr) (v : Value) : Cell := fun o => o.cls = .type "callable_iterator" ∧ o.data = .fields #[.ref m, v, .bool false]
noncomputable def IterOver : Cell := fun o => o.cls = .type "callable_iterator" ∧ o.data = .fields #[.none, .none, .bool true]
theorem kind_iter : builtinKind "iter" = none := by decide +kernel
theorem plain_iter : plainId "iter" = true := by decide +kernel
theorem entry_iter : entryFor table "iter" = some Builtin.«iter» := entryFor_of_tree (by kernel_rfl)
theorem args_iter_2 (a b : Value) : argsOk "iter" ⟨[a, b], []⟩ := by unfold argsOk; kernel_rfl
theorem look_method_call : typeLookup (.type "method") "__call__" = pure (some (.builtin "method.__call__")) := by rw [typeLookup_type, builtinLookup_eq_fast]; kernel_rfl
theorem r_iter2 {q f x : Addr} {v : Value} {Q : Value → Shared → Prop} (H : St s₀ B (F :: D) s) (hq : (q, ObjC (methodObj (.ref f) (.ref x))) ∈ F :: D)
    (h : ∀ it s', St s₀ B (F :: (it, IterCall q v) :: D) s' → Q (.ref it) s') : wpAny (MM w) A (call (.builtin "iter") [.ref q, v]) Q E s := by
  have hT : s.TypeIs (.ref q) "method" := ⟨_, H.obj hq, rfl⟩
  refine Calls.call_function_entry kind_iter plain_iter entry_iter (args_iter_2 _ _) ?_
  unfold Builtin.«iter»
  refine wpAny_bind (wpAny_of_eq (a := [.ref q, v]) (by first | rfl | kernel_rfl) ?_)
  dsimp only
  refine wpAny_bind (wpAny_specialOf hT look_method_call ?_)
  refine wpAny_bind (wpAny_rule ?_)
  refine wpAny_bind (wpAny_newObj_type (wpAny_pure ⟨_, rfl, h _ _ (H.push (P := IterCall q v) ⟨rfl, rfl⟩).swap⟩))
end
end
section
open Builtin
theorem slot_ci_next : Slot "callable_iterator" "__next__" "callable_iterator.__next__" :=
  .of (owner := "callable_iterator") (n := "__next__") (by rw [typeLookup_type, builtinLookup_eq_fast]; kernel_rfl) (by decide +kernel) (by decide +kernel) (by decide +kernel)
    (by first | exact .inl (by decide +kernel) | exact .inr (by decide +kernel)) (by rw [isSubtype_type]; kernel_rfl)
theorem slot_ci_iter : Slot "callable_iterator" "__iter__" "callable_iterator.__iter__" :=
  .of (owner := "callable_iterator") (n := "__iter__") (by rw [typeLookup_type, builtinLookup_eq_fast]; kernel_rfl) (by decide +kernel) (by decide +kernel) (by decide +kernel)
    (by first | exact .inl (by decide +kernel) | exact .inr (by decide +kernel)) (by rw [isSubtype_type]; kernel_rfl)
theorem entry_ci_next : entryFor table "callable_iterator.__next__" = some Builtin.«callable_iterator.__next__» := entryFor_of_tree (by kernel_rfl)
theorem entry_ci_iter : entryFor table "callable_iterator.__iter__" = some Builtin.«dict_keyiterator.__iter__» :=
  entryFor_alias (id' := "dict_keyiterator.__iter__") (by kernel_rfl) rfl (by decide +kernel) (by kernel_rfl)
theorem args_ci_next (a : Value) : argsOk "callable_iterator.__next__" ⟨[a], []⟩ := by unfold argsOk; kernel_rfl
theorem args_ci_iter (a : Value) : argsOk "callable_iterator.__iter__" ⟨[a], []⟩ := by unfold argsOk; kernel_rfl
theorem borrowed_eq (f : Value) (pos : List Value) : callBorrowed f pos = (call f pos).keep [borrowed] := by
  show Sem.call _ none false _ _ = Sem.call _ none false _ _
  congr 1
  funext r
  rcases r with e | (v | _ | _ | _) <;> rfl
section
variable {w : World} {A : Around} {E : Value → Shared → Prop} {s₀ s : Shared} {B : Heap} {D D' : Led} {F : Addr × Cell} {a l : Addr} {env : Env}
theorem Ok.in1 {n : Nat} (h : Ok A (n + 1)) : Ok A.in1 n := ⟨h.hh, by have := h.hd; show A.depth + 10 * n + 10 < _; omega, by have := h.hu; show A.units + 1 + 100 * n + 100 < _; omega⟩
theorem ci_borrows {q f : Addr} {x : Value} {o : Obj} {fd : FuncData} {Q : Bool → Shared → Prop} (hq : s.heap.get? q = some (methodObj (.ref f) x)) (hf : s.heap.get? f = some o) (hd : o.data = .func fd) (h : Q true s) :
    wpAny (MM w) A (borrowsExactly (.ref q)) Q E s := by
  unfold borrowsExactly
  refine wpAny_bind (wpAny_load hq ?_)
  dsimp only
  refine wpAny_bind (wpAny_load hf ?_)
  rw [hd]
  exact wpAny_pure h
theorem ci_end {W : String} {p : Code → Bool} {q it f : Addr} {x v : Value} {o oi : Obj} {fd : FuncData} {Q : Unit → Shared → Prop} (hi : s.heap.get? it = some oi) (hid : oi.data = .fields #[.ref q, v, .bool false])
    (hq : s.heap.get? q = some (methodObj (.ref f) x)) (hf : s.heap.get? f = some o) (hd : o.data = .func fd)
    (h : ∀ h' o', h'.get? it = some o' → o'.cls = oi.cls → o'.data = .fields #[.none, .none, .bool true] → Heap.SameBut it s.heap h' → Q () { s with heap := h' }) :
    wpAny (MM w) A (do slotLetsGo W (← field (.ref it) 0) p; setField (.ref it) 0 .none; setField (.ref it) 1 .none; setField (.ref it) 2 (.bool true)) Q E s := by
  refine wpAny_bind (wpAny_field hi hid rfl ?_)
  refine wpAny_bind ?_
  unfold slotLetsGo
  refine wpAny_bind (ci_borrows hq hf hd ?_)
  refine wpAny_pure ?_
  have e1 : (s.heap.update it (Obj.mapFields (·.setIfInBounds 0 .none))).get? it = some (oi.mapFields (·.setIfInBounds 0 .none)) := Heap.get?_update_self _ hi (Obj.isFreed_of_fields (Obj.data_mapFields hid _))
  have d1 : (oi.mapFields (·.setIfInBounds 0 .none)).data = .fields #[.none, v, .bool false] := Obj.data_mapFields hid _
  refine wpAny_bind (wpAny_setField hi hid (by simp) ?_)
  have e2 := Heap.get?_update_self (Obj.mapFields (·.setIfInBounds 1 .none)) e1 (Obj.isFreed_of_fields (Obj.data_mapFields d1 _))
  have d2 : ((oi.mapFields (·.setIfInBounds 0 .none)).mapFields (·.setIfInBounds 1 .none)).data = .fields #[.none, .none, .bool false] := Obj.data_mapFields d1 _
  refine wpAny_bind (wpAny_setField (s := { s with heap := s.heap.update it (Obj.mapFields (·.setIfInBounds 0 .none)) }) e1 d1 (by simp) ?_)
  have e3 := Heap.get?_update_self (Obj.mapFields (·.setIfInBounds 2 (.bool true))) e2 (Obj.isFreed_of_fields (Obj.data_mapFields d2 _))
  refine wpAny_setField (s := { s with heap := (s.heap.update it (Obj.mapFields (·.setIfInBounds 0 .none))).update it (Obj.mapFields (·.setIfInBounds 1 .none)) }) e2 d2 (by simp) ?_
  refine h _ _ e3 ?_ (Obj.data_mapFields d2 _) (((Heap.SameBut.update ..).trans (Heap.SameBut.update ..)).trans (Heap.SameBut.update ..))
  rw [Obj.cls_mapFields, Obj.cls_mapFields, Obj.cls_mapFields]
theorem stop_iter {α : Type} {Q : α → Shared → Prop} (hh : A.handled = none) (h : ∀ h' e o, h'.get? e = some o → o.cls = .type "StopIteration" → (∀ b o, s.heap.get? b = some o → h'.get? b = some o) → E (.ref e) { s with heap := h' }) :
    wpAny (MM w) A (SmallTypes.stopIteration : Sem α) Q E s := by
  unfold SmallTypes.stopIteration
  show wpAny _ _ (newExc (.type "StopIteration") [] >>= _) _ _ _
  refine wpAny_bind ?_
  simp only [newExc, newTuple]
  refine wpAny_bind (wpAny_newObj_type ?_ (by size_fits))
  refine wpAny_bind (m := firstArgMember _ _) (wpAny_of_eq (a := Value.none) (by first | rfl | (simp only [firstArgMember]; rfl)) ?_)
  refine wpAny_newObj_type ?_ (by size_fits)
  simp only [raiseNew]
  refine wpAny_bind (wpAny_handled ?_)
  rw [hh]
  refine wpAny_bind (wpAny_pure (wpAny_throw ?_))
  exact h _ _ _ (Heap.get?_push_size _ rfl) rfl fun b o e => Heap.get?_push_of_some _ (Heap.get?_push_of_some _ e)
theorem next_stops {it : Addr} {Q : Option Value → Shared → Prop} (hT : s.TypeIs (.ref it) "callable_iterator")
    (h : wpAny (MM w) A.in1 (Builtin.«callable_iterator.__next__» ⟨[.ref it], []⟩) (fun fin s' => ∃ v, fin = .done (.ret v) ∧ Q (some v) s')
      (fun e s' => wpAny (MM w) A (isInstance e (.type "StopIteration")) (fun b s₂ => b = true ∧ Q none s₂) E s') s) : wpAny (MM w) A (pyNext (.ref it)) Q E s := by
  unfold pyNext
  refine wpAny_bind (wpAny_attempt (wpAny_callSpecial?_slot (name := Str.ofString "__next__") hT slot_ci_next (wpAny_call_entry slot_ci_next hT entry_ci_next ?_ (args_ci_next _))))
  refine wpAny_mono h (fun fin s' z => ?_) fun e s' z => ?_
  · obtain ⟨v, rfl, z⟩ := z
    exact ⟨v, rfl, wpAny_pure z⟩
  · refine wpAny_bind (wpAny_mono z (fun b s₂ z => ?_) fun _ _ z => z)
    obtain ⟨rfl, z⟩ := z
    exact wpAny_pure z
theorem r_nextOver {it : Addr} {Q : Option Value → Shared → Prop} (hh : A.handled = none) (H : St s₀ B (F :: (it, IterOver) :: D) s) (h : ∀ s', St s₀ B (F :: (it, IterOver) :: D) s' → Q none s') : wpAny (MM w) A (pyNext (.ref it)) Q E s := by
  obtain ⟨o, ho, hc, hd⟩ := H.get (.tail _ (.head _))
  refine next_stops ⟨o, ho, hc⟩ ?_
  unfold Builtin.«callable_iterator.__next__»
  refine wpAny_bind (wpAny_of_eq (a := (Value.ref it, [])) (by first | rfl | kernel_rfl) ?_)
  refine wpAny_bind (wpAny_field ho hd rfl ?_)
  dsimp only
  rw [if_pos (by decide)]
  refine wpAny_bind (wpAny_rule (wpAny_bind (stop_iter hh fun h' e o' he hc' hk => ?_)))
  refine wpAny_isInstance (T := "StopIteration") (b := true) ⟨_, he, hc'⟩ isSubtype_stop ⟨rfl, h _ (H.grow hk s.toks)⟩
theorem r_nextCall {n : Nat} {it q f x : Addr} {o : Obj} {fd : FuncData} {ts : Tok} {Q : Option Value → Shared → Prop} (G : Base w B) (hA : Ok A (n + 1)) (hf : (KF w).lookup f = some o) (hfd : o.data = .func fd)
    (H : St s₀ B (F :: (it, IterCall q (.str (T []) ts)) :: D) s) (hq : (q, ObjC (methodObj (.ref f) (.ref x))) ∈ D)
    (hcall : codeAny (MM w) A.in1 (.call (.ref f) ⟨[.ref x], []⟩) (fun r s' => ∃ c t, r = .ok (.ret (.str (T c) t)) ∧ ∃ F' D', St s₀ B (F' :: (it, IterCall q (.str (T []) ts)) :: D') s' ∧ (q, ObjC (methodObj (.ref f) (.ref x))) ∈ D' ∧
      (c = [] → ∀ s'', St s₀ B (F' :: (it, IterOver) :: D') s'' → Q none s'') ∧ (c ≠ [] → Q (some (.str (T c) t)) s')) s) :
    wpAny (MM w) A (pyNext (.ref it)) Q E s := by
  obtain ⟨oi, ho, hc, hd⟩ := H.get (.tail _ (.head _))
  refine next_stops ⟨oi, ho, hc⟩ ?_
  unfold Builtin.«callable_iterator.__next__»
  refine wpAny_bind (wpAny_of_eq (a := (Value.ref it, [])) (by first | rfl | kernel_rfl) ?_)
  refine wpAny_bind (wpAny_field (x := .bool false) ho hd rfl ?_)
  dsimp only
  rw [if_neg (show ¬ ((Value.bool false == Value.bool true) = true) by decide)]
  refine wpAny_bind (wpAny_field (x := .ref q) ho hd rfl ?_)
  refine wpAny_bind (wpAny_attempt ?_)
  unfold callOutOfASlot
  refine wpAny_bind (ci_borrows (H.obj (.tail _ (.tail _ hq))) (H.keep _ _ (G.K _ _ hf)) hfd ?_)
  rw [if_pos rfl, borrowed_eq]
  refine Calls.wpAny_keep (wpAny_call (codeBound (H.obj (.tail _ (.tail _ hq))) (codeAny_mono hcall fun r s' z => ?_)))
  obtain ⟨c, t, rfl, F', D', H', hq', h0, h1⟩ := z
  clear H ho hc hd oi
  obtain ⟨oi, ho, hc, hd⟩ := H'.get (.tail _ (.head _))
  dsimp only
  refine wpAny_bind (wpAny_field (x := .bool false) ho hd rfl ?_)
  rw [if_neg (show ¬ ((Value.bool false == Value.bool true) = true) by decide)]
  refine wpAny_bind (wpAny_field (x := .str (T []) ts) ho hd rfl ?_)
  refine wpAny_bind (wpAny_holding (wpAny_eqBool_str ?_))
  by_cases e : c = []
  · subst e
    simp only [decide_true, Bool.not_true, Bool.false_eq_true, if_false]
    refine wpAny_bind (wpAny_rule ?_)
    refine wpAny_bind (ci_end ho hd (H'.obj (.tail _ (.tail _ hq'))) (H'.keep _ _ (G.K _ _ hf)) hfd fun h' o' e1 e2 e3 e4 => ?_)
    refine stop_iter hA.hh fun h'' e o'' he hc' hk => ?_
    refine wpAny_isInstance (T := "StopIteration") (b := true) ⟨_, he, hc'⟩ isSubtype_stop ⟨rfl, h0 rfl _ ?_⟩
    exact (H'.upd' upd2 e4 ⟨o', e1, e2.trans hc, e3⟩).grow hk s'.toks
  · have e' : decide (T [] = T c) = false := decide_eq_false fun q => e (T_inj.mp q).symm
    rw [e', if_pos (by decide)]
    exact wpAny_pure ⟨_, rfl, h1 e⟩
theorem r_iterSelf {it : Addr} {P : Cell} {Q : Value → Shared → Prop} (hP : ∀ o, P o → o.cls = .type "callable_iterator") (H : St s₀ B D s) (hm : (it, P) ∈ D) (h : Q (.ref it) s) : wpAny (MM w) A (pyIter (.ref it)) Q E s := by
  obtain ⟨o, ho, hp⟩ := H.get hm
  have hT : s.TypeIs (.ref it) "callable_iterator" := ⟨o, ho, hP o hp⟩
  refine wpAny_pyIter_slot hT slot_ci_iter (wpAny_call_entry slot_ci_iter hT entry_ci_iter ?_ (args_ci_iter _))
  show wpAny _ _ (ret (.ref it)) _ _ s
  exact wpAny_pure ⟨_, rfl, "callable_iterator", _, hT, slot_ci_next.lookup, h⟩
end
end
local macro_rules | `(tactic| kp_flats) => `(tactic| first | exact SetIn.nil | exact SetIn.here | (refine' SetIn.there ?ne ?nx; (case ne => decide); (case nx => kp_flats)))
local macro_rules | `(tactic| keq_rows) => mAll [
  "p r_attr ?_||",
  "q r_assignAttr ?hs ?h|hs:r|",
  "p r_augAttr ?_||",
  "q r_setAttr G H ?hx ?hu ?hs ?hsa ?hp ?ht ?hh ?hz ?h|hx:m hu:u hs:k hsa:r hp:r ht:r hh:r hz:z|s",
  "q r_getAttr G H ?hx ?hd ?hg ?hh ?ha ?hn ?hl ?hv ?h|hx:m hd:m hg:K hh:K ha:r hn:K hl:r hv:r|s",
  "p r_hasK G H ?_||",
  "q r_objR H ?hf ?h|hf:m|",
  "q r_callK G ?hk ?he ?hp ?h|hk:r he:r hp:r|",
  "q r_callK0 G H ?hk ?h|hk:r|"]
local macro_rules | `(tactic| kpc_turns) => do
  let i (n : Lean.Name) := Lean.mkIdent n
  let (H, G, hA, A, L, s) := (i `H, i `G, i `hA, i `A, i `L, i `s)
  `(tactic|
  (refine' r_callCode $G $hA $H ?ho ?hcd ?hps ?hnd ?hbind ?hcell ?hloc ?hco ?hgen ?hk ?h; (case ho => exact rfl); (case hcd => kernel_rfl); (case hps => simp only [List.map_cons, List.map_nil]; exact rfl); (case hnd => decide); (case hbind => exact rfl);
   (case hcell => decide); (case hloc => decide); (case hco => exact rfl); (case hgen => exact rfl); (case hk => exact rfl); clear $H; clear $hA; intro $A $L $s $hA $H; simp only [List.zip_cons_cons, List.zip_nil_left, List.zip_nil_right] at $H:ident))
noncomputable def wsT : List Nat := [10, 9, 13, 32]
noncomputable def lexNs (ln : Int) (lt tw : Tok) (stream pb : Addr) : List (Str × Value) := [("lineno", .int ln lt), ("instream", .ref stream), ("whitespace", .str (T [10, 9, 13, 32]) tw), ("pushback", .ref pb)]
section
variable {w : World} {A : Around} {E : Value → Shared → Prop} {s₀ s : Shared} {B : Heap} {D D' : Led} {F : Addr × Cell} {a l : Addr}
set_option maxHeartbeats 4000000 in
theorem c_init {x dx stream : Addr} {R : Result → Shared → Prop} (G : Base w B) (hA : Ok A 1) (H : St s₀ B (F :: (x, InstC 101 dx) :: (dx, NsL []) :: D) s)
    (h : ∀ lt tw pb s', St s₀ B (F :: (x, InstC 101 dx) :: (dx, NsL (lexNs 1 lt tw stream pb)) :: (pb, ListC []) :: D) s' → R (.ok (.ret .none)) s') : codeAny (MM w) A (.call (.ref 77) ⟨[.ref x, .ref stream], []⟩) R s := by
  kpc_turns
  repeat tb_start
  exact h _ _ _ _ ((H.sub (D' := (l, _) :: F :: (x, _) :: (dx, _) :: D) (by regstrif_gather)).perm (List.perm_middle (a := (l, _)) (l₁ := [F, (x, _), (dx, _)])).symm)
noncomputable def ReadOk (w : World) (B : Heap) (rd rc cA cP : Addr) (fd : FuncData) : Prop :=
  ∀ {A : Around} {E : Value → Shared → Prop} {s₀ s : Shared} {F : Addr × Cell} {D D' : Led} {Q : Value → Shared → Prop} {page : List Nat} {tp tk : Tok} {at_ : Addr} {pos : Nat}, Ok A 1 → St s₀ B (F :: D) s →
    (rd, ObjC (fnObj fd none)) ∈ D → (rc, CodeC "_law_lexer.<locals>._law_read_on") ∈ D → (cP, CellC (some (.str (T page) tp))) ∈ D → (cA, CellC (some (.ref at_))) ∈ D →
    Upd at_ (IntsC [(pos : Int)]) (IntsC [(pos : Int) + (((page.drop pos).take 1).length : Int)]) D D' → page.length ≤ 5000 → pos ≤ 5000 →
    (∀ t s', St s₀ B (F :: D') s' → Q (.str (T ((page.drop pos).take 1)) t) s') → wpAny (MM w) A (call (.ref rd) [.int 1 tk]) Q E s
theorem nameMade {X : Addr × Cell} {name qual : Str} {params : Arguments} {body : List Stmt} {scope : Scope} {cl : List (Str × Addr)} {doc pm ctv : Value} {c' : Addr} (H : St s₀ B (X :: (a, ObjC (fnMade name qual params body scope cl doc pm c' ctv)) :: D) s) :
    ∃ fd, fd = fnX name qual params body scope cl .none .none doc pm none (.ref c') ctv ∧ St s₀ B (X :: (a, ObjC (fnObj fd none)) :: D) s := ⟨_, rfl, H⟩
theorem nameFn {X : Addr × Cell} {fd : FuncData} (H : St s₀ B (X :: (a, ObjC (fnObj fd none)) :: D) s) : ∃ fd, St s₀ B (X :: (a, ObjC (fnObj fd none)) :: D) s := ⟨fd, H⟩
theorem perm_pull : ∀ {D : Led} (n : Nat) {x : Addr × Cell}, D[n]? = some x → D.Perm (x :: D.eraseIdx n)
  | [], n, x, h => by simp at h
  | y :: D, 0, x, h => by
    have : y = x := by simpa using h
    subst this
    exact List.Perm.refl _
  | y :: D, n + 1, x, h => by
    have q := perm_pull (D := D) n (by simpa using h)
    exact (q.cons y).trans (List.Perm.swap ..)
theorem St.pull (H : St s₀ B D s) (n : Nat) {x : Addr × Cell} (h : D[n]? = some x) : St s₀ B (x :: D.eraseIdx n) s := H.perm (perm_pull n h)
structure LA where
  (x dx stream sdx rd rc cA cP at_ pb : Addr)
  (fdl fd : FuncData)
  (tp tw : Tok)
noncomputable def LA.var (a : LA) (ln : Int) (lt : Tok) (pos : Nat) (vs : List Value) : Led := [(a.dx, NsL (lexNs ln lt a.tw a.stream a.pb)), (a.at_, IntsC [(pos : Int)]), (a.pb, ListC vs)]
structure LexOk (w : World) (B : Heap) (a : LA) (page : List Nat) (X : Led) : Prop where
  read : ReadOk w B a.rd a.rc a.cA a.cP a.fd
  len : page.length ≤ 5000
  low : ∀ c ∈ page, c < 128
  hx : (a.x, InstC 101 a.dx) ∈ X
  hstream : (a.stream, ObjC (fnObj a.fdl (some a.sdx))) ∈ X
  hsdx : (a.sdx, NsL [("read", .ref a.rd)]) ∈ X
  hrd : (a.rd, ObjC (fnObj a.fd none)) ∈ X
  hrc : (a.rc, CodeC "_law_lexer.<locals>._law_read_on") ∈ X
  hcP : (a.cP, CellC (some (.str (T page) a.tp))) ∈ X
  hcA : (a.cA, CellC (some (.ref a.at_))) ∈ X
set_option maxHeartbeats 4000000 in
theorem c_lexer {page : List Nat} {tp : Tok} {Q : Value → Shared → Prop} (G : Base w B) (hA : Ok A 4) (H : St s₀ B (F :: (124, TabC #[]) :: D) s) (hlen : page.length ≤ 5000) (hlow : ∀ c ∈ page, c < 128)
    (h : ∀ a lt X0 ps s', LexOk w B a page X0 → St s₀ B (F :: a.var 1 lt 0 [] ++ (X0 ++ (124, TabC ps) :: D)) s' → Q (.ref a.x) s') : wpAny (MM w) A (call (.ref 129) [.str (T page) tp]) Q E s := by
  refine' r_callC (lo := []) (co := fun L => [("page", L + 1, some (.str (T page) tp)), ("at", L + 1 + 1, none)]) G hA H ?ho ?hcd ?hbind ?hkind ?hlo ?hco ?hnd ?hsc ?hgen ?hk ?hh
  case ho => exact rfl
  case hcd => kernel_rfl
  case hbind => exact rfl
  case hkind => intro L; exact rfl
  case hlo => exact rfl
  case hco => intro L; exact rfl
  case hnd => intro L; simp
  case hsc => exact rfl
  case hgen => exact rfl
  case hk => exact rfl
  clear H hA
  intro A L s hA H
  simp only [List.map_cons, List.map_nil, List.cons_append, List.nil_append] at H
  obtain ⟨L0, hL0⟩ : ∃ L0, L0 = L := ⟨_, rfl⟩
  subst hL0
  repeat tb_start
  refine' r_def (DD := fun P' => (l, ListC [.int 0 t]) :: (L0 + 1, CellC (some (.str (T page) tp))) :: (L0 + 1 + 1, CellC (some (.ref l))) :: F :: (124, P') :: D) G H ?U1 ?hd01 ?hk01 ?ha1 ?hcl1 ?hg1 ?hcode1 ?ht1 ?hnf1 ?hh1
  case U1 => intro P'; none_booked
  case hd01 => exact rfl
  case hk01 => exact rfl
  case ha1 => exact rfl
  case hcl1 => exact rfl
  case hg1 => exact rfl
  case hcode1 => exact rfl
  case ht1 => exact trivial
  case hnf1 => exact rfl
  clear H
  intro rd rc doc pm ctv s H
  obtain ⟨fd, hfd, H⟩ := nameMade H
  repeat tb_start
  refine' r_lambda (DD := fun P' => (rd, ObjC (fnObj fd none)) :: (rc, CodeC _) :: (l, ListC [.int 0 t]) :: (L0 + 1, CellC (some (.str (T page) tp))) :: (L0 + 1 + 1, CellC (some (.ref l))) :: F :: (124, P') :: D) G H ?U2 ?hdef2 ?hcl2 ?hg2 ?hcode2 ?ht2 ?hnf2 ?hh2
  case U2 => intro P'; none_booked
  case hdef2 => exact rfl
  case hcl2 => exact rfl
  case hg2 => exact rfl
  case hcode2 => exact rfl
  case ht2 => exact trivial
  case hnf2 => exact rfl
  clear H
  intro stream c2 pm2 ctv2 s H
  obtain ⟨fdl, H⟩ := nameFn H
  repeat tb_start
  refine r_setFn H (fun P' => .here) look_function_read ?_
  clear H
  intro sdx s H
  repeat tb_start
  refine r_make (C := 101) (fI := 77) G hA H rfl rfl rfl ?_
  clear H
  intro x dx A' s hA' H
  refine c_init G (hA'.le (by omega)) H ?_
  clear H
  intro lt tw pb s H
  refine ⟨rfl, ?_⟩
  have H := H.imp (a := l) (P' := IntsC [(0 : Int)]) (by none_booked) (fun o ho => ⟨_, .cons _ _ .nil, ho⟩)
  have H := H.sub (D' := (x, _) :: (dx, _) :: (pb, _) :: (sdx, _) :: (stream, _) :: (rd, _) :: (rc, _) :: (l, _) :: (L0 + 1, _) :: (L0 + 1 + 1, _) :: F :: (124, _) :: D) (by regstrif_gather)
  have H := ((((((((((H.pull 9 rfl).pull 9 rfl).pull 8 rfl).pull 8 rfl).pull 7 rfl).pull 8 rfl).pull 6 rfl).pull 8 rfl).pull 9 rfl).pull 9 rfl).pull 10 rfl
  refine h ⟨x, dx, stream, sdx, rd, rc, L0 + 1 + 1, L0 + 1, l, pb, fdl, fd, tp, tw⟩ lt [(x, InstC 101 dx), (stream, ObjC (fnObj fdl (some sdx))), (sdx, NsL [("read", .ref rd)]), (rd, ObjC (fnObj fd none)), (rc, CodeC "_law_lexer.<locals>._law_read_on"), (L0 + 1, CellC (some (.str (T page) tp))), (L0 + 1 + 1, CellC (some (.ref l)))] _ s ⟨?_, hlen, hlow, by tb_rel, by tb_rel, by tb_rel, by tb_rel, by tb_rel, by tb_rel, by tb_rel⟩ H
  subst hfd
  clear h H hA hA' hlen hlow
  intro A E s₀ s F D D' Q page tp tk at_ pos hA H h1 h2 h3 h4 U h5 h6 h
  refine' r_callMade G hA H (.tail _ h1) (.tail _ h2) ?rhps ?rhnd ?rhbind ?rhcell ?rhloc ?rhco ?rhgen ?rhk ?rh
  case rhps => simp only [List.map_cons, List.map_nil]; exact rfl
  case rhnd => decide
  case rhbind => exact rfl
  case rhcell => decide
  case rhloc => decide
  case rhco => exact rfl
  case rhgen => exact rfl
  case rhk => exact rfl
  clear H hA
  intro A L s hA H
  simp only [List.zip_cons_cons, List.zip_nil_left, List.zip_nil_right] at H
  have h3' : (L0 + 1, CellC (some (.str (T page) tp))) ∈ D := h3
  have h4' : (L0 + 1 + 1, CellC (some (.ref at_))) ∈ D := h4
  have hmat := U.mem
  have e1 : ([(pos : Int)] : List Int).getD 0 0 = pos := rfl
  repeat tb_start
  refine r_itemN 0 H (by tb_rel) rfl (by simp) (by simp) rfl fun t => ?_
  rw [e1]
  repeat tb_start
  refine r_itemN 0 H (by tb_rel) rfl (by simp) (by simp) rfl fun t => ?_
  rw [e1]
  repeat tb_start
  refine r_sliceT (y := (page.drop pos).take 1) (lo := some ((pos : Int), _)) (hi := some ((pos : Int) + 1, _)) H (by tb_rel) ?_ (by omega) rfl (fun _ => rfl) ?_
  · have := slice_T page pos (pos + 1)
    rw [show (((pos + 1 : Nat) : Int)) = (pos : Int) + 1 by omega] at this
    rw [List.drop_take, show pos + 1 - pos = 1 by omega] at this
    exact this
  have hl1 : ((page.drop pos).take 1).length ≤ 1 := by simp; omega
  generalize (page.drop pos).take 1 = sg at U h hl1
  clear H
  intro t s H
  repeat tb_start
  refine r_itemN 0 H (by tb_rel) rfl (by simp) (by simp) rfl fun t => ?_
  rw [e1]
  repeat tb_start
  refine r_setN 0 H (.there (.there (.there U))) rfl (by simp) (by simp) ?_
  clear H
  intro s H
  repeat tb_start
  exact h _ _ (by exact St.sub H (by regstrif_gather))
end
section
noncomputable def chAt (page : List Nat) (pos : Nat) : List Nat := (page.drop pos).take 1
section
variable {w : World} {A : Around} {E : Value → Shared → Prop} {s₀ s : Shared} {B : Heap} {D D' : Led} {F : Addr × Cell} {a : LA} {page : List Nat} {X : Led} {ln : Int} {lt : Tok} {pos : Nat} {vs : List Value}
theorem r_execsQ {c : Bool} {S1 S2 : List Stmt} {env : Env} {i : Decidable (c = true)} {Q : Flow → Shared → Prop} (h1 : c = true → wpAny (MM w) A (execs S1 env) Q E s) (h2 : c = false → wpAny (MM w) A (execs S2 env) Q E s) :
    wpAny (MM w) A (execs (@ite _ (c = true) i S1 S2) env) Q E s := by
  cases c with
  | true => exact r_execsT rfl (h1 rfl)
  | false => exact r_execsF rfl (h2 rfl)
set_option maxHeartbeats 4000000 in
theorem c_readchar {R : Result → Shared → Prop} (G : Base w B) (hA : Ok A 2) (LO : LexOk w B a page X) (H : St s₀ B (F :: a.var ln lt pos vs ++ X) s) (hpos : pos ≤ 5000)
    (h : ∀ t lt' s', St s₀ B (F :: a.var (ln + if chAt page pos = [10] then 1 else 0) lt' (pos + (chAt page pos).length) vs ++ X) s' → R (.ok (.ret (.str (T (chAt page pos)) t))) s') : codeAny (MM w) A (.call (.ref 84) ⟨[.ref a.x], []⟩) R s := by
  obtain ⟨hread, hlen, hlow, hx, hstream, hsdx, hrd, hrc, hcP, hcA⟩ := LO
  simp only [LA.var, lexNs, List.cons_append, List.nil_append] at H h
  kpc_turns
  repeat tb_start
  refine r_fnMethod H (by tb_rel) (by tb_rel) look_function_read rfl rfl ?_
  clear H
  intro s H
  refine' r_callF H ?hf3 ?he3 ?hp3 ?hh3
  case hf3 => tb_rel
  case he3 => exact rfl
  case hp3 => exact rfl
  repeat tb_start
  refine hread (pos := pos) (hA.le (by omega)) H (by tb_rel) (by tb_rel) (by tb_rel) (by tb_rel) (by none_booked) hlen hpos ?_
  clear H
  intro t s H
  repeat tb_start
  have e1 : (page.drop pos).take 1 = chAt page pos := rfl
  rw [e1] at H
  rw [e1]
  generalize chAt page pos = sg at H h
  have ec : (pos : Int) + (sg.length : Int) = ((pos + sg.length : Nat) : Int) := by omega
  rw [ec] at H
  apply r_execsQ
  · intro c
    have c' : sg = [10] := by simpa using c
    rw [if_pos c'] at h
    repeat tb_start
    exact h _ _ _ (by exact St.sub H (by regstrif_gather))
  · intro c
    have c' : ¬ sg = [10] := by simpa using c
    rw [if_neg c', Int.add_zero] at h
    repeat tb_start
    exact h _ _ _ (by exact St.sub H (by regstrif_gather))
end
end
section
section
variable {w : World} {A : Around} {E : Value → Shared → Prop} {s₀ s : Shared} {B : Heap} {D D' : Led} {F : Addr × Cell} {a : LA} {page : List Nat} {X X' : Led} {ln : Int} {lt : Tok} {pos : Nat} {vs : List Value}
theorem LexOk.mono (h : LexOk w B a page X) (hX : ∀ p ∈ X, p ∈ X') : LexOk w B a page X' :=
  ⟨h.read, h.len, h.low, hX _ h.hx, hX _ h.hstream, hX _ h.hsdx, hX _ h.hrd, hX _ h.hrc, hX _ h.hcP, hX _ h.hcA⟩
theorem perm_it {it : Addr} {P : Cell} {V : Led} : (F :: (V ++ (it, P) :: X)).Perm (F :: (it, P) :: (V ++ X)) := List.Perm.cons _ List.perm_middle
theorem chAt_nil (h : page.drop pos = []) : chAt page pos = [] := by rw [chAt, h]; rfl
theorem chAt_cons {c : Nat} {r : List Nat} (h : page.drop pos = c :: r) : chAt page pos = [c] := by rw [chAt, h]; rfl
theorem c_nextch {it q : Addr} {ts : Tok} {Q : Option Value → Shared → Prop} (G : Base w B) (hA : Ok A 4) (LO : LexOk w B a page X) (H : St s₀ B (F :: a.var ln lt pos vs ++ ((it, IterCall q (.str (T []) ts)) :: X)) s)
    (hq : (q, ObjC (methodObj (.ref 84) (.ref a.x))) ∈ X) (hpos : pos ≤ 5000)
    (h0 : page.drop pos = [] → ∀ lt' s', St s₀ B (F :: a.var ln lt' pos vs ++ ((it, IterOver) :: X)) s' → Q none s')
    (h1 : ∀ c r t lt' s', page.drop pos = c :: r → St s₀ B (F :: a.var (ln + if c = 10 then 1 else 0) lt' (pos + 1) vs ++ ((it, IterCall q (.str (T []) ts)) :: X)) s' → Q (some (.str (T [c]) t)) s') :
    wpAny (MM w) A (pyNext (.ref it)) Q E s := by
  refine r_nextCall (D := a.var ln lt pos vs ++ X) (n := 3) (f := 84) (x := a.x) (ts := ts) G hA rfl rfl (H.perm perm_it) (List.mem_append_right _ hq) ?_
  refine c_readchar (X := (it, IterCall q (.str (T []) ts)) :: X) G (hA.in1.le (by omega)) (LO.mono fun p hp => .tail _ hp) H hpos fun t lt' s' H' => ?_
  refine ⟨_, _, rfl, F, _, H'.perm perm_it, List.mem_append_right _ hq, fun e s'' H'' => ?_, fun e => ?_⟩
  · have hd : page.drop pos = [] := by
      cases hd : page.drop pos with
      | nil => rfl
      | cons c r => rw [chAt_cons hd] at e; cases e
    rw [e, if_neg (by simp), Int.add_zero] at H''
    exact h0 hd _ _ (H''.perm perm_it.symm)
  · cases hd : page.drop pos with
    | nil => exact absurd (chAt_nil hd) e
    | cons c r =>
      have ec := chAt_cons hd
      rw [ec] at H' ⊢
      have e2 : (if [c] = [10] then (1 : Int) else 0) = if c = 10 then 1 else 0 := by simp
      rw [e2] at H'
      exact h1 c r _ _ _ hd H'
noncomputable def rdQ : List Nat → List Nat → List Nat × List Nat
  | tok, [] => (tok, [])
  | tok, [c] => if c = 34 then (tok, []) else if c = 92 then (tok, []) else (tok ++ [c], [])
  | tok, c :: d :: r => if c = 34 then (tok, d :: r) else if c = 92 then rdQ (tok ++ [d]) r else rdQ (tok ++ [c]) (d :: r)
noncomputable def rdB : List Nat → List Nat → List Nat × List Nat
  | tok, [] => (tok, [])
  | tok, [c] => if c ∈ wsT then (tok, []) else if c = 92 then (tok, []) else (tok ++ [c], [])
  | tok, c :: d :: r => if c ∈ wsT then (tok, d :: r) else if c = 92 then rdB (tok ++ [d]) r else rdB (tok ++ [c]) (d :: r)
noncomputable def rdO : List Nat → List Nat × List Nat
  | [] => ([], [])
  | c :: r => if c ∈ wsT then rdO r else if c = 34 then rdQ [] r else if c = 92 then rdB (r.take 1) (r.drop 1) else rdB [c] r
theorem rdQ_cons (tok : List Nat) (c : Nat) (r : List Nat) : rdQ tok (c :: r) = if c = 34 then (tok, r) else if c = 92 then rdQ (tok ++ r.take 1) (r.drop 1) else rdQ (tok ++ [c]) r := by
  cases r with
  | nil => simp [rdQ]
  | cons d r => simp [rdQ]
theorem rdB_cons (tok : List Nat) (c : Nat) (r : List Nat) : rdB tok (c :: r) = if c ∈ wsT then (tok, r) else if c = 92 then rdB (tok ++ r.take 1) (r.drop 1) else rdB (tok ++ [c]) r := by
  cases r with
  | nil => simp [rdB]
  | cons d r => simp [rdB]
end
end
section
variable {w : World} {A : Around} {E : Value → Shared → Prop} {s₀ s : Shared} {B : Heap} {D D' : Led} {F : Addr × Cell} {a : LA} {page : List Nat} {X X' : Led} {ln : Int} {lt : Tok} {pos : Nat} {vs : List Value} {env : Env}
theorem r_continue {pos : Pos} {rest : List Stmt} {Q : Flow → Shared → Prop} (h : Q .cont s) : wpAny (MM w) A (execs (.Continue pos :: rest) env) Q E s := wpAny_execs_cons (wpAny_Continue h)
theorem r_thenCont {rest : List Stmt} {Q : Flow → Shared → Prop} (h : Q .cont s) : Then w A E rest env Q .cont s := h
theorem r_own {x : Str} {p : Pos} {it v : Value} {Q : Unit → Shared → Prop} (h : Q () s) : wpAny (MM w) A (letOwnedTupleGo (.Name x p) it v) Q E s := wpAny_of_eq (a := ()) rfl h
end
local macro_rules | `(tactic| keq_rows) => mAll [
  "p r_continue ?_||",
  "p r_thenCont ?_||",
  "p r_own ?_||",
  "q r_method G H ?hx ?hd ?hga ?hk ?hf ?ht ?hl ?h|hx:m hd:m hga:K hk:K hf:r ht:r hl:r|",
  "q r_truthL H ?hm ?hf ?h|hm:m hf:l|s"]
section
variable {w : World} {A : Around} {E : Value → Shared → Prop} {s₀ s : Shared} {B : Heap} {D D' : Led} {F : Addr × Cell} {a : LA} {page : List Nat} {X X' : Led} {ln : Int} {lt : Tok} {pos : Nat} {vs : List Value} {env : Env}
theorem drop_step {c : Nat} {r : List Nat} (h : page.drop pos = c :: r) : page.drop (pos + 1) = r ∧ pos + 1 ≤ page.length ∧ ((page.drop pos).count 10 : Int) = (if c = 10 then 1 else 0) + ((page.drop (pos + 1)).count 10 : Int) ∧ c ∈ page := by
  have h1 : page.drop (pos + 1) = r := by
    have e : page.drop (pos + 1) = (page.drop pos).drop 1 := by rw [List.drop_drop]
    rw [e, h]; rfl
  have h2 : (page.drop pos).length = r.length + 1 := by rw [h]; rfl
  rw [List.length_drop] at h2
  refine ⟨h1, by omega, ?_, List.mem_of_mem_drop (h ▸ List.mem_cons_self ..)⟩
  rw [h1, h, List.count_cons]
  by_cases e : c = 10
  · simp [e]; omega
  · simp [e]
theorem read_step (hp : pos ≤ page.length) : page.drop (pos + (chAt page pos).length) = (page.drop pos).drop 1 ∧ pos + (chAt page pos).length ≤ page.length ∧ ((page.drop pos).count 10 : Int) = (if chAt page pos = [10] then 1 else 0) + ((page.drop (pos + (chAt page pos).length)).count 10 : Int) ∧ (chAt page pos).length ≤ 1 := by
  cases hd : page.drop pos with
  | nil =>
    rw [chAt_nil hd]
    simp [hd, hp]
  | cons c r =>
    obtain ⟨h1, h2, h3, _⟩ := drop_step hd
    rw [chAt_cons hd]
    refine ⟨h1, h2, ?_, Nat.le_refl _⟩
    rw [← hd, h3]
    simp
set_option maxHeartbeats 8000000 in
theorem c_token {N : Int} {Q : Value → Shared → Prop} (G : Base w B) (hA : Ok A 6) (LO : LexOk w B a page X) (H : St s₀ B (F :: a.var ln lt pos [] ++ X) s) (hpos : pos ≤ page.length) (hN : ln + ((page.drop pos).count 10 : Int) = N)
    (h : ∀ t ln' lt' pos' s', pos' ≤ page.length → page.drop pos' = (rdO (page.drop pos)).2 → ln' + ((page.drop pos').count 10 : Int) = N → St s₀ B (F :: a.var ln' lt' pos' [] ++ X) s' → Q (.str (T (rdO (page.drop pos)).1) t) s') :
    wpAny (MM w) A (call (.ref 91) [.ref a.x]) Q E s := by
  have LO' := LO
  obtain ⟨hread, hlen, hlow, hx, hstream, hsdx, hrd, hrc, hcP, hcA⟩ := LO'
  simp only [LA.var, lexNs, List.cons_append, List.nil_append] at H
  kpt_turns
  repeat tb_start
  kfm_turns
  repeat tb_start
  refine' r_bound (f := 84) G H ?bx ?bd ?bg ?bh ?ba ?bf ?bgf ?bt ?bc ?bl ?bk
  case bx => tb_rel
  case bd => tb_rel
  case bg => exact rfl
  case bh => exact rfl
  case ba => exact rfl
  case bf => exact rfl
  case bgf => exact rfl
  case bt => exact rfl
  case bc => exact rfl
  case bl => exact rfl
  clear H
  intro q s H
  repeat tb_start
  refine r_iter2 (q := q) (f := 84) (x := a.x) H (by tb_rel) ?_
  clear H
  intro it s H
  repeat tb_start
  refine r_iterSelf (P := IterCall q _) (fun o h => h.1) H (by tb_rel) ?_
  obtain ⟨ts, t0, H⟩ : ∃ ts t0, St s₀ B ((L, LocC [("self", .ref a.x), ("token", .str (T []) t0), ("fiter", .ref it)]) :: a.var ln lt pos [] ++ ((it, IterCall q (.str (T []) ts)) :: (q, ObjC (methodObj (.ref 84) (.ref a.x))) :: F :: X)) s :=
    ⟨_, _, (((H.pull 6 rfl).pull 6 rfl).pull 6 rfl).pull 3 rfl⟩
  obtain ⟨Res, hRes⟩ : ∃ R, rdO (page.drop pos) = R := ⟨_, rfl⟩
  rw [hRes] at h
  let loT (tok : List Nat) (t : Tok) : List (Str × Value) := [("self", .ref a.x), ("token", .str (T tok) t), ("fiter", .ref it)]
  let Xq : Led := (q, ObjC (methodObj (.ref 84) (.ref a.x))) :: F :: X
  let Run (ln : Int) (lt : Tok) (pos : Nat) (lo : List (Str × Value)) (s : Shared) : Prop := St s₀ B ((L, LocC lo) :: a.var ln lt pos [] ++ ((it, IterCall q (.str (T []) ts)) :: Xq)) s
  let Over (ln : Int) (lt : Tok) (pos : Nat) (lo : List (Str × Value)) (s : Shared) : Prop := St s₀ B ((L, LocC lo) :: a.var ln lt pos [] ++ ((it, IterOver) :: Xq)) s
  have LOq : LexOk w B a page Xq := LO.mono fun p hp => .tail _ (.tail _ hp)
  have hqX : (q, ObjC (methodObj (.ref 84) (.ref a.x))) ∈ Xq := .head _
  have fin : ∀ (t : Tok) (ln : Int) (lt : Tok) (pos : Nat) (lo : List (Str × Value)) (P : Cell) (s : Shared), pos ≤ page.length → page.drop pos = Res.2 → ln + ((page.drop pos).count 10 : Int) = N → St s₀ B ((L, LocC lo) :: a.var ln lt pos [] ++ ((it, P) :: Xq)) s → Q (.str (T Res.1) t) s := fun t ln lt pos lo P s h1 h2 h3 H => by
    refine h t ln lt pos s h1 h2 h3 ?_
    exact (((H.pull 6 rfl).sub (D' := F :: a.var ln lt pos [] ++ X) (by
      show List.Sublist (F :: (a.dx, _) :: (a.at_, _) :: (a.pb, _) :: X) (F :: (L, LocC lo) :: (a.dx, _) :: (a.at_, _) :: (a.pb, _) :: (it, P) :: (q, _) :: X)
      regstrif_gather)))
  have H0 : Run ln lt pos (loT [] t0) s := H
  clear H
  refine codeAny_forLoopO (fun n s' => ∃ pos ln lt t, pos ≤ page.length ∧ ln + ((page.drop pos).count 10 : Int) = N ∧ ((n = 2 * (page.length - pos) + 1 ∧ rdO (page.drop pos) = Res ∧ Run ln lt pos (loT [] t) s') ∨ (n = 0 ∧ page.drop pos = Res.2 ∧ Over ln lt pos (loT Res.1 t) s'))) ?_ _ ⟨pos, ln, lt, t0, hpos, hN, .inl ⟨rfl, hRes, H0⟩⟩
  clear H0 hRes hpos hN
  rintro n s ⟨pos, ln, lt, t1, hp, hc, ⟨rfl, hr, H⟩ | ⟨rfl, hr, H⟩⟩ E'
  · refine c_nextch G (hA.le (by omega)) LOq H hqX (by omega) ?_ ?_
    · clear H
      intro hd lt' s H
      rw [hd] at hr
      show Then w A _ _ _ _ .next s
      have H1 := H
      simp only [loT, Xq, LA.var, lexNs, List.cons_append, List.nil_append] at H
      repeat tb_start
      subst hr
      exact fin _ _ _ _ _ _ _ hp hd hc H1
    · clear H
      intro c r t lt' s hd H
      show wpAny _ _ (letOwnedTupleGo _ _ _) _ _ _
      obtain ⟨h1, h2, h3, h4⟩ := drop_step hd
      rw [hd, rdO] at hr
      simp only [loT, Xq, LA.var, lexNs, List.cons_append, List.nil_append] at H
      repeat tb_start
      apply r_execsQ
      · intro cw
        have cw' : c ∈ wsT := by simpa [wsT] using cw
        rw [if_pos cw'] at hr
        repeat tb_start
        exact ⟨2 * (page.length - (pos + 1)) + 1, by omega, pos + 1, _, lt', t1, h2, by omega, .inl ⟨rfl, by rw [h1]; exact hr, loc_mono H (by regstrif_slice)⟩⟩
      · intro cw
        have cw' : c ∉ wsT := by simpa [wsT] using cw
        rw [if_neg cw'] at hr
        repeat tb_start
        apply r_execsQ
        · intro cq
          have cq' : c = 34 := by simpa using cq
          rw [if_pos cq'] at hr
          repeat tb_start
          refine r_iterSelf (P := IterCall q _) (fun o h => h.1) H (by tb_rel) ?_
          refine codeAny_forLoopO (fun n s' => ∃ tok pos' ln lt t, pos' ≤ page.length ∧ pos < pos' ∧ tok.length ≤ pos' ∧ ln + ((page.drop pos').count 10 : Int) = N ∧ n = page.length - pos' ∧ rdQ tok (page.drop pos') = Res ∧ Run ln lt pos' (loT tok t) s') ?_ _
            ⟨[], pos + 1, _, lt', t1, h2, by omega, by simp, by omega, rfl, by rw [h1]; exact hr, loc_mono H (by regstrif_slice)⟩
          clear H
          have hpp : pos < page.length := by omega
          clear hr hc hp h1 h2 h3 h4 hd
          rintro n s ⟨tok, pos, ln, lt, t1, hp, hpos, hl, hc, rfl, hr, H⟩ E2
          refine c_nextch G (hA.le (by omega)) LOq H hqX (by omega) ?_ ?_
          · clear H
            intro hd lt' s H
            rw [hd, rdQ] at hr
            show Then w A _ _ _ _ .next s
            simp only [loT, Xq, LA.var, lexNs, List.cons_append, List.nil_append] at H
            repeat tb_start
            subst hr
            exact ⟨0, by omega, pos, ln, lt', t1, hp, hc, .inr ⟨rfl, hd, H⟩⟩
          · clear H
            intro c r t lt' s hd H
            show wpAny _ _ (letOwnedTupleGo _ _ _) _ _ _
            obtain ⟨h1, h2, h3, h4⟩ := drop_step hd
            rw [hd, rdQ_cons] at hr
            have H1 := H
            simp only [loT, Xq, LA.var, lexNs, List.cons_append, List.nil_append] at H
            repeat tb_start
            apply r_execsQ
            · intro c1
              have c1' : c = 34 := by simpa using c1
              rw [if_pos c1'] at hr
              repeat tb_start
              subst hr
              exact fin _ _ _ _ _ _ _ h2 (by rw [h1]) (by omega) H
            · intro c1
              have c1' : ¬ c = 34 := by simpa using c1
              rw [if_neg c1'] at hr
              repeat tb_start
              apply r_execsQ
              · intro c2
                have c2' : c = 92 := by simpa using c2
                rw [if_pos c2'] at hr
                repeat tb_start
                obtain ⟨e1, e2, e3, e4⟩ := read_step (pos := pos + 1) h2
                refine wpAny_call (c_readchar (X := (it, IterCall q (.str (T []) ts)) :: Xq) (pos := pos + 1) G (hA.le (by omega)) (LOq.mono fun p hp => .tail _ hp) H (by omega) ?_)
                clear H H1
                intro t lt' s H
                show wpAny _ _ (storeName _ _ _) _ _ _
                have ech : chAt page (pos + 1) = r.take 1 := by unfold chAt; rw [h1]
                rw [h1] at e1
                simp only [loT, Xq, LA.var, lexNs, List.cons_append, List.nil_append] at H
                repeat tb_start
                refine ⟨page.length - (pos + 1 + (chAt page (pos + 1)).length), by omega, tok ++ chAt page (pos + 1), _, _, lt', _, e2, by omega, by rw [List.length_append]; omega, ?_, rfl, by rw [e1, ech]; exact hr, loc_mono H (by regstrif_slice)⟩
                omega
              · intro c2
                have c2' : ¬ c = 92 := by simpa using c2
                rw [if_neg c2'] at hr
                repeat tb_start
                exact ⟨page.length - (pos + 1), by omega, tok ++ [c], pos + 1, _, lt', _, h2, by omega, by simp; omega, by omega, rfl, by rw [h1]; exact hr, loc_mono H (by regstrif_slice)⟩
        · intro cq
          have cq' : ¬ c = 34 := by simpa using cq
          rw [if_neg cq'] at hr
          repeat tb_start
          refine r_mid (fun f s' => f = .next ∧ ∃ (tok : List Nat) (pos' : Nat) (ln : Int) (lt t t2 : Tok), pos' ≤ page.length ∧ pos < pos' ∧ tok.length ≤ 1 ∧ ln + ((page.drop pos').count 10 : Int) = N ∧ rdB tok (page.drop pos') = Res ∧
            Run ln lt pos' [("self", .ref a.x), ("token", .str (T []) t), ("fiter", .ref it), ("ch", .str (T tok) t2)] s') ?_ ?_
          · apply r_execsQ
            · intro c2
              have c2' : c = 92 := by simpa using c2
              rw [if_pos c2'] at hr
              repeat tb_start
              obtain ⟨e1, e2, e3, e4⟩ := read_step (pos := pos + 1) h2
              refine wpAny_call (c_readchar (X := (it, IterCall q (.str (T []) ts)) :: Xq) (pos := pos + 1) G (hA.le (by omega)) (LOq.mono fun p hp => .tail _ hp) H (by omega) ?_)
              clear H
              intro t lt' s H
              show wpAny _ _ (storeName _ _ _) _ _ _
              have ech : chAt page (pos + 1) = r.take 1 := by unfold chAt; rw [h1]
              rw [h1] at e1
              simp only [Xq, LA.var, lexNs, List.cons_append, List.nil_append] at H
              repeat tb_start
              exact ⟨rfl, chAt page (pos + 1), _, _, lt', _, _, e2, by omega, e4, by omega, by rw [e1, ech]; exact hr, loc_mono H (by regstrif_slice)⟩
            · intro c2
              have c2' : ¬ c = 92 := by simpa using c2
              rw [if_neg c2'] at hr
              repeat tb_start
              exact ⟨rfl, [c], pos + 1, _, lt', _, _, h2, by omega, by simp, by omega, by rw [h1]; exact hr, loc_mono H (by regstrif_slice)⟩
          · clear H
            have hpp : pos < page.length := by omega
            clear hr hc hp h1 h2 h3 h4 hd
            rintro _ s ⟨rfl, tok0, pos1, ln, lt, t3, t4, hp, hpos, hl, hc, hr, H⟩
            simp only [Run, Xq, LA.var, lexNs, List.cons_append, List.nil_append] at H
            repeat tb_start
            refine r_iterSelf (P := IterCall q _) (fun o h => h.1) H (by tb_rel) ?_
            refine codeAny_forLoopO (fun n s' => ∃ tok pos' ln lt t, pos' ≤ page.length ∧ pos < pos' ∧ tok.length ≤ pos' ∧ ln + ((page.drop pos').count 10 : Int) = N ∧ n = page.length - pos' ∧ rdB tok (page.drop pos') = Res ∧ Run ln lt pos' (loT tok t) s') ?_ _
              ⟨[] ++ tok0, pos1, _, lt, _, hp, hpos, by simp; omega, hc, rfl, hr, loc_mono H (by regstrif_slice)⟩
            clear H hr hc hp hl hpos
            rintro n s ⟨tok, pos, ln, lt, t1, hp, hpos, hl, hc, rfl, hr, H⟩ E2
            refine c_nextch G (hA.le (by omega)) LOq H hqX (by omega) ?_ ?_
            · clear H
              intro hd lt' s H
              rw [hd, rdB] at hr
              show Then w A _ _ _ _ .next s
              simp only [loT, Xq, LA.var, lexNs, List.cons_append, List.nil_append] at H
              repeat tb_start
              subst hr
              exact ⟨0, by omega, pos, ln, lt', t1, hp, hc, .inr ⟨rfl, hd, H⟩⟩
            · clear H
              intro c r t lt' s hd H
              show wpAny _ _ (letOwnedTupleGo _ _ _) _ _ _
              obtain ⟨h1, h2, h3, h4⟩ := drop_step hd
              rw [hd, rdB_cons] at hr
              simp only [loT, Xq, LA.var, lexNs, List.cons_append, List.nil_append] at H
              repeat tb_start
              apply r_execsQ
              · intro c1
                have c1' : c ∈ wsT := by simpa [wsT] using c1
                rw [if_pos c1'] at hr
                repeat tb_start
                subst hr
                exact fin _ _ _ _ _ _ _ h2 (by rw [h1]) (by omega) H
              · intro c1
                have c1' : c ∉ wsT := by simpa [wsT] using c1
                rw [if_neg c1'] at hr
                repeat tb_start
                apply r_execsQ
                · intro c2
                  have c2' : c = 92 := by simpa using c2
                  rw [if_pos c2'] at hr
                  repeat tb_start
                  obtain ⟨e1, e2, e3, e4⟩ := read_step (pos := pos + 1) h2
                  refine wpAny_call (c_readchar (X := (it, IterCall q (.str (T []) ts)) :: Xq) (pos := pos + 1) G (hA.le (by omega)) (LOq.mono fun p hp => .tail _ hp) H (by omega) ?_)
                  clear H
                  intro t lt' s H
                  show wpAny _ _ (storeName _ _ _) _ _ _
                  have ech : chAt page (pos + 1) = r.take 1 := by unfold chAt; rw [h1]
                  rw [h1] at e1
                  simp only [Xq, LA.var, lexNs, List.cons_append, List.nil_append] at H
                  repeat tb_start
                  refine ⟨page.length - (pos + 1 + (chAt page (pos + 1)).length), by omega, tok ++ chAt page (pos + 1), _, _, lt', _, e2, by omega, by rw [List.length_append]; omega, ?_, rfl, by rw [e1, ech]; exact hr, loc_mono H (by regstrif_slice)⟩
                  omega
                · intro c2
                  have c2' : ¬ c = 92 := by simpa using c2
                  rw [if_neg c2'] at hr
                  repeat tb_start
                  exact ⟨page.length - (pos + 1), by omega, tok ++ [c], pos + 1, _, lt', _, h2, by omega, by simp; omega, by omega, rfl, by rw [h1]; exact hr, loc_mono H (by regstrif_slice)⟩
  · refine r_nextOver (D := a.var ln lt pos [] ++ Xq) hA.hh (H.perm perm_it) fun s H => ?_
    have H1 := H.perm perm_it.symm
    show Then w A _ _ _ _ .next s
    clear H
    have H := H1
    simp only [loT, Xq, LA.var, lexNs, List.cons_append, List.nil_append] at H
    repeat tb_start
    exact fin _ _ _ _ _ _ _ hp hr hc H1
end
section
section
variable {w : World} {A : Around} {E : Value → Shared → Prop} {s₀ s : Shared} {B : Heap} {D D' : Led} {F : Addr × Cell} {a : LA} {page : List Nat} {X X' : Led} {ln : Int} {lt : Tok} {pos : Nat} {vs : List Value} {env : Env}
set_option maxHeartbeats 4000000 in
theorem c_pop {v : Value} {Q : Value → Shared → Prop} (G : Base w B) (hA : Ok A 2) (LO : LexOk w B a page X) (hz : vs.length ≤ 1000) (H : St s₀ B (F :: a.var ln lt pos (v :: vs) ++ X) s)
    (h : ∀ s', St s₀ B (F :: a.var ln lt pos vs ++ X) s' → Q v s') : wpAny (MM w) A (call (.ref 91) [.ref a.x]) Q E s := by
  obtain ⟨hread, hlen, hlow, hx, hstream, hsdx, hrd, hrc, hcP, hcA⟩ := LO
  simp only [LA.var, lexNs, List.cons_append, List.nil_append] at H h
  kpt_turns
  repeat tb_start
  kfm_turns
  repeat tb_start
  refine r_listMethod H (by tb_rel) PySem.F.slot_list_pop PySem.F.type_list_pop ?_
  repeat tb_start
  refine' r_pop0 H ?pu ?pz ?ph
  case pu => none_booked
  case pz => (rw [sizeLine_eq]; simp; omega)
  clear H
  intro s H
  exact h _ (by exact St.sub H (by regstrif_gather))
set_option maxHeartbeats 4000000 in
theorem c_push {v : Value} {Q : Value → Shared → Prop} (G : Base w B) (hA : Ok A 2) (LO : LexOk w B a page X) (hz : vs.length ≤ 1000) (H : St s₀ B (F :: a.var ln lt pos vs ++ X) s)
    (h : ∀ s', St s₀ B (F :: a.var ln lt pos (vs ++ [v]) ++ X) s' → Q .none s') : wpAny (MM w) A (call (.ref 98) [.ref a.x, v]) Q E s := by
  obtain ⟨hread, hlen, hlow, hx, hstream, hsdx, hrd, hrc, hcP, hcA⟩ := LO
  simp only [LA.var, lexNs, List.cons_append, List.nil_append] at H h
  kpt_turns
  repeat tb_start
  exact h _ (by exact St.sub H (by regstrif_gather))
end
end
section
noncomputable abbrev LC2 (elt t0 i0 t1 i1 : PySem.Expr) (scope : Scope) (pos : Pos) : PySem.Expr := .ListComp elt [⟨t0, i0, [], 0⟩, ⟨t1, i1, [], 0⟩] scope pos
theorem compTurn_outer (elt t0 i0 t1 i1 : PySem.Expr) (scope : Scope) (pos : Pos) (it acc : Value) (env : Env) :
    compTurn (LC2 elt t0 i0 t1 i1 scope pos) 0 it acc env = (standAt i0.pos >>= fun _ => pyNext it >>= fun r => match r with
      | none => pure (.done .next)
      | some v => letOwnedTupleGo t0 it v >>= fun _ => assign t0 env v >>= fun _ => eval i1 env >>= fun x => standAt i1.pos >>= fun _ => foldedSetIterable i1 env x >>= fun x =>
        holding [x] (pyIter x) >>= fun it' => runOwn (.compStart (LC2 elt t0 i0 t1 i1 scope pos) 1 it' acc env) env >>= fun _ => again (.compLoop (LC2 elt t0 i0 t1 i1 scope pos) 0 it acc env)) := by rfl
theorem compTurn_inner (elt t0 i0 t1 i1 : PySem.Expr) (scope : Scope) (pos : Pos) (it acc : Value) (env : Env) :
    compTurn (LC2 elt t0 i0 t1 i1 scope pos) 1 it acc env = (standAt i1.pos >>= fun _ => pyNext it >>= fun r => match r with
      | none => pure (.done .next)
      | some v => letOwnedTupleGo t1 it v >>= fun _ => assign t1 env v >>= fun _ => (eval elt env >>= fun x => call (.builtin "list.append") [acc, x] >>= fun _ => pure ()) >>= fun _ =>
        again (.compLoop (LC2 elt t0 i0 t1 i1 scope pos) 1 it acc env)) := by rfl
section
variable {w : World} {A : Around} {E : Value → Shared → Prop} {s₀ s : Shared} {B : Heap} {D D' : Led} {F : Addr × Cell} {a l : Addr} {env : Env} {elt t0 i0 t1 i1 : PySem.Expr} {scope : Scope} {pos : Pos}
theorem codeAny_compInnerO {R : Result → Shared → Prop} {it acc : Value} (I : Nat → Shared → Prop)
    (turn : ∀ n s, I n s → ∀ E', wpAny (MM w) A (pyNext it) (fun r s₁ => match r with
      | none => R (.ok .next) s₁
      | some v => wpAny (MM w) A (letOwnedTupleGo t1 it v) (fun _ s₁ => wpAny (MM w) A (assign t1 env v) (fun _ s₂ =>
          wpAny (MM w) A (eval elt env) (fun x s₄ => wpAny (MM w) A (call (.builtin "list.append") [acc, x]) (fun _ s₅ => ∃ m, m < n ∧ I m s₅) E' s₄) E' s₂) E' s₁) E' s₁) E' s)
    (n : Nat) (h : I n s) : codeAny (MM w) A (.compLoop (LC2 elt t0 i0 t1 i1 scope pos) 1 it acc env) R s := by
  refine codeAny_loop rfl I (fun n s hI => ?_) n h
  show wpAny _ A ((compTurn (LC2 elt t0 i0 t1 i1 scope pos) 1 it acc env).onRaise (fun x => do noteFrame x env; theTreesLotGoes x)) _ _ s
  refine wpAny_noted ?_
  rw [compTurn_inner]
  refine wpAny_bind (wpAny_standAt (wpAny_bind (wpAny_mono (turn n s hI _) (fun r s₁ h₁ => ?_) fun _ _ h' => h')))
  cases r with
  | none => exact wpAny_pure h₁
  | some v =>
    refine wpAny_bind (wpAny_mono h₁ (fun _ s₁ h₁ => ?_) fun _ _ z => z)
    refine wpAny_bind (wpAny_mono h₁ (fun _ s₂ h₂ => ?_) fun _ _ h' => h')
    exact wpAny_bind (wpAny_bind (wpAny_mono h₂ (fun x s₄ h₄ => wpAny_bind (wpAny_mono h₄ (fun _ s₅ h₅ => wpAny_pure (wpAny_pure ⟨rfl, h₅⟩)) fun _ _ h' => h')) fun _ _ h' => h'))
theorem codeAny_compOuterO {R : Result → Shared → Prop} {it acc : Value} (hs : ∀ x, foldedSetIterable i1 env x = pure x) (I : Nat → Shared → Prop)
    (turn : ∀ n s, I n s → ∀ E', wpAny (MM w) A (pyNext it) (fun r s₁ => match r with
      | none => R (.ok .next) s₁
      | some v => wpAny (MM w) A (letOwnedTupleGo t0 it v) (fun _ s₁ => wpAny (MM w) A (assign t0 env v) (fun _ s₂ =>
          wpAny (MM w) A (eval i1 env) (fun x s₃ => wpAny (MM w) A (pyIter x) (fun it' s₄ =>
            codeAny (MM w) A (.compStart (LC2 elt t0 i0 t1 i1 scope pos) 1 it' acc env) (fun r s₅ => r = .ok .next ∧ ∃ m, m < n ∧ I m s₅) s₄) E' s₃) E' s₂) E' s₁) E' s₁) E' s)
    (n : Nat) (h : I n s) : codeAny (MM w) A (.compLoop (LC2 elt t0 i0 t1 i1 scope pos) 0 it acc env) R s := by
  refine codeAny_loop rfl I (fun n s hI => ?_) n h
  show wpAny _ A ((compTurn (LC2 elt t0 i0 t1 i1 scope pos) 0 it acc env).onRaise (fun x => do noteFrame x env; theTreesLotGoes x)) _ _ s
  refine wpAny_noted ?_
  rw [compTurn_outer]
  refine wpAny_bind (wpAny_standAt (wpAny_bind (wpAny_mono (turn n s hI _) (fun r s₁ h₁ => ?_) fun _ _ h' => h')))
  cases r with
  | none => exact wpAny_pure h₁
  | some v =>
    refine wpAny_bind (wpAny_mono h₁ (fun _ s₁ h₁ => ?_) fun _ _ z => z)
    refine wpAny_bind (wpAny_mono h₁ (fun _ s₂ h₂ => ?_) fun _ _ h' => h')
    refine wpAny_bind (wpAny_mono h₂ (fun x s₃ h₃ => ?_) fun _ _ h' => h')
    refine wpAny_bind (wpAny_standAt (wpAny_bind (wpAny_of_eq (hs x) (wpAny_bind (wpAny_holding (wpAny_mono h₃ (fun it' s₄ h₄ => ?_) fun _ _ h' => h'))))))
    refine wpAny_bind (wpAny_runOwn (codeAny_mono h₄ fun r s₅ z => ?_))
    obtain ⟨rfl, z⟩ := z
    exact wpAny_pure ⟨rfl, z⟩
theorem codeAny_compStart1 {R : Result → Shared → Prop} {it acc : Value}
    (h0 : codeAny (MM w) A (.compLoop (LC2 elt t0 i0 t1 i1 scope pos) 1 it acc env) R s)
    (h : ∀ E', wpAny (MM w) A (pyIter it) (fun it' s' => codeAny (MM w) A (.compLoop (LC2 elt t0 i0 t1 i1 scope pos) 1 it' acc env) R s') E' s) :
    codeAny (MM w) A (.compStart (LC2 elt t0 i0 t1 i1 scope pos) 1 it acc env) R s := by
  refine codeAny_of_tree ?_
  show wpAny _ A ((compStart (LC2 elt t0 i0 t1 i1 scope pos) 1 it acc env).onRaise (fun x => do noteFrame x env; standAt theWindowsPlace)) _ _ s
  refine wpAny_notedAt ?_
  unfold compStart
  show wpAny _ _ (ask >>= _) _ _ s
  refine wpAny_bind (wpAny_askSetting (wpAny_ite ?_))
  split
  · first
      | exact wpAny_bind (wpAny_pure (wpAny_pure (And.intro rfl h0)))
      | exact wpAny_pure (And.intro rfl h0)
  · refine wpAny_bind (wpAny_rule ?_)
    show wpAny _ _ (standAt i1.pos >>= _) _ _ s
    exact wpAny_bind (wpAny_standAt (wpAny_bind (wpAny_mono (h _) (fun it' s' h' => wpAny_pure (And.intro rfl h')) fun _ _ x => x)))
theorem r_compInner {C it acc : Addr} {n : Nat} {IC : Nat → Cell} {V : Nat → Value → Prop} {need : Led → Prop} {R : Result → Shared → Prop} {l : List (Str × Value)} {vs : List Value} (W : Walker w it n IC V need) (hh : A.handled = none)
    (J : Nat → List Value → List (Str × Value) → Led → Prop) (hneed : ∀ i vs l D, J i vs l D → need ((acc, ListC vs) :: F :: D)) (hlen : ∀ i vs l D, J i vs l D → vs.length ≤ 2 ^ 20)
    (H : St s₀ B ((C, LocC l) :: (it, IC 0) :: (acc, ListC vs) :: F :: D) s) (hJ : J 0 vs l D)
    (turn : ∀ i v vs l D s' E', i < n → V i v → J i vs l D → St s₀ B ((C, LocC l) :: (it, IC (i + 1)) :: (acc, ListC vs) :: F :: D) s' →
      wpAny (MM w) A (assign t1 env v) (fun _ s₂ => wpAny (MM w) A (eval elt env) (fun x s₄ => CompEnd s₀ B C it acc F (IC (i + 1)) vs (J (i + 1) (vs ++ [x])) s₄) E' s₂) E' s')
    (done : ∀ vs l D s', J n vs l D → St s₀ B ((C, LocC l) :: (acc, ListC vs) :: F :: D) s' → R (.ok .next) s') :
    codeAny (MM w) A (.compStart (LC2 elt t0 i0 t1 i1 scope pos) 1 (.ref it) (.ref acc) env) R s := by
  have loop : ∀ s', St s₀ B ((C, LocC l) :: (it, IC 0) :: (acc, ListC vs) :: F :: D) s' → codeAny (MM w) A (.compLoop (LC2 elt t0 i0 t1 i1 scope pos) 1 (.ref it) (.ref acc) env) R s' := fun s' H => by
    refine codeAny_compInnerO (fun k s' => ∃ i vs l D, k = n - i ∧ i ≤ n ∧ J i vs l D ∧ St s₀ B ((C, LocC l) :: (it, IC i) :: (acc, ListC vs) :: F :: D) s') ?_ n ⟨0, vs, l, D, rfl, Nat.zero_le _, hJ, H⟩
    clear H
    rintro k s' ⟨i, vs, l, D, rfl, hi, hJ, H⟩ E'
    by_cases hlt : i < n
    · refine W.next i hlt H (hneed _ _ _ _ hJ) fun v s₁ hv H₁ => ?_
      refine W.own (i + 1) t1 v H₁ ?_
      refine wpAny_mono (turn i v vs l D s₁ E' hlt hv hJ H₁) (fun _ s₂ h₂ => wpAny_mono h₂ (fun x s₄ h₄ => ?_) fun _ _ z => z) fun _ _ z => z
      obtain ⟨l', D', H', hJ'⟩ := h₄
      have hl := hlen _ _ _ _ hJ'
      refine r_append (D' := (C, LocC l') :: (it, IC (i + 1)) :: (acc, ListC (vs ++ [x])) :: F :: D') H' (.there (.there .here)) (by rw [List.length_append, List.length_singleton] at hl; rw [sizeLine_eq]; omega) fun s₅ H₅ => ?_
      exact ⟨n - (i + 1), by omega, i + 1, _, l', D', rfl, hlt, hJ', H₅⟩
    · have : i = n := by omega
      subst this
      exact W.stop hh H (hneed _ _ _ _ hJ) fun s₁ H₁ => done vs l D s₁ hJ H₁
  exact codeAny_compStart1 (loop s H) fun E' => W.self 0 H (hneed _ _ _ _ hJ) (loop s H)
theorem r_compGo2 {it : Addr} {n : Nat} {IC : Nat → Cell} {V : Nat → Value → Prop} {need : Led → Prop} {cl : List (Str × Addr)} {use : Option (Value → Sem Unit)} {Q : Value → Shared → Prop}
    (W : Walker w it n IC V need) (hh : A.handled = none) (hcell : (scope.names.all fun x => x.2 != .cell) = true) (hkind : scope.kind = .function) (hs : ∀ C x, foldedSetIterable i1 (compEnvC scope cl C env) x = pure x)
    (J : Nat → List Value → List (Str × Value) → Led → Prop) (hneed : ∀ acc i vs l D, J i vs l D → need ((acc, ListC vs) :: F :: D))
    (H : St s₀ B (F :: (it, IC 0) :: D) s) (hJ : J 0 [] [] D)
    (turn : ∀ C acc i v vs l D s' E', i < n → V i v → J i vs l D → St s₀ B ((C, LocC l) :: (it, IC (i + 1)) :: (acc, ListC vs) :: F :: D) s' →
      wpAny (MM w) A (assign t0 (compEnvC scope cl C env) v) (fun _ s₂ => wpAny (MM w) A (eval i1 (compEnvC scope cl C env)) (fun x s₃ => wpAny (MM w) A (pyIter x) (fun it' s₄ =>
        codeAny (MM w) A (.compStart (LC2 elt t0 i0 t1 i1 scope pos) 1 it' (.ref acc) (compEnvC scope cl C env)) (fun r s₅ => r = .ok .next ∧ ∃ vs2, CompEnd s₀ B C it acc F (IC (i + 1)) vs2 (J (i + 1) vs2) s₅) s₄) E' s₃) E' s₂) E' s')
    (done : ∀ C acc vs l D s', J n vs l D → St s₀ B (F :: (C, LocC l) :: (acc, ListC vs) :: D) s' → match (motive := Option (Value → Sem Unit) → Prop) use with
      | none => Dropped C (Q (.ref acc)) s'
      | some u => wpAny (MM w) A (u (.ref acc)) (fun _ s'' => Dropped C (Q .none) s'') E s') :
    CompGo w A E (LC2 elt t0 i0 t1 i1 scope pos) scope env cl use Q (.ref it) s := by
  have hc : ∀ y ∈ scope.names, y.2 ≠ .cell := fun y hy e => by
    have := List.all_eq_true.mp hcell y hy
    rw [e] at this
    simp at this
  have H0 := H.push (P := ListC []) (o := { cls := .type "list", dict := none, data := .seq ([] : List Value).toArray 0 }) ⟨0, rfl⟩
  refine wpAny_newObj_type (wpAny_newFunctionEnv hc (by intro y hy; simp at hy) (fun h₁ hns₁ hsb₁ => ?_) hkind)
  dsimp only at hns₁ hsb₁ ⊢
  obtain ⟨oL, hoL, hN⟩ := ns_iff.mp hns₁
  have H1 := H0.alloc (P := LocC []) (h' := h₁) rfl (fun b o e => hsb₁.extBut b o (Nat.ne_of_lt (Heap.lt_size e)) (Heap.get?_push_of_some _ e)) hoL ⟨_, hN, fun _ q => nomatch q⟩
  have H2 := H1.toks (s.toks + ([] : List (Str × Value)).length)
  have H3 : St s₀ B ((_, LocC []) :: (it, IC 0) :: (s.heap.objs.size, ListC []) :: F :: D) _ := H2.perm (List.Perm.cons _ (List.perm_middle (l₁ := [(_, _), _])))
  have loop : ∀ (C : Addr) (s₃ : Shared), St s₀ B ((C, LocC []) :: (it, IC 0) :: (s.heap.objs.size, ListC []) :: F :: D) s₃ →
      codeAny (MM w) A (.compLoop (LC2 elt t0 i0 t1 i1 scope pos) 0 (.ref it) (.ref s.heap.objs.size) (compEnvC scope cl C env)) (compPost (MM w) A E use Q (.ref s.heap.objs.size) C) s₃ := fun C s₃ H₃ => by
    refine codeAny_compOuterO (hs C) (fun k s' => ∃ i vs l D, k = n - i ∧ i ≤ n ∧ J i vs l D ∧ St s₀ B ((C, LocC l) :: (it, IC i) :: (s.heap.objs.size, ListC vs) :: F :: D) s') ?_ n ⟨0, [], [], D, rfl, Nat.zero_le _, hJ, H₃⟩
    clear H₃
    rintro k s' ⟨i, vs, l, D, rfl, hi, hJ, H⟩ E'
    by_cases hlt : i < n
    · refine W.next i hlt H (hneed _ _ _ _ _ hJ) fun v s₁ hv H₁ => ?_
      refine W.own (i + 1) t0 v H₁ ?_
      refine wpAny_mono (turn C _ i v vs l D s₁ E' hlt hv hJ H₁) (fun _ s₂ h₂ => wpAny_mono h₂ (fun x s₃ h₃ => wpAny_mono h₃ (fun it' s₄ h₄ => codeAny_mono h₄ fun r s₅ z => ?_) fun _ _ z => z) fun _ _ z => z) fun _ _ z => z
      obtain ⟨rfl, vs2, l', D', H', hJ'⟩ := z
      exact ⟨rfl, n - (i + 1), by omega, i + 1, _, l', D', rfl, hlt, hJ', H'⟩
    · have : i = n := by omega
      subst this
      refine W.stop hh H (hneed _ _ _ _ _ hJ) fun s₁ H₁ => ?_
      have := done C _ vs l D s₁ hJ (H₁.perm (((List.Perm.swap _ _ _).cons _).trans (.swap _ _ _)))
      cases use with
      | none => exact this
      | some u => exact this
  exact codeAny_compStart_list (loop _ _ H3) (W.self 0 H3 (hneed _ _ _ _ _ hJ) (loop _ _ H3))
end
end
section
noncomputable def pieceW (words : List (List Nat)) (turn : Int) (k : Nat) : List Nat := wrapW ((turn + k).fmod 3) (words.getD k []) ++ [wsW turn k]
noncomputable def tailP (words : List (List Nat)) (turn : Int) : Nat → Nat → List Nat
  | 0, _ => []
  | n + 1, k => pieceW words turn k ++ tailP words turn n (k + 1)
theorem pageW_tail (words : List (List Nat)) (turn : Int) : ∀ (n k : Nat), pageW words turn (k + n) = pageW words turn k ++ tailP words turn n k
  | 0, k => by simp [tailP]
  | n + 1, k => by
    have := pageW_tail words turn n (k + 1)
    rw [show k + 1 + n = k + (n + 1) by omega] at this
    rw [this, tailP, pageW, pieceW]
    simp
noncomputable def plainC (c : Nat) : Prop := c ∉ wsT ∧ c ≠ 34 ∧ c ≠ 92
theorem wsW_mem (turn : Int) (k : Nat) : wsW turn k ∈ wsT := by
  have hm4 : 0 ≤ (turn.fdiv 3 + (k : Int)).fmod 4 ∧ (turn.fdiv 3 + (k : Int)).fmod 4 < 4 := by
    rw [Int.fmod_eq_emod_of_nonneg _ (by decide)]
    omega
  unfold wsW
  generalize (turn.fdiv 3 + (k : Int)).fmod 4 = z at hm4
  have : z = 0 ∨ z = 1 ∨ z = 2 ∨ z = 3 := by omega
  rcases this with rfl | rfl | rfl | rfl <;> decide
theorem rdB_plain (ws : Nat) (hws : ws ∈ wsT) (rest : List Nat) : ∀ (x tok : List Nat), (∀ c ∈ x, plainC c) → rdB tok (x ++ ws :: rest) = (tok ++ x, rest)
  | [], tok, _ => by rw [List.nil_append, rdB_cons, if_pos hws, List.append_nil]
  | c :: x, tok, h => by
    obtain ⟨h1, h2, h3⟩ := h c (List.mem_cons_self ..)
    rw [List.cons_append, rdB_cons, if_neg h1, if_neg h3, rdB_plain ws hws rest x _ (fun d hd => h d (List.mem_cons_of_mem _ hd))]
    simp
theorem rdB_esc (ws : Nat) (hws : ws ∈ wsT) (rest : List Nat) : ∀ (x tok : List Nat), rdB tok ((x.map fun c => [92, c]).flatten ++ ws :: rest) = (tok ++ x, rest)
  | [], tok => by
    show rdB tok (ws :: rest) = _
    rw [rdB_cons, if_pos hws, List.append_nil]
  | c :: x, tok => by
    have e : ((c :: x).map fun c => [92, c]).flatten ++ ws :: rest = 92 :: c :: ((x.map fun c => [92, c]).flatten ++ ws :: rest) := by simp
    rw [e, rdB_cons, if_neg (by decide), if_pos rfl]
    show rdB (tok ++ [c]) ((x.map fun c => [92, c]).flatten ++ ws :: rest) = _
    rw [rdB_esc ws hws rest x]
    simp
theorem rdQ_plain (rest : List Nat) : ∀ (x tok : List Nat), (∀ c ∈ x, plainC c) → rdQ tok (x ++ 34 :: rest) = (tok ++ x, rest)
  | [], tok, _ => by rw [List.nil_append, rdQ_cons, if_pos rfl, List.append_nil]
  | c :: x, tok, h => by
    obtain ⟨h1, h2, h3⟩ := h c (List.mem_cons_self ..)
    rw [List.cons_append, rdQ_cons, if_neg h2, if_neg h3, rdQ_plain rest x _ (fun d hd => h d (List.mem_cons_of_mem _ hd))]
    simp
theorem rdO_pre (rest : List Nat) : ∀ pre : List Nat, (∀ c ∈ pre, c ∈ wsT) → rdO (pre ++ rest) = rdO rest
  | [], _ => rfl
  | c :: pre, h => by
    rw [List.cons_append, rdO, if_pos (h c (List.mem_cons_self ..)), rdO_pre rest pre (fun d hd => h d (List.mem_cons_of_mem _ hd))]
theorem rdO_piece (way : Int) (x : List Nat) (ws : Nat) (hws : ws ∈ wsT) (rest : List Nat) (hx : x ≠ []) (hp : ∀ c ∈ x, plainC c) :
    ∃ pre, (∀ c ∈ pre, c ∈ wsT) ∧ rdO (wrapW way x ++ [ws] ++ rest) = (x, pre ++ rest) := by
  obtain ⟨c, x, rfl⟩ : ∃ c y, x = c :: y := by cases x with | nil => exact absurd rfl hx | cons c y => exact ⟨c, y, rfl⟩
  obtain ⟨h1, h2, h3⟩ := hp c (List.mem_cons_self ..)
  unfold wrapW
  split
  · refine ⟨[], by simp, ?_⟩
    rw [List.append_assoc, List.cons_append, rdO, if_neg h1, if_neg h2, if_neg h3]
    exact rdB_plain ws hws rest x [c] (fun d hd => hp d (List.mem_cons_of_mem _ hd))
  · split
    · refine ⟨[ws], fun d hd => by rw [List.mem_singleton.mp hd]; exact hws, ?_⟩
      have e : 34 :: (c :: x) ++ [34] ++ [ws] ++ rest = 34 :: ((c :: x) ++ 34 :: ([ws] ++ rest)) := by simp
      rw [e, rdO, if_neg (by decide), if_pos rfl]
      exact rdQ_plain _ (c :: x) [] hp
    · refine ⟨[], by simp, ?_⟩
      have e : ((c :: x).map fun c => [92, c]).flatten ++ [ws] ++ rest = 92 :: c :: ((x.map fun c => [92, c]).flatten ++ ws :: rest) := by simp
      rw [e, rdO, if_neg (by decide), if_neg (by decide), if_pos rfl]
      exact rdB_esc ws hws rest x [c]
theorem wordN_ok (n : Int) (h1 : -16 < n) (h2 : n < 16) : wordN n ≠ [] ∧ (wordN n).length ≤ 100 ∧ (∀ c ∈ wordN n, plainC c ∧ c < 128) ∧ ((wordN n).headD 0 = 43 ∨ (wordN n).headD 0 = 45) ∧ (wordN n).tail.all (· < 128) = true ∧ (wordN n).tail.length ≤ 1000 ∧ (wordN n).all (· < 128) = true ∧
    (if (wordN n).headD 0 = 43 then 0 + sizeN (wordN n).tail else 0 - sizeN (wordN n).tail) = n := by
  have : ∀ n ∈ ([-15, -14, -13, -12, -11, -10, -9, -8, -7, -6, -5, -4, -3, -2, -1, 0, 1, 2, 3, 4, 5, 6, 7, 8, 9, 10, 11, 12, 13, 14, 15] : List Int), wordN n ≠ [] ∧ (wordN n).length ≤ 100 ∧ (∀ c ∈ wordN n, (c ∉ wsT ∧ c ≠ 34 ∧ c ≠ 92) ∧ c < 128) ∧ ((wordN n).headD 0 = 43 ∨ (wordN n).headD 0 = 45) ∧ (wordN n).tail.all (· < 128) = true ∧ (wordN n).tail.length ≤ 1000 ∧ (wordN n).all (· < 128) = true ∧
    (if (wordN n).headD 0 = 43 then 0 + sizeN (wordN n).tail else 0 - sizeN (wordN n).tail) = n := by decide +kernel
  exact num_cases this n h1 h2
noncomputable def negL (l : List Int) : List Int := l.map fun x => -x
noncomputable def rowOk (p : List Int) : Prop := 0 < p.length ∧ p.length < 1000 ∧ small p
noncomputable def chainW : Nat → List Int → List Int → List (List Int)
  | 0, p, _ => [p]
  | n + 1, p, q => p :: if q = [] then [] else chainW n q (negL (restW p q))
noncomputable def chainOk : Nat → List Int → List Int → Prop
  | 0, p, q => rowOk p ∧ q = []
  | n + 1, p, q => rowOk p ∧ (q = [] ∨ (rowOk q ∧ (restG (restRow q p.length p)).natAbs.log2 < 9000 ∧ chainOk n q (negL (restW p q))))
theorem restRow_lt (by_ : List Int) (hb : 0 < by_.length) : ∀ (n : Nat) (row : List Int), row.length ≤ n → (restRow by_ n row).length < by_.length
  | 0, row, h => by rw [List.length_eq_zero_iff.mp (Nat.le_zero.mp h)]; exact hb
  | n + 1, [], h => hb
  | n + 1, x :: row, h => by
    unfold restRow
    split
    · exact restRow_lt by_ hb n _ (by rw [redW_len]; simpa using h)
    · rename_i c
      have : ¬ by_.length ≤ row.length + 1 := fun e => c (.inl e)
      simp; omega
theorem restW_lt (p q : List Int) (hq : 0 < q.length) : (restW p q).length < q.length := by
  unfold restW
  rw [List.length_map]
  exact restRow_lt q hq _ _ (Nat.le_refl _)
noncomputable def rowW (q : List Int) : List Int := [q.getD 0 0, -2 * q.getD 0 0 * q.getD 1 0, q.getD 0 0 * (q.getD 1 0 * q.getD 1 0 - q.getD 2 0)]
noncomputable def slope5 (p : List Int) : List Int := (List.range 5).map fun k => p.getD k 0 * (4 - (k : Int))
noncomputable def slopeW (p : List Int) : List Int := (slope5 p).eraseIdx 4
noncomputable def pW (q0 q1 : List Int) : List Int := prodW (rowW q0) (rowW q1)
noncomputable def sgW (q0 q1 q2 : List Int) : List Int := prodW (slopeW (pW q0 q1)) (rowW q2)
noncomputable def secW (q0 q1 q2 : List Int) : List Int := restW (sgW q0 q1 q2) (pW q0 q1)
noncomputable def realW (q0 q1 : List Int) : List (List Int) := (rootsW [q0, q1]).filter fun r => decide (0 ≤ r.getD 2 0)
noncomputable def aliveW (q0 q1 q2 : List Int) : List (List Int) := (rootsW [q0, q1]).filter fun r => !decide (partsW r q2 = [0, 0])
noncomputable def isQuad (q : List Int) : Prop := ∃ e m d, q = [e, m, d] ∧ (e = 1 ∨ e = -1) ∧ -1 ≤ m ∧ m ≤ 1 ∧ -3 ≤ d ∧ d ≤ 6
structure LawOk (q0 q1 q2 : List Int) : Prop where
  pOk : rowOk (pW q0 q1)
  slOk : small (slopeW (pW q0 q1))
  gap : (restG (restRow (pW q0 q1) (sgW q0 q1 q2).length (sgW q0 q1 q2))).natAbs.log2 < 9000
  c1 : chainOk 9 (pW q0 q1) (slopeW (pW q0 q1))
  c2 : chainOk 9 (pW q0 q1) (secW q0 q1 q2)
  f1 : fallW (chainW 9 (pW q0 q1) (slopeW (pW q0 q1))) = ((realW q0 q1).length : Int)
  f2 : fallW (chainW 9 (pW q0 q1) (secW q0 q1 q2)) = ((realW q0 q1).map fun r => signW r q2).sum
  l1 : ((((chainW 9 (pW q0 q1) (slopeW (pW q0 q1))).getLastD []).length : Int)) - 1 = 4 - ((rootsW [q0, q1]).length : Int)
  l2 : ((((chainW 9 (pW q0 q1) (secW q0 q1 q2)).getLastD []).length : Int)) - 1 = 4 - ((aliveW q0 q1 q2).length : Int)
end
section
section
variable {w : World} {A : Around} {E : Value → Shared → Prop} {s₀ s : Shared} {B : Heap} {D D' : Led} {F : Addr × Cell} {a l : Addr} {env : Env}
theorem r_augSub {o i e : PySem.Expr} {p' pos : Pos} {op : Operator} {rest : List Stmt} {Q : Flow → Shared → Prop} (ha : ∀ ov iv new, augStore i ov iv new = (do holding [new, ov, iv] (setItem ov iv new); release [new, ov, iv] []; pure .next))
    (h : wpAny (MM w) A (eval o env) (fun ov s₁ => wpAny (MM w) A (eval i env) (fun iv s₂ => wpAny (MM w) A (getItem ov iv) (fun old s₃ => wpAny (MM w) A (eval e env) (fun v s₄ => wpAny (MM w) A (inplaceOp op old v) (fun new s₅ =>
      wpAny (MM w) A (setItem ov iv new) (fun _ s₆ => wpAny (MM w) A (execs rest env) Q E s₆) E s₅) E s₄) E s₃) E s₂) E s₁) E s) :
    wpAny (MM w) A (execs (.AugAssign (.Subscript o i p') op e pos :: rest) env) Q E s := wpAny_execs_cons (wpAny_AugAssign_Subscript_any h ha)
theorem pick_V (l : List Value) : ∀ c : Nat, ((List.range c).map fun k : Nat => ((0 : Int) + 1 * (k : Int)).toNat).filterMap (l[·]?) = l.take c
  | 0 => by simp
  | c + 1 => by
    rw [List.range_succ, List.map_append, List.filterMap_append, pick_V l c, List.take_add_one]
    have e : ((0 : Int) + 1 * (c : Int)).toNat = c := by omega
    rw [List.map_cons, List.map_nil, e, List.filterMap_cons, List.filterMap_nil]
    cases l[c]? <;> rfl
theorem slicePick_take (vs : List Value) (n : Nat) : (slicePick vs.toArray none (some (n : Int)) none).toList = vs.take n := by
  have h1 : sliceBounds none (some (n : Int)) none vs.toArray.size = (0, ((min n vs.length : Nat) : Int), 1) := by
    have h2 : ¬ (n : Int) < 0 := by omega
    have h3 : (1 : Int) > 0 := by decide
    unfold sliceBounds
    simp only [Option.getD_none, h2, h3, if_true, if_false, List.size_toArray]
    congr 2
    omega
  unfold slicePick
  rw [h1]
  unfold sliceRange
  dsimp only
  rw [if_pos (by decide)]
  have e2 : (vs.toArray[·]? : Nat → Option Value) = (vs[·]?) := by funext k; simp
  rw [e2, pick_V]
  have e3 : (if (0 : Int) < ((min n vs.length : Nat) : Int) then (((min n vs.length : Nat) : Int) - 0 + 1 - 1) / 1 else 0).toNat = min n vs.length := by split <;> omega
  rw [e3]
  by_cases h : n ≤ vs.length
  · rw [Nat.min_eq_left h]
  · rw [Nat.min_eq_right (by omega), List.take_length, List.take_of_length_le (by omega)]
theorem r_sliceB {sl : Addr} {vs : List Value} {n : Nat} {tn : Tok} {value slice : PySem.Expr} {Q : Value → Shared → Prop} (H : St s₀ B (F :: D) s) (hl : B.IsList l vs.toArray) (hs : (sl, SliceC .none (.int (n : Int) tn)) ∈ F :: D) (hz : vs.length ≤ 1000)
    (ht : subscripted slice false (.ref l) (.ref sl) = operate [.ref sl, .ref l] (getItem (.ref l) (.ref sl))) (hg : ∀ r, letTemporaryGo value (.ref l) r = pure ())
    (h : ∀ r s', St s₀ B (F :: (r, ListC (vs.take n)) :: D) s' → Q (.ref r) s') : wpAny (MM w) A (subscriptTail value slice (.ref l) (.ref sl)) Q E s := by
  have hl' : s.heap.IsList l vs.toArray := hl.at fun o e => H.keep _ o e
  have e := slicePick_take vs n
  refine tail_of_ItemOn ⟨"list", _, slot_list_getitem.lookup, hl'.typeIs, wpAny_getItem_list_slice hl' (H.slice hs) .none (.int _ _) .none (by simp) (h _ _ ?_) (by rw [sizeLine_eq]; simp; omega)⟩ ht hg
  rw [← e]
  exact ((H.push (P := ListC (slicePick vs.toArray none (some (n : Int)) none).toList) (o := { cls := .type "list", data := .seq (slicePick vs.toArray none (some (n : Int)) none) }) ⟨0, by simp⟩).swap)
theorem r_itemB {vs : List Value} {ns : List Int} {value slice : PySem.Expr} {k : Int} {t : Tok} {Q : Value → Shared → Prop} (j : Nat) (H : St s₀ B D s) (hl : B.IsList l vs.toArray) (hi : IntsAre vs ns) (hk : k = j) (hj : j < ns.length) (hb : ns.length < 2 ^ 60)
    (hs : subscripted slice false (.ref l) (.int k t) = operate [.ref l, .int k t] (getItem (.ref l) (.int k t))) (h : ∀ t, Q (.int (ns.getD j 0) t) s) :
    wpAny (MM w) A (subscriptTail value slice (.ref l) (.int k t)) Q E s := by
  have hl' : s.heap.IsList l vs.toArray := hl.at fun o e => H.keep _ o e
  obtain ⟨t', hx⟩ := hi.get _ _ (getElem?_getD hj)
  have e : k.toNat = j := by omega
  exact tail_any hl'.typeIs slot_list_getitem.lookup (wpAny_getItem_list hl' (by omega) (by omega) (by rw [e]; simpa using hx) (h _)) hs
end
end
local macro_rules | `(tactic| keq_rows) => mAll [
  "q r_mod H ?hy ?h|hy:d|t s",
  "q r_div H ?hy ?hp ?h|hy:d hp:N|t s",
  "q r_augSub ?ha ?h|ha:j|"]
noncomputable def drawsW (ws : List Int) : Nat → List Int
  | 0 => [16, 8, 43]
  | k + 1 => (drawsW ws k).set (k % 3) ((drawsW ws k).getD (k % 3) 0 + (ws.getD k 0).fmod 1000000)
noncomputable def quadW (draw : Int) : List Int := [1 - 2 * (draw.fdiv 30).fmod 2, draw.fmod 3 - 1, (draw.fdiv 3).fmod 10 - 3]
theorem drawsW_len (ws : List Int) : ∀ k, (drawsW ws k).length = 3
  | 0 => rfl
  | k + 1 => by rw [drawsW, List.length_set, drawsW_len ws k]
theorem drawsW_bd (ws : List Int) : ∀ (k : Nat), ∀ x ∈ drawsW ws k, 0 ≤ x ∧ x ≤ 43 + 1000000 * (k : Int)
  | 0 => by
    intro x hx
    simp only [drawsW, List.mem_cons, List.not_mem_nil, or_false] at hx
    omega
  | k + 1 => by
    intro x hx
    rw [drawsW] at hx
    have ih := drawsW_bd ws k
    rcases List.mem_or_eq_of_mem_set hx with hx | rfl
    · have := ih x hx; omega
    · have hl := drawsW_len ws k
      have hm : (drawsW ws k).getD (k % 3) 0 ∈ drawsW ws k := by
        have : k % 3 < (drawsW ws k).length := by omega
        rw [List.getD_eq_getElem?_getD, List.getElem?_eq_getElem this]
        exact List.getElem_mem this
      have h1 := ih _ hm
      have h2 : 0 ≤ (ws.getD k 0).fmod 1000000 ∧ (ws.getD k 0).fmod 1000000 < 1000000 := by
        rw [Int.fmod_eq_emod_of_nonneg _ (by decide)]
        omega
      omega
theorem quadW_ok (draw : Int) : isQuad (quadW draw) := by
  refine ⟨_, _, _, rfl, ?_⟩
  rw [Int.fmod_eq_emod_of_nonneg _ (by decide), Int.fmod_eq_emod_of_nonneg _ (by decide), Int.fmod_eq_emod_of_nonneg _ (by decide)]
  omega
theorem r_elt3 {x y z : Int} {t1 t2 t3 : Tok} {w : World} {A : Around} {E : Value → Shared → Prop} {s₀ s : Shared} {B : Heap} {D : Led} {F : Addr × Cell} {Q : Value → Shared → Prop} (H : St s₀ B (F :: D) s) (h : ∀ l s', St s₀ B (F :: (l, ITupC [x, y, z]) :: D) s' → Q (.ref l) s') :
    wpAny (MM w) A (newTuple [.int x t1, .int y t2, .int z t3]) Q E s := r_newITup H (.cons _ _ (.cons _ _ (.cons _ _ .nil))) (by simp) h
noncomputable def Lists (as : List Addr) (rows : List (List Int)) (T : Led) : Prop := as.length = rows.length ∧ ∀ i a, as[i]? = some a → (a, IntsC (rows.getD i [])) ∈ T
theorem Lists.nil {T : Led} : Lists [] [] T := ⟨rfl, fun i a h => by simp at h⟩
theorem Lists.mono {as : List Addr} {rows : List (List Int)} {T T' : Led} (h : Lists as rows T) (hT : ∀ p ∈ T, p ∈ T') : Lists as rows T' := ⟨h.1, fun i a ha => hT _ (h.2 i a ha)⟩
theorem Lists.snoc' {as : List Addr} {rows : List (List Int)} {T : Led} (h : Lists as rows T) {a : Addr} {r : List Int} (hm : (a, IntsC r) ∈ T) : Lists (as ++ [a]) (rows ++ [r]) T := by
  refine ⟨by simp [h.1], fun i b hb => ?_⟩
  rw [List.getElem?_append] at hb
  split at hb
  · rename_i hlt
    have e : (rows ++ [r]).getD i [] = rows.getD i [] := by
      have : i < rows.length := by rw [← h.1]; exact hlt
      simp [List.getD_eq_getElem?_getD, List.getElem?_append, this]
    rw [e]
    exact h.2 i b hb
  · rename_i hlt
    have hi : i - as.length = 0 := by
      have := (List.getElem?_eq_some_iff.mp hb).1
      simp at this; omega
    rw [hi] at hb
    cases hb
    have e : (rows ++ [r]).getD i [] = r := by
      have h1 := h.1
      have : i = rows.length := by omega
      subst this
      simp [List.getD_eq_getElem?_getD]
    rw [e]
    exact hm
theorem Lists.snoc {as : List Addr} {rows : List (List Int)} {T : Led} (h : Lists as rows T) (a : Addr) (r : List Int) : Lists (as ++ [a]) (rows ++ [r]) ((a, IntsC r) :: T) := (h.mono fun _ hp => .tail _ hp).snoc' (.head _)
theorem St.mid {s₀ s : Shared} {B : Heap} {F : Addr × Cell} {P V Y : Led} (H : St s₀ B (F :: (P ++ (V ++ Y))) s) : St s₀ B (F :: V ++ (P ++ Y)) s := by
  refine H.perm (List.Perm.cons _ ?_)
  show (P ++ (V ++ Y)).Perm (V ++ (P ++ Y))
  rw [← List.append_assoc, ← List.append_assoc]
  exact List.perm_append_comm.append_right _
theorem St.unmid {s₀ s : Shared} {B : Heap} {F : Addr × Cell} {P V Y : Led} (H : St s₀ B (F :: V ++ (P ++ Y)) s) : St s₀ B (F :: (P ++ (V ++ Y))) s := by
  refine H.perm (List.Perm.cons _ ?_)
  show (V ++ (P ++ Y)).Perm (P ++ (V ++ Y))
  rw [← List.append_assoc, ← List.append_assoc]
  exact List.perm_append_comm.append_right _
theorem St.rot {s₀ s : Shared} {B : Heap} {F : Addr × Cell} {V X0 Y : Led} (H : St s₀ B (F :: V ++ (X0 ++ Y)) s) : St s₀ B (F :: V ++ (Y ++ X0)) s := H.perm (List.Perm.append (List.Perm.refl _) List.perm_append_comm)
structure Wrap (P : Prop) : Prop where
  out : P
section
noncomputable def upB {α : Type} (f : Bool → α) (b : Bool) (v : α) : Bool → α := fun x => if x = b then v else f x
theorem upB_same {α : Type} (f : Bool → α) (b : Bool) (v : α) : upB f b v b = v := if_pos rfl
theorem upB_ne {α : Type} (f : Bool → α) {b x : Bool} (v : α) (h : x ≠ b) : upB f b v x = f x := if_neg h
noncomputable def nmT (b : Bool) : List Nat := if b then [61, 61] else [60]
noncomputable def trip (fa sa : Bool → Addr) (tk : Bool → Tok) (b : Bool) : List Value := [.str (T (nmT b)) (tk b), .ref (fa b), .ref (sa b)]
noncomputable def meas (ord : List Bool) (ps : Bool → List Int) : Nat := (ord.map fun b => (ps b).length + 1).sum
structure QInv (X : Led) (Fin : Bool → List (List Int)) (ord : List Bool) (cs : Bool → List (List Int)) (as : Bool → List Addr) (pn : Bool → Nat) (pf ps : Bool → List Int) (fa sa : Bool → Addr) (T : Led) : Prop where
  nd : ord.Nodup
  pend : ∀ b ∈ ord, cs b ++ chainW (pn b) (pf b) (ps b) = Fin b ∧ chainOk (pn b) (pf b) (ps b) ∧ (fa b, IntsC (pf b)) ∈ T ++ X ∧ (sa b, IntsC (ps b)) ∈ T ++ X
  fin : ∀ b, b ∉ ord → cs b = Fin b
  lists : ∀ b, Lists (as b) (cs b) (T ++ X)
variable {X : Led} {Fin : Bool → List (List Int)} {ord rest : List Bool} {b : Bool} {cs : Bool → List (List Int)} {as : Bool → List Addr} {pn : Bool → Nat} {pf ps : Bool → List Int} {fa sa : Bool → Addr} {T' : Led}
theorem chainW_nil (n : Nat) (p : List Int) : chainW n p [] = [p] := by cases n <;> simp [chainW]
theorem QInv.step0 (h : QInv X Fin (b :: rest) cs as pn pf ps fa sa T') (hs : ps b = []) :
    QInv X Fin rest (upB cs b (cs b ++ [pf b])) (upB as b (as b ++ [fa b])) pn pf ps fa sa T' := by
  obtain ⟨h1, h2, h3, h4⟩ := h.pend b (List.mem_cons_self ..)
  have hb := (List.nodup_cons.mp h.nd)
  refine ⟨hb.2, fun x hx => ?_, fun x hx => ?_, fun x => ?_⟩
  · have ne : x ≠ b := fun e => hb.1 (e ▸ hx)
    rw [upB_ne _ _ ne]
    exact h.pend x (List.mem_cons_of_mem _ hx)
  · by_cases e : x = b
    · subst e
      rw [upB_same, ← h1, hs, chainW_nil]
    · rw [upB_ne _ _ e]
      exact h.fin x (fun hm => (List.mem_cons.mp hm).elim e hx)
  · by_cases e : x = b
    · subst e
      rw [upB_same, upB_same]
      exact (h.lists x).snoc' h3
    · rw [upB_ne _ _ e, upB_ne _ _ e]
      exact h.lists x
theorem QInv.step1 (h : QInv X Fin (b :: rest) cs as pn pf ps fa sa T') (hs : ps b ≠ []) (na : Addr) :
    QInv X Fin (rest ++ [b]) (upB cs b (cs b ++ [pf b])) (upB as b (as b ++ [fa b])) (upB pn b (pn b - 1)) (upB pf b (ps b)) (upB ps b (negL (restW (pf b) (ps b)))) (upB fa b (sa b)) (upB sa b na) ((na, IntsC (negL (restW (pf b) (ps b)))) :: T') := by
  obtain ⟨h1, h2, h3, h4⟩ := h.pend b (List.mem_cons_self ..)
  have hb := (List.nodup_cons.mp h.nd)
  refine ⟨?_, fun x hx => ?_, fun x hx => ?_, fun x => ?_⟩
  · rw [List.nodup_append]
    refine ⟨hb.2, by simp, fun x hx y hy => ?_⟩
    rw [List.mem_singleton.mp hy]
    exact fun e => hb.1 (e ▸ hx)
  · by_cases e : x = b
    · subst e
      rw [upB_same, upB_same, upB_same, upB_same, upB_same, upB_same]
      cases hn : pn x with
      | zero => rw [hn] at h2; exact absurd h2.2 hs
      | succ m =>
        rw [hn] at h1 h2
        rw [chainW, if_neg hs] at h1
        obtain ⟨h21, h22⟩ := h2
        have h23 := h22.resolve_left hs
        refine ⟨?_, ?_, .tail _ h4, .head _⟩
        · rw [← h1, List.append_assoc]; rfl
        · exact h23.2.2
    · have hx' : x ∈ rest := by
        rcases List.mem_append.mp hx with hx | hx
        · exact hx
        · exact absurd (List.mem_singleton.mp hx) e
      rw [upB_ne _ _ e, upB_ne _ _ e, upB_ne _ _ e, upB_ne _ _ e, upB_ne _ _ e, upB_ne _ _ e]
      obtain ⟨g1, g2, g3, g4⟩ := h.pend x (List.mem_cons_of_mem _ hx')
      exact ⟨g1, g2, .tail _ g3, .tail _ g4⟩
  · have e : x ≠ b := fun e => hx (List.mem_append_right _ (List.mem_singleton.mpr e))
    rw [upB_ne _ _ e]
    exact h.fin x (fun hm => (List.mem_cons.mp hm).elim e fun q => hx (List.mem_append_left _ q))
  · by_cases e : x = b
    · subst e
      rw [upB_same, upB_same]
      exact ((h.lists x).snoc' h3).mono fun p hp => .tail _ hp
    · rw [upB_ne _ _ e, upB_ne _ _ e]
      exact (h.lists x).mono fun p hp => .tail _ hp
theorem flat_upd (tk : Bool → Tok) (v1 v2 : Addr) : ∀ {rest : List Bool}, b ∉ rest → rest.flatMap (trip (upB fa b v1) (upB sa b v2) tk) = rest.flatMap (trip fa sa tk)
  | [], _ => rfl
  | x :: rest, h => by
    have e : x ≠ b := fun e => h (e ▸ List.mem_cons_self ..)
    have h' : b ∉ rest := fun q => h (List.mem_cons_of_mem _ q)
    rw [List.flatMap_cons, List.flatMap_cons, flat_upd tk v1 v2 h']
    unfold trip
    rw [upB_ne _ _ e, upB_ne _ _ e]
theorem meas_cons (b : Bool) (rest : List Bool) (ps : Bool → List Int) : meas (b :: rest) ps = (ps b).length + 1 + meas rest ps := by simp [meas]
theorem meas_upd (v : List Int) : ∀ {rest : List Bool}, b ∉ rest → meas rest (upB ps b v) = meas rest ps
  | [], _ => rfl
  | x :: rest, h => by
    have e : x ≠ b := fun e => h (e ▸ List.mem_cons_self ..)
    have h' : b ∉ rest := fun q => h (List.mem_cons_of_mem _ q)
    rw [meas_cons, meas_cons, meas_upd v h', upB_ne _ _ e]
theorem meas_snoc (rest : List Bool) (b : Bool) (ps : Bool → List Int) : meas (rest ++ [b]) ps = meas rest ps + ((ps b).length + 1) := by simp [meas]
theorem meas_lt1 (h : QInv X Fin (b :: rest) cs as pn pf ps fa sa T') (hs : ps b ≠ []) : meas (rest ++ [b]) (upB ps b (negL (restW (pf b) (ps b)))) < meas (b :: rest) ps := by
  have hb := (List.nodup_cons.mp h.nd).1
  have hl : 0 < (ps b).length := List.length_pos_iff.mpr hs
  have := restW_lt (pf b) (ps b) hl
  rw [meas_snoc, meas_upd _ hb, upB_same, meas_cons, negL, List.length_map]
  omega
theorem meas_lt0 : meas rest ps < meas (b :: rest) ps := by rw [meas_cons]; omega
theorem chainW_len : ∀ (n : Nat) (p q : List Int), (chainW n p q).length ≤ n + 1
  | 0, p, q => by simp [chainW]
  | n + 1, p, q => by
    have := chainW_len n q (negL (restW p q))
    unfold chainW
    split
    · simp
    · simp; omega
theorem QInv.len (h : QInv X Fin ord cs as pn pf ps fa sa T') (hF : ∀ b, (Fin b).length ≤ 10) (b : Bool) : (as b).length ≤ 10 := by
  have e := (h.lists b).1
  by_cases hm : b ∈ ord
  · have := congrArg List.length (h.pend b hm).1
    rw [List.length_append] at this
    have := hF b
    omega
  · have := h.fin b hm
    rw [this] at e
    have := hF b
    omega
theorem ord_len (h : QInv X Fin ord cs as pn pf ps fa sa T') : ord.length ≤ 2 := by
  have := h.nd
  match ord, this with
  | [], _ => simp
  | [_], _ => simp
  | [_, _], _ => simp
  | x :: y :: z :: r, hn => exact absurd hn (by cases x <;> cases y <;> cases z <;> simp)
theorem flat_len (tk : Bool → Tok) : ∀ ord : List Bool, (ord.flatMap (trip fa sa tk)).length = 3 * ord.length
  | [] => rfl
  | x :: r => by rw [List.flatMap_cons, List.length_append, flat_len tk r]; simp [trip]; omega
end
section
section
variable {w : World} {A : Around} {E : Value → Shared → Prop} {s₀ s : Shared} {B : Heap} {D D' : Led} {F : Addr × Cell} {a l : Addr} {env : Env}
theorem r_sum {ns : List Int} {Q : Value → Shared → Prop} (hh : A.handled = none) (H : St s₀ B D s) (hm : (l, IntsC ns) ∈ D) (h : ∀ t s', St s₀ B D s' → Q (.int ns.sum t) s') : wpAny (MM w) A (call (.builtin "sum") [.ref l]) Q E s := by
  obtain ⟨vs, n, hi, hl⟩ := H.ints hm
  obtain ⟨xs, e⟩ := hi.allInts.items
  have hl' := hl.isList
  have e2 : ns = numsOf (intItems xs).toList := by rw [← e]; exact hi.numsOf.symm
  rw [e] at hl'
  rw [nums_intItems] at e2
  refine sum_intListG hh hl' fun h' tk t' hk => ?_
  rw [preSum_eq, List.take_of_length_le (by simp), ← e2]
  exact h _ _ (H.grow hk tk)
theorem r_itemLast {vs : List Value} {value slice : PySem.Expr} {k : Int} {t : Tok} {v : Value} {Q : Value → Shared → Prop} (H : St s₀ B D s) (hm : (l, ListC vs) ∈ D) (hk : k = -1) (hx : vs[vs.length - 1]? = some v) (hb : vs.length < 2 ^ 60)
    (hs : subscripted slice false (.ref l) (.int k t) = operate [.ref l, .int k t] (getItem (.ref l) (.int k t))) (h : Q v s) :
    wpAny (MM w) A (subscriptTail value slice (.ref l) (.int k t)) Q E s := by
  have hl := H.isList hm
  have := (List.getElem?_eq_some_iff.mp hx).1
  have e : (k + (vs.toArray.size : Int)).toNat = vs.length - 1 := by rw [List.size_toArray]; omega
  exact tail_any hl.typeIs slot_list_getitem.lookup (wpAny_getItem_list_neg hl (by omega) (by rw [List.size_toArray]; omega) (by omega) (by rw [e]; simpa using hx) h) hs
theorem cnt_count (c : Nat) : ∀ l : List Nat, PyProof.Rows.cnt c l = (l.count c : Int)
  | [] => rfl
  | x :: l => by
    have e : PyProof.Rows.cnt c (x :: l) = (if x = c then 1 else 0) + PyProof.Rows.cnt c l := PyProof.Rows.cnt_cons c x l
    rw [e, cnt_count c l, List.count_cons]
    by_cases h : x = c
    · simp [h]; omega
    · simp [h]
theorem r_countS {x : List Nat} {t u : Tok} {Q : Value → Shared → Prop} (H : St s₀ B D s) (h : ∀ t s', St s₀ B D s' → Q (.int (x.count 10 : Int) t) s') : wpAny (MM w) A (call (.builtin "str.count") [.str (T x) t, .str (T [10]) u]) Q E s := by
  have e : (Txt.count (T x) (T [10]) : Int) = (x.count 10 : Int) := by
    rw [show T [10] = ⟨#[10]⟩ from rfl, count_cnt]
    exact cnt_count 10 x
  exact SC.count (by rw [e]; exact h _ _ (H.toks _))
end
theorem Tups.mono {as : List Addr} {rows : List (List Int)} {T T' : Led} (h : Tups as rows T) (hT : ∀ p ∈ T, p ∈ T') : Tups as rows T' := ⟨h.1, fun i a ha => hT _ (h.2 i a ha)⟩
theorem Tups.snoc' {as : List Addr} {rows : List (List Int)} {T : Led} (h : Tups as rows T) {a : Addr} {r : List Int} (hm : (a, ITupC r) ∈ T) : Tups (as ++ [a]) (rows ++ [r]) T :=
  (h.snoc a r).mono fun p hp => by
    rcases List.mem_cons.mp hp with rfl | hp
    · exact hm
    · exact hp
theorem chainOk_rows : ∀ (n : Nat) (p q : List Int), chainOk n p q → ∀ r ∈ chainW n p q, rowOk r
  | 0, p, q, h, r, hr => by rw [List.mem_singleton.mp hr]; exact h.1
  | n + 1, p, q, h, r, hr => by
    rw [chainW] at hr
    rcases List.mem_cons.mp hr with rfl | hr
    · exact h.1
    · by_cases e : q = []
      · rw [if_pos e] at hr; cases hr
      · rw [if_neg e] at hr
        exact chainOk_rows n q _ (h.2.resolve_left e).2.2 r hr
theorem chainW_ne (n : Nat) (p q : List Int) : chainW n p q ≠ [] := by cases n <;> simp [chainW]
theorem wholeW_head (d : Int) : 0 ≤ (wholeW d).getD 0 0 ∧ (wholeW d).getD 0 0 ≤ 2 := by
  have h : ∀ x ∈ wholeW d, 0 ≤ x ∧ x ≤ 2 := fun x hx => by
    have := (List.mem_filter.mp hx).1
    simp only [List.mem_cons, List.not_mem_nil, or_false] at this
    omega
  cases e : wholeW d with
  | nil => simp
  | cons x r => exact h x (e ▸ List.mem_cons_self ..)
noncomputable def RootBd (r : List Int) : Prop := ∃ x side inner, r = [x, side, inner] ∧ (-6 ≤ x ∧ x ≤ 6) ∧ (side = -1 ∨ side = 0 ∨ side = 1) ∧ (-6 ≤ inner ∧ inner ≤ 6)
theorem rootOf_bd {m d side : Int} (hm : -1 ≤ m ∧ m ≤ 1) (hd : -3 ≤ d ∧ d ≤ 6) (hs : side = -1 ∨ side = 1) : RootBd (rootOf m d side) := by
  unfold rootOf
  split
  · exact ⟨_, _, _, rfl, by omega, by omega, by omega⟩
  · have h := wholeW_head d
    refine ⟨_, _, _, rfl, ?_, by omega, by omega⟩
    generalize (wholeW d).getD 0 0 = k at h
    rcases hs with rfl | rfl <;> omega
theorem addRoot_mem {rs : List (List Int)} {r x : List Int} (h : x ∈ addRoot rs r) : x ∈ rs ∨ x = r := by
  unfold addRoot at h
  split at h
  · exact .inl h
  · rcases List.mem_append.mp h with h | h
    · exact .inl h
    · exact .inr (List.mem_singleton.mp h)
theorem rootsW_bd {q0 q1 : List Int} (h0 : isQuad q0) (h1 : isQuad q1) : ∀ r ∈ rootsW [q0, q1], RootBd r := by
  obtain ⟨e0, m0, d0, rfl, _, hm0, hm0', hd0, hd0'⟩ := h0
  obtain ⟨e1, m1, d1, rfl, _, hm1, hm1', hd1, hd1'⟩ := h1
  intro r hr
  have a1 : RootBd (rootOf m0 d0 (-1)) := rootOf_bd ⟨hm0, hm0'⟩ ⟨hd0, hd0'⟩ (.inl rfl)
  have a2 : RootBd (rootOf m0 d0 1) := rootOf_bd ⟨hm0, hm0'⟩ ⟨hd0, hd0'⟩ (.inr rfl)
  have b1 : RootBd (rootOf m1 d1 (-1)) := rootOf_bd ⟨hm1, hm1'⟩ ⟨hd1, hd1'⟩ (.inl rfl)
  have b2 : RootBd (rootOf m1 d1 1) := rootOf_bd ⟨hm1, hm1'⟩ ⟨hd1, hd1'⟩ (.inr rfl)
  have hr : r ∈ addRoot (addRoot (addRoot (addRoot [] (rootOf m0 d0 (-1))) (rootOf m0 d0 1)) (rootOf m1 d1 (-1))) (rootOf m1 d1 1) := hr
  rcases addRoot_mem hr with hr | rfl
  · rcases addRoot_mem hr with hr | rfl
    · rcases addRoot_mem hr with hr | rfl
      · rcases addRoot_mem hr with hr | rfl
        · cases hr
        · exact a1
      · exact a2
    · exact b1
  · exact b2
theorem Tups.at {rs : List Addr} {R : List (List Int)} {Z : Led} (hT : Tups rs R Z) (hbd : ∀ r ∈ R, RootBd r) (i : Nat) (v : Value) (hv : (rs.map Value.ref)[i]? = some v) :
    ∃ b x side inner, v = .ref b ∧ rs[i]? = some b ∧ (b, ITupC [x, side, inner]) ∈ Z ∧ R[i]? = some [x, side, inner] ∧ RootBd [x, side, inner] := by
  have hrsl := hT.1
  rw [List.getElem?_map] at hv
  cases hb : rs[i]? with
  | none => rw [hb] at hv; cases hv
  | some b =>
    rw [hb] at hv
    cases hv
    have hi := (List.getElem?_eq_some_iff.mp hb).1
    have hi2 : i < R.length := by omega
    have e : R[i]? = some (R.getD i []) := by rw [List.getD_eq_getElem?_getD, List.getElem?_eq_getElem hi2]; rfl
    have hm := hT.2 i b hb
    have hr := hbd (R.getD i []) (by rw [List.getD_eq_getElem?_getD, List.getElem?_eq_getElem hi2]; exact List.getElem_mem hi2)
    obtain ⟨x, side, inner, er, q1, q2, q3⟩ := hr
    rw [er] at hm e
    exact ⟨b, x, side, inner, rfl, rfl, hm, e, x, side, inner, rfl, q1, q2, q3⟩
theorem RootBd.all {x side inner e m d : Int} (hr : RootBd [x, side, inner]) (hq : isQuad [e, m, d]) : ∀ y ∈ [x, side, inner, e, m, d], -(2 ^ 60) < y ∧ y < 2 ^ 60 := by
  obtain ⟨x', s', i', er, hx, hs, hi⟩ := hr
  obtain ⟨e', m', d', eq, he, hm, hm', hd, hd'⟩ := hq
  cases er
  cases eq
  intro y hy
  simp only [List.mem_cons, List.not_mem_nil, or_false] at hy
  omega
theorem Lists.last {as : List Addr} {rows : List (List Int)} {Z : Led} (h : Lists as rows Z) (hn : rows ≠ []) : ∃ b, (as.map Value.ref)[(as.map Value.ref).length - 1]? = some (.ref b) ∧ (b, IntsC (rows.getLastD [])) ∈ Z ∧ rows.getLastD [] ∈ rows := by
  have hl := h.1
  have h0 := List.length_pos_iff.mpr hn
  have hi : as.length - 1 < as.length := by omega
  have hi2 : rows.length - 1 < rows.length := by omega
  have e : rows.getLastD [] = rows.getD (as.length - 1) [] := by
    rw [List.getLastD_eq_getLast?, List.getLast?_eq_getElem?, List.getD_eq_getElem?_getD, hl]
  refine ⟨as[as.length - 1], ?_, ?_, ?_⟩
  · rw [List.length_map, List.getElem?_map, List.getElem?_eq_getElem hi]; rfl
  · rw [e]
    exact h.2 _ _ (List.getElem?_eq_getElem hi)
  · rw [e, List.getD_eq_getElem?_getD, hl, List.getElem?_eq_getElem hi2]
    exact List.getElem_mem hi2
theorem sq_bd (k : Int) (h1 : -16 < k) (h2 : k < 16) : 0 ≤ k ^ 2 ∧ k ^ 2 ≤ 225 := num_cases (P := fun k => 0 ≤ k ^ 2 ∧ k ^ 2 ≤ 225) (by decide) k h1 h2
theorem parts_bd {r q : List Int} (hr : RootBd r) (hq : isQuad q) : ∀ y ∈ partsW r q, -(2 ^ 60) < y ∧ y < 2 ^ 60 := by
  obtain ⟨x, side, inner, rfl, hx, hs, hi⟩ := hr
  obtain ⟨e, m, d, rfl, he, hm, hm', hd, hd'⟩ := hq
  have hk := sq_bd (x - m) (by omega) (by omega)
  have e1 : partsW [x, side, inner] [e, m, d] = [e * ((x - m) ^ 2 + inner - d), e * 2 * side * (x - m)] := rfl
  intro y hy
  rw [e1] at hy
  simp only [List.mem_cons, List.not_mem_nil, or_false] at hy
  generalize (x - m) ^ 2 = k2 at hk hy
  rcases hy with rfl | rfl
  · rcases he with rfl | rfl <;> omega
  · rcases he with rfl | rfl <;> rcases hs with rfl | rfl | rfl <;> omega
end
section
section
variable {w : World} {A : Around} {E : Value → Shared → Prop} {s₀ s : Shared} {B : Heap} {D D' : Led} {F : Addr × Cell} {a l : Addr} {env : Env}
set_option maxHeartbeats 16000000 in
theorem c_lawJ {a : LA} {L rl al4 ch lE lL b1 b2 : Addr} {asE asL rs us4 : List Addr} {Z : Led} {page : List Nat} {lt tp : Tok} {c1 c2 : List Int} {nm rv : Value} {name qual : Str} {params : Arguments} {body : List Stmt} {scope : Scope} {dV kV doc pm cd cdv ct oc : Value} {ps0 : Array Value} {an od : Option Addr} {osl : Array (Option Value)} {fl : Addr} {Q : Flow → Shared → Prop}
    (G : Base w B) (hA : Ok A 9) (ho : (KF w).lookup 189 = some ⟨oc, od, .func (fnOf name qual params body scope dV kV doc pm an cdv ct), osl⟩)
    (mtab : (124, TabC ps0) ∈ Z) (mx : (L + 1 + 1, CellC (some (.ref a.x))) ∈ Z) (hx : (a.x, InstC 101 a.dx) ∈ Z) (hd : (a.dx, NsL (lexNs (1 + (page.count 10 : Int)) lt a.tw a.stream a.pb)) ∈ Z)
    (mrl : (rl, ListC (rs.map .ref)) ∈ Z) (mal : (al4, ListC (us4.map .ref)) ∈ Z)
    (mch : (ch, DictC (strKind PR w) [(T [61, 61], .ref lE), (T [60], .ref lL)]) ∈ Z) (mlE : (lE, ListC (asE.map .ref)) ∈ Z) (mlL : (lL, ListC (asL.map .ref)) ∈ Z)
    (hb1 : (asE.map Value.ref)[(asE.map Value.ref).length - 1]? = some (.ref b1)) (hb2 : (asL.map Value.ref)[(asL.map Value.ref).length - 1]? = some (.ref b2))
    (mb1 : (b1, IntsC c1) ∈ Z) (mb2 : (b2, IntsC c2) ∈ Z) (hal1 : asE.length ≤ 10) (hal2 : asL.length ≤ 10) (hr1 : c1.length < 1000) (hr2 : c2.length < 1000) (hrs : rs.length ≤ 4) (hus : us4.length ≤ 4)
    (hl1 : (c1.length : Int) - 1 = 4 - (rs.length : Int)) (hl2 : (c2.length : Int) - 1 = 4 - (us4.length : Int))
    (H : St s₀ B ((L, LocC [("page", .str (T page) tp), ("chains", .ref ch), ("name", nm), ("roots", .ref rl), ("real", rv), ("alive", .ref al4)]) :: Z) s)
    (h : ∀ s' D ps, St s₀ B D s' → (124, TabC ps) ∈ D → Q (.ret (.bool true)) s') : Wrap (wpAny (MM w) A (execs (body.drop 19) (envOfC qual scope L fl cd)) Q E s) := by
  constructor
  have e : (KF w).lookup 189 = some ⟨_, _, .func (fnOf _ _ _ _ _ _ _ _ _ _ _ _), _⟩ := rfl
  rw [e] at ho
  injection ho with ho
  injection ho with h1 h2 h3 h4
  injection h3 with h3
  injection h3 with u1 u2 u3 u4 u5 u6 u7 u8 u9 u10 u11 u12 u13 u14
  injection u4 with u4
  subst u2 u4 u5
  clear e u1 u3 u6 u7 u8 u9 u10 u11 u12 u13 u14 h1 h2 h4
  simp only [List.drop_succ_cons, List.drop_zero]
  repeat tb_start
  refine r_itemD (k := T [61, 61]) (v := .ref lE) H (.tail _ mch) (strKind_is _ _ _ _) (by simp [valueAt]) rfl (fun _ => rfl) ?_
  clear H
  intro s H
  repeat tb_start
  refine' r_itemLast H ?hm1 ?hk1 ?hx1 ?hb1 ?hs1 ?h1
  case hx1 => exact hb1
  case hm1 => exact .tail _ mlE
  case hk1 => exact rfl
  case hb1 => (rw [List.length_map]; omega)
  case hs1 => exact rfl
  repeat tb_start
  refine r_len H (.tail _ mrl) (by rw [List.length_map]; omega) ?_
  clear H
  intro t s H
  rw [List.length_map]
  repeat tb_start
  have e6 : (!decide ((c1.length : Int) - 1 = 4 - (rs.length : Int))) = false := by simp [hl1]
  refine r_iteFC e6 ?_
  repeat tb_start
  refine r_itemD (k := T [60]) (v := .ref lL) H (.tail _ mch) (strKind_is _ _ _ _) (by have e3 : T [60] ≠ T [61, 61] := (fun e => by have := T_inj.mp e; simp at this); simp [valueAt, Ne.symm e3]) rfl (fun _ => rfl) ?_
  clear H
  intro s H
  repeat tb_start
  refine' r_itemLast H ?hm2 ?hk2 ?hx2 ?hb2 ?hs2 ?h2
  case hx2 => exact hb2
  case hm2 => exact .tail _ mlL
  case hk2 => exact rfl
  case hb2 => (rw [List.length_map]; omega)
  case hs2 => exact rfl
  repeat tb_start
  refine r_len H (.tail _ mal) (by rw [List.length_map]; omega) ?_
  clear H
  intro t s H
  rw [List.length_map]
  repeat tb_start
  have e6 : (!decide ((c2.length : Int) - 1 = 4 - (us4.length : Int))) = false := by simp [hl2]
  refine r_iteFC e6 ?_
  repeat tb_start
  refine r_countS H fun t s H => ?_
  repeat tb_start
  have e7 : ((1 + (page.count 10 : Int)) == 1 + (page.count 10 : Int)) = true := beq_self_eq_true _
  rw [e7]
  exact h _ _ _ H (.tail _ mtab)
end
end
section
section
variable {w : World} {A : Around} {E : Value → Shared → Prop} {s₀ s : Shared} {B : Heap} {D D' : Led} {F : Addr × Cell} {a l : Addr} {env : Env}
set_option maxHeartbeats 16000000 in
theorem c_lawI {a : LA} {L dl a0 a1 a2 ch lE lL : Addr} {as : Bool → List Addr} {Z : Led} {page : List Nat} {pos : Nat} {lt tp tn : Tok} {q0 q1 q2 : List Int} {nm : Value} {name qual : Str} {params : Arguments} {body : List Stmt} {scope : Scope} {dV kV doc pm cd cdv ct oc : Value} {ps0 : Array Value} {an od : Option Addr} {osl : Array (Option Value)} {fl : Addr} {Q : Flow → Shared → Prop}
    (G : Base w B) (hA : Ok A 9) (ho : (KF w).lookup 189 = some ⟨oc, od, .func (fnOf name qual params body scope dV kV doc pm an cdv ct), osl⟩)
    (hall : LawOk q0 q1 q2) (hq0 : isQuad q0) (hq1 : isQuad q1) (hq2 : isQuad q2)
    (mtab : (124, TabC ps0) ∈ Z) (mc : (L + 1, CellC (some (.ref dl))) ∈ Z) (mx : (L + 1 + 1, CellC (some (.ref a.x))) ∈ Z) (hx : (a.x, InstC 101 a.dx) ∈ Z) (hd : (a.dx, NsL (lexNs (1 + (page.count 10 : Int)) lt a.tw a.stream a.pb)) ∈ Z)
    (mdl : (dl, ListC [.ref a0, .ref a1, .ref a2]) ∈ Z) (m0 : (a0, ITupC q0) ∈ Z) (m1 : (a1, ITupC q1) ∈ Z) (m2 : (a2, ITupC q2) ∈ Z)
    (mch : (ch, DictC (strKind PR w) [(T [61, 61], .ref lE), (T [60], .ref lL)]) ∈ Z) (mlE : (lE, ListC ((as true).map .ref)) ∈ Z) (mlL : (lL, ListC ((as false).map .ref)) ∈ Z)
    (hE : Lists (as true) (chainW 9 (pW q0 q1) (slopeW (pW q0 q1))) Z) (hL : Lists (as false) (chainW 9 (pW q0 q1) (secW q0 q1 q2)) Z)
    (H : St s₀ B ((L, LocC [("page", .str (T page) tp), ("chains", .ref ch), ("name", nm)]) :: Z) s)
    (h : ∀ s' D ps, St s₀ B D s' → (124, TabC ps) ∈ D → Q (.ret (.bool true)) s') : Wrap (wpAny (MM w) A (execs (body.drop 14) (envOfC qual scope L fl cd)) Q E s) := by
  constructor
  have e0 := ho
  have e : (KF w).lookup 189 = some ⟨_, _, .func (fnOf _ _ _ _ _ _ _ _ _ _ _ _), _⟩ := rfl
  rw [e] at ho
  injection ho with ho
  injection ho with h1 h2 h3 h4
  injection h3 with h3
  injection h3 with u1 u2 u3 u4 u5 u6 u7 u8 u9 u10 u11 u12 u13 u14
  injection u4 with u4
  subst u2 u4 u5
  clear e u1 u3 u6 u7 u8 u9 u10 u11 u12 u13 u14 h1 h2 h4
  simp only [List.drop_succ_cons, List.drop_zero]
  repeat tb_start
  refine r_sliceL H (by tb_rel) (by tb_rel) (.none) (.int _ _) (by simp) rfl (fun _ => rfl) ?_
  have esp : (slicePick #[Value.ref a0, Value.ref a1, Value.ref a2] none (some 2) none).toList = [a0, a1].map .ref := slicePick_take [.ref a0, .ref a1, .ref a2] 2
  rw [esp]
  clear H esp
  intro l2 s H
  repeat tb_start
  refine c_roots (qs := [a0, a1]) (quads := [q0, q1]) G (hA.le (by omega)) H (by tb_rel) ⟨rfl, ?_⟩ (by simp) ?_ ?_
  · intro i b hb
    match i, hb with
    | 0, hb => cases hb; exact .tail _ (.tail _ (.tail _ m0))
    | 1, hb => cases hb; exact .tail _ (.tail _ (.tail _ m1))
    | n + 2, hb => simp at hb
  · intro q hq
    rcases List.mem_cons.mp hq with rfl | hq
    · obtain ⟨e, m, d, rfl, _, hm, hm', _⟩ := hq0
      exact ⟨e, m, d, rfl, by omega, by omega⟩
    · rw [List.mem_singleton.mp hq]
      obtain ⟨e, m, d, rfl, _, hm, hm', _⟩ := hq1
      exact ⟨e, m, d, rfl, by omega, by omega⟩
  clear H
  intro rl rs RT s hRT H
  have hbd := rootsW_bd hq0 hq1
  have hRl := rootsW_len 2 [q0, q1] rfl
  generalize hR : rootsW [q0, q1] = R at hRT hbd hRl
  obtain ⟨Z2, hZ, mrl, hT, H⟩ : ∃ Z2, (∀ p ∈ Z, p ∈ Z2) ∧ (rl, ListC (rs.map .ref)) ∈ Z2 ∧ Tups rs R Z2 ∧ St s₀ B ((L, LocC [("page", .str (T page) tp), ("chains", .ref ch), ("name", nm)]) :: Z2) s :=
    ⟨_, fun p hp => List.Mem.tail _ (List.mem_append_right _ (List.Mem.tail _ (List.Mem.tail _ hp))), List.Mem.head _, hRT.mono fun p hp => List.Mem.tail _ (List.mem_append_left _ hp), H⟩
  clear hRT
  have hrsl := hT.1
  repeat tb_start
  refine r_compGo (walk_list rl it (rs.map .ref)) hA.hh rfl rfl (fun i vs lo D' => lo = [] ∧ D' = Z2 ∧ ∃ us, vs = us.map .ref ∧ Tups us ((R.take i).filter fun r => decide (0 ≤ r.getD 2 0)) Z2) ?_ (by rw [List.length_map]; omega) ?_ H ⟨rfl, rfl, [], rfl, rfl, fun i a h => by simp at h⟩ ?_ ?_
  · rintro acc i vs lo D' ⟨rfl, rfl, _⟩
    exact .tail _ (.tail _ mrl)
  · rintro i vs lo D' ⟨_, _, us, rfl, hu⟩
    rw [List.length_map, hu.1]
    exact Nat.le_trans (List.length_filter_le _ _) (by rw [List.length_take]; omega)
  · clear H
    rintro C acc i v vs lo D' s E3 hi hv ⟨rfl, rfl, us, rfl, hu⟩ H
    obtain ⟨b, x, side, inner, rfl, hb, hm, hRi, -⟩ := hT.at hbd i v hv
    repeat tb_start
    refine r_itemIT 2 H (by tb_rel) rfl (by simp) (by simp) rfl (fun _ => rfl) fun t => ?_
    have e3 : ([x, side, inner].getD 2 0) = inner := rfl
    rw [e3]
    repeat tb_start
    by_cases c : 0 ≤ inner
    · refine r_iteTC (decide_eq_true c) ?_
      repeat tb_start
      refine compEnd_loc H (by regstrif_slice) (by regstrif_gather) ⟨rfl, rfl, us ++ [b], by simp, ?_⟩
      rw [List.take_add_one, hRi, List.filter_append]
      have e4 : ((some [x, side, inner]).toList.filter fun r : List Int => decide (0 ≤ r.getD 2 0)) = [[x, side, inner]] := by simp [c]
      rw [e4]
      exact hu.snoc' hm
    · refine r_iteFC (decide_eq_false c) ?_
      refine compEnd_loc H (by regstrif_slice) (by regstrif_gather) ⟨rfl, rfl, us, rfl, ?_⟩
      rw [List.take_add_one, hRi, List.filter_append]
      have e4 : ((some [x, side, inner]).toList.filter fun r : List Int => decide (0 ≤ r.getD 2 0)) = [] := by simp [c]
      rw [e4, List.append_nil]
      exact hu
  clear H
  rintro C al vs lo D' s ⟨rfl, rfl, us, rfl, hu⟩ H
  rw [List.length_map, hrsl, List.take_length] at hu
  have hrw : (R.filter fun r => decide (0 ≤ r.getD 2 0)) = realW q0 q1 := by rw [realW, hR]
  rw [hrw] at hu
  repeat tb_start
  refine r_dropL H fun s H => ?_
  have hus : us.length ≤ 4 := by
    rw [hu.1, realW, hR]
    exact Nat.le_trans (List.length_filter_le _ _) hRl
  obtain ⟨Z3, hZ3, mrl3, mal3, hT3, hu3, H⟩ : ∃ Z3, (∀ p ∈ Z, p ∈ Z3) ∧ (rl, ListC (rs.map .ref)) ∈ Z3 ∧ (al, ListC (us.map .ref)) ∈ Z3 ∧ Tups rs R Z3 ∧ Tups us (realW q0 q1) Z3 ∧
      St s₀ B ((L, LocC [("page", .str (T page) tp), ("chains", .ref ch), ("name", nm), ("roots", .ref rl), ("real", .ref al)]) :: Z3) s :=
    ⟨_, fun p hp => List.Mem.tail _ (hZ p hp), List.Mem.tail _ mrl, List.Mem.head _, hT.mono fun p hp => List.Mem.tail _ hp, hu.mono fun p hp => List.Mem.tail _ hp, H⟩
  clear hZ mrl hT hu
  have mch3 := hZ3 _ mch
  have hbdr : ∀ r ∈ realW q0 q1, RootBd r := fun r hr => hbd r (by rw [← hrw] at hr; exact (List.mem_filter.mp hr).1)
  repeat tb_start
  refine r_itemD (k := T [61, 61]) (v := .ref lE) H (.tail _ mch3) (strKind_is _ _ _ _) (by simp [valueAt]) rfl (fun _ => rfl) ?_
  clear H
  intro s H
  repeat tb_start
  refine c_fall G (hA.le (by omega)) H (.tail _ (hZ3 _ mlE)) hE.1 (fun i b hb => .tail _ (hZ3 _ (hE.2 i b hb))) (fun r hr => ?_) (Nat.lt_of_le_of_lt (chainW_len 9 _ _) (by omega)) ?_
  · have := chainOk_rows 9 _ _ hall.c1 r hr
    exact ⟨this.1, this.2.1⟩
  clear H
  intro t s H
  repeat tb_start
  rw [hall.f1]
  refine r_len H (.tail _ mal3) (by rw [List.length_map]; omega) ?_
  clear H
  intro t s H
  rw [List.length_map, hu3.1]
  repeat tb_start
  refine r_execsQ (fun c => ?_) (fun c => ?_)
  · simp at c
  clear c
  repeat tb_start
  refine r_itemD (k := T [60]) (v := .ref lL) H (.tail _ mch3) (strKind_is _ _ _ _) (by have e3 : T [60] ≠ T [61, 61] := (fun e => by have := T_inj.mp e; simp at this); simp [valueAt, Ne.symm e3]) rfl (fun _ => rfl) ?_
  clear H
  intro s H
  repeat tb_start
  refine c_fall G (hA.le (by omega)) H (.tail _ (hZ3 _ mlL)) hL.1 (fun i b hb => .tail _ (hZ3 _ (hL.2 i b hb))) (fun r hr => ?_) (Nat.lt_of_le_of_lt (chainW_len 9 _ _) (by omega)) ?_
  · have := chainOk_rows 9 _ _ hall.c2 r hr
    exact ⟨this.1, this.2.1⟩
  clear H
  intro t s H
  repeat tb_start
  rw [hall.f2]
  obtain ⟨e, m, d, hqe, -⟩ := id hq2
  have m23 := hZ3 _ m2
  rw [hqe] at m23
  have mc3 := hZ3 _ mc
  have mdl3 := hZ3 _ mdl
  have hus3 := hu3.1
  have hqq : isQuad [e, m, d] := hqe ▸ hq2
  refine r_compGo (walk_list al it (us.map .ref)) hA.hh rfl rfl (fun i vs lo D' => lo = [] ∧ D' = Z3 ∧ IntsAre vs (((realW q0 q1).map fun r => signW r q2).take i)) ?_ (by rw [List.length_map]; omega) ?_ H ⟨rfl, rfl, .nil⟩ ?_ ?_
  · rintro acc i vs lo D' ⟨rfl, rfl, _⟩
    exact .tail _ (.tail _ mal3)
  · rintro i vs lo D' ⟨_, _, hu⟩
    rw [hu.length, List.length_take, List.length_map]
    omega
  · clear H
    rintro C acc i v vs lo D' s E3 hi hv ⟨rfl, rfl, hvs⟩ H
    obtain ⟨b, x, side, inner, rfl, hb, hm, hRi, hrb⟩ := hu3.at hbdr i v hv
    repeat tb_start
    refine r_itemL 2 H (by tb_rel) (by omega) (v := .ref a2) rfl (by simp) rfl ?_
    repeat tb_start
    refine c_sign G (hA.le (by omega)) H (by tb_rel) (by tb_rel) (hrb.all hqq) (parts_bd hrb hqq) ?_
    clear H
    intro t s H
    repeat tb_start
    refine compEnd_loc H (by regstrif_slice) (by regstrif_gather) ⟨rfl, rfl, ?_⟩
    rw [List.take_add_one, List.getElem?_map, hRi, hqe]
    rw [hqe] at hvs
    exact IntsAre.append' hvs (.cons _ _ .nil)
  clear H
  rintro C al2 vs lo D' s ⟨rfl, eD, hvs⟩ H
  subst eD
  rw [List.length_map, hus3, List.take_of_length_le (by simp)] at hvs
  refine r_dropL H fun s H => ?_
  have H := H.imp (a := al2) (P' := IntsC ((realW q0 q1).map fun r => signW r q2)) (by none_booked) (fun o ho => ⟨vs, hvs, ho⟩)
  repeat tb_start
  refine r_sum hA.hh H (by tb_rel) ?_
  clear H
  intro t s H
  repeat tb_start
  refine r_execsQ (fun c => ?_) (fun c => ?_)
  · simp at c
  clear c
  repeat tb_start
  have H := H.sub (D' := (L, _) :: (it, _) :: D') (by regstrif_gather)
  refine r_compGo (walk_list rl it (rs.map .ref)) hA.hh rfl rfl (fun i vs lo Z4 => lo = [] ∧ Z4 = D' ∧ ∃ us, vs = us.map .ref ∧ us.length = ((R.take i).filter fun r => !decide (partsW r q2 = [0, 0])).length) ?_ (by rw [List.length_map]; omega) ?_ H ⟨rfl, rfl, [], rfl, rfl⟩ ?_ ?_
  · rintro acc i vs lo Z4 ⟨rfl, rfl, _⟩
    exact .tail _ (.tail _ mrl3)
  · rintro i vs lo Z4 ⟨_, _, us, rfl, hu⟩
    rw [List.length_map, hu]
    exact Nat.le_trans (List.length_filter_le _ _) (by rw [List.length_take]; omega)
  · clear H
    rintro C acc i v vs lo Z4 s E3 hi hv ⟨rfl, eZ, us4, rfl, hu⟩ H
    have eZ := eZ.symm
    subst eZ
    obtain ⟨b, x, side, inner, rfl, hb, hm, hRi, hrb⟩ := hT3.at hbd i v hv
    repeat tb_start
    refine r_itemL 2 H (by tb_rel) (by omega) (v := .ref a2) rfl (by simp) rfl ?_
    repeat tb_start
    refine c_parts G (hA.le (by omega)) H (by tb_rel) (by tb_rel) (hrb.all hqq) ?_
    clear H
    intro r s H
    repeat tb_start
    have H := H.imp (a := l) (P' := ITupC [0, 0]) (by none_booked) (fun o ho => ⟨_, .cons _ _ (.cons _ _ .nil), ho⟩)
    refine r_neITup hA H (by tb_rel) (by tb_rel) ?_
    repeat tb_start
    rw [← hqe]
    by_cases c : partsW [x, side, inner] q2 = [0, 0]
    · have e4 : (!decide (partsW [x, side, inner] q2 = [0, 0])) = false := by rw [decide_eq_true c]; rfl
      refine r_iteFC e4 ?_
      refine compEnd_loc H (by regstrif_slice) (by regstrif_gather) ⟨rfl, rfl, us4, rfl, ?_⟩
      rw [List.take_add_one, hRi, List.filter_append]
      have e5 : ((some [x, side, inner]).toList.filter fun r : List Int => !decide (partsW r q2 = [0, 0])) = [] := by simp [c]
      rw [e5, List.append_nil]
      exact hu
    · have e4 : (!decide (partsW [x, side, inner] q2 = [0, 0])) = true := by rw [decide_eq_false c]; rfl
      refine r_iteTC e4 ?_
      repeat tb_start
      refine compEnd_loc H (by regstrif_slice) (by regstrif_gather) ⟨rfl, rfl, us4 ++ [b], by simp, ?_⟩
      rw [List.take_add_one, hRi, List.filter_append]
      have e5 : ((some [x, side, inner]).toList.filter fun r : List Int => !decide (partsW r q2 = [0, 0])) = [[x, side, inner]] := by simp [c]
      rw [e5, List.length_append, List.length_append, hu]
      rfl
  clear H
  rintro C al4 vs lo Z4 s ⟨rfl, eZ, us4, rfl, hu⟩ H
  have eZ := eZ.symm
  subst eZ
  rw [List.length_map, hrsl, List.take_length] at hu
  have hal : (R.filter fun r => !decide (partsW r q2 = [0, 0])) = aliveW q0 q1 q2 := by rw [aliveW, hR]
  rw [hal] at hu
  repeat tb_start
  refine r_dropL H fun s H => ?_
  obtain ⟨b1, hb1, mb1, hr1⟩ := hE.last (chainW_ne _ _ _)
  obtain ⟨b2, hb2, mb2, hr2⟩ := hL.last (chainW_ne _ _ _)
  have hl1 := hall.l1
  have hl2 := hall.l2
  rw [hR] at hl1
  rw [← hu] at hl2
  have hus4 : us4.length ≤ 4 := by
    rw [hu, aliveW, hR]
    exact Nat.le_trans (List.length_filter_le _ _) hRl
  obtain ⟨key⟩ := c_lawJ (fl := fl) (Q := Q) (cd := cd) (Z := (al4, ListC (us4.map .ref)) :: D') G hA e0 (.tail _ (hZ3 _ mtab)) (.tail _ (hZ3 _ mx)) (.tail _ (hZ3 _ hx)) (.tail _ (hZ3 _ hd)) (.tail _ mrl3) (.head _) (.tail _ mch3) (.tail _ (hZ3 _ mlE)) (.tail _ (hZ3 _ mlL)) hb1 hb2 (.tail _ (hZ3 _ mb1)) (.tail _ (hZ3 _ mb2))
    (by rw [hE.1]; exact chainW_len 9 _ _) (by rw [hL.1]; exact chainW_len 9 _ _) (chainOk_rows 9 _ _ hall.c1 _ hr1).2.1 (chainOk_rows 9 _ _ hall.c2 _ hr2).2.1 (by omega) hus4 (by rw [hrsl]; exact hl1) hl2 H h
  simp only [List.drop_succ_cons, List.drop_zero] at key
  exact key
end
end
section
section
variable {w : World} {A : Around} {E : Value → Shared → Prop} {s₀ s : Shared} {B : Heap} {D D' : Led} {F : Addr × Cell} {a l : Addr} {env : Env}
theorem r_dictEnd2 {w : World} {s₀ s : Shared} {B : Heap} {D : Led} {F : Addr × Cell} {P1 P2 : Cell} {ch a1 a2 : Addr} {x y : Str} {t1 t2 : Tok} {Q : Value → Shared → Prop} (H : St s₀ B (F :: (a2, P2) :: (a1, P1) :: (ch, DictC (strKind PR w) []) :: D) s) (hxy : x ≠ y)
    (h : ∀ s', St s₀ B (F :: (a2, P2) :: (a1, P1) :: (ch, DictC (strKind PR w) [(x, .ref a1), (y, .ref a2)]) :: D) s' → Q (.ref ch) s') : DictEnd w (strKind PR w) s₀ B ch Q [(.str x t1, .ref a1), (.str y t2, .ref a2)] s :=
  ⟨[(x, .ref a1), (y, .ref a2)], _, _, H, .there (.there (.there .here)), carries_strPairs _ _ _ rfl, by simp [hxy], h⟩
set_option maxHeartbeats 16000000 in
theorem c_lawF {a : LA} {L dl a0 a1 a2 pl sl secl : Addr} {X : Led} {page : List Nat} {pos : Nat} {ln : Int} {tp lt ta tb : Tok} {q0 q1 q2 : List Int} {lp : Option Value} {name qual : Str} {params : Arguments} {body : List Stmt} {scope : Scope} {dV kV doc pm cd cdv ct oc : Value} {ps0 : Array Value} {an od : Option Addr} {osl : Array (Option Value)} {fl : Addr} {Q : Flow → Shared → Prop}
    (G : Base w B) (hA : Ok A 9) (ho : (KF w).lookup 189 = some ⟨oc, od, .func (fnOf name qual params body scope dV kV doc pm an cdv ct), osl⟩)
    (hall : LawOk q0 q1 q2) (hq0 : isQuad q0) (hq1 : isQuad q1) (hq2 : isQuad q2) (hpos : pos ≤ page.length) (hrd : rdO (page.drop pos) = ([], [])) (hN : ln + ((page.drop pos).count 10 : Int) = 1 + (page.count 10 : Int)) (LO : LexOk w B a page X)
    (mtab : (124, TabC ps0) ∈ X) (mdl : (dl, ListC [.ref a0, .ref a1, .ref a2]) ∈ X) (m0 : (a0, ITupC q0) ∈ X) (m1 : (a1, ITupC q1) ∈ X) (m2 : (a2, ITupC q2) ∈ X)
    (mp : (pl, IntsC (pW q0 q1)) ∈ X) (msl : (sl, IntsC (slopeW (pW q0 q1))) ∈ X) (mse : (secl, IntsC (secW q0 q1 q2)) ∈ X)
    (H : St s₀ B ((L, LocC [("page", .str (T page) tp)]) :: a.var ln lt pos [.str (T [61, 61]) ta, .ref pl, .ref sl, .str (T [60]) tb, .ref pl, .ref secl] ++ ((L + 1, CellC (some (.ref dl))) :: (L + 1 + 1, CellC (some (.ref a.x))) :: (L + 1 + 1 + 1, CellC lp) :: X)) s)
    (h : ∀ s' D ps, St s₀ B D s' → (124, TabC ps) ∈ D → Q (.ret (.bool true)) s') : Wrap (wpAny (MM w) A (execs (body.drop 11) (envOfC qual scope L fl cd)) Q E s) := by
  constructor
  have e0 := ho
  have e : (KF w).lookup 189 = some ⟨_, _, .func (fnOf _ _ _ _ _ _ _ _ _ _ _ _), _⟩ := rfl
  rw [e] at ho
  injection ho with ho
  injection ho with h1 h2 h3 h4
  injection h3 with h3
  injection h3 with u1 u2 u3 u4 u5 u6 u7 u8 u9 u10 u11 u12 u13 u14
  injection u4 with u4
  subst u2 u4 u5
  clear e u1 u3 u6 u7 u8 u9 u10 u11 u12 u13 u14 h1 h2 h4
  simp only [List.drop_succ_cons, List.drop_zero]
  repeat tb_start
  with_reducible refine' r_dict (strKind PR w) H ?hall ?hl ?h0 ?hlen ?hdd
  case hall => exact rfl
  case hl => exact rfl
  case h0 => intro e; cases e
  case hlen => decide
  clear H
  intro ch s H
  repeat tb_start
  refine r_dictEnd2 (x := T [61, 61]) (y := T [60]) H (fun e => by have := T_inj.mp e; simp at this) ?_
  clear H
  intro s H
  obtain ⟨lE, lL, H⟩ : ∃ lE lL, St s₀ B ((L, LocC [("page", .str (T page) tp)]) :: (lL, ListC []) :: (lE, ListC []) :: (ch, DictC (strKind PR w) [(T [61, 61], .ref lE), (T [60], .ref lL)]) :: (a.var ln lt pos [.str (T [61, 61]) ta, .ref pl, .ref sl, .str (T [60]) tb, .ref pl, .ref secl] ++
    ((L + 1, CellC (some (.ref dl))) :: (L + 1 + 1, CellC (some (.ref a.x))) :: (L + 1 + 1 + 1, CellC lp) :: X))) s := ⟨_, _, H⟩
  let Y : Led := (L + 1, CellC (some (.ref dl))) :: (L + 1 + 1, CellC (some (.ref a.x))) :: (L + 1 + 1 + 1, CellC lp) :: X
  have LOY : LexOk w B a page Y := LO.mono fun p hp => .tail _ (.tail _ (.tail _ hp))
  let KV : List (Str × Value) := [(T [61, 61], .ref lE), (T [60], .ref lL)]
  let PP (as : Bool → List Addr) (T' : Led) : Led := (lL, ListC ((as false).map .ref)) :: (lE, ListC ((as true).map .ref)) :: (ch, DictC (strKind PR w) KV) :: T'
  let Fin : Bool → List (List Int) := fun b => if b then chainW 9 (pW q0 q1) (slopeW (pW q0 q1)) else chainW 9 (pW q0 q1) (secW q0 q1 q2)
  have hF : ∀ b, (Fin b).length ≤ 10 := by
    intro b; cases b
    · exact chainW_len 9 _ _
    · exact chainW_len 9 _ _
  let State (n : Nat) (s' : Shared) : Prop := ∃ (ord : List Bool) (cs : Bool → List (List Int)) (as : Bool → List Addr) (pn : Bool → Nat) (pf ps : Bool → List Int) (fa sa : Bool → Addr) (tk : Bool → Tok) (T' : Led) (nm : List Nat) (tn : Tok) (ln : Int) (lt : Tok) (pos : Nat) (vs : List Value),
    QInv X Fin ord cs as pn pf ps fa sa T' ∧ n = meas ord ps ∧ (match (motive := List Bool → Prop) ord with
      | [] => nm = [] ∧ vs = [] ∧ ln = 1 + (page.count 10 : Int)
      | b :: rest => nm = nmT b ∧ tn = tk b ∧ vs = .ref (fa b) :: .ref (sa b) :: rest.flatMap (trip fa sa tk) ∧ pos ≤ page.length ∧ rdO (page.drop pos) = ([], []) ∧ ln + ((page.drop pos).count 10 : Int) = 1 + (page.count 10 : Int)) ∧
    St s₀ B ((L, LocC [("page", .str (T page) tp), ("chains", .ref ch), ("name", .str (T nm) tn)]) :: (PP as T' ++ (a.var ln lt pos vs ++ Y))) s'
  have hmd : ∀ {F : Addr × Cell} {P : Led} {ln : Int} {lt : Tok} {pos : Nat} {vs : List Value}, (a.dx, NsL (lexNs ln lt a.tw a.stream a.pb)) ∈ F :: (P ++ (a.var ln lt pos vs ++ Y)) := .tail _ (List.mem_append_right _ (.head _))
  have hmx : ∀ {F : Addr × Cell} {P V : Led}, (a.x, InstC 101 a.dx) ∈ F :: (P ++ (V ++ Y)) := .tail _ (List.mem_append_right _ (List.mem_append_right _ LOY.hx))
  have mlx : (L + 1 + 1, CellC (some (.ref a.x))) ∈ Y := .tail _ (.head _)
  have H : St s₀ B ((L, LocC [("page", .str (T page) tp)]) :: (PP (fun _ => []) [] ++ (a.var ln lt pos [.str (T [61, 61]) ta, .ref pl, .ref sl, .str (T [60]) tb, .ref pl, .ref secl] ++ Y))) s := H
  repeat tb_start
  refine r_method (dx := a.dx) (lo := lexNs ln lt a.tw a.stream a.pb) G H hmx hmd rfl rfl rfl rfl rfl ?_
  repeat tb_start
  refine c_pop G (hA.le (by omega)) (LOY.mono fun p hp => List.mem_append_right _ hp) (by simp) (St.mid (P := (PP (fun _ => []) [])) (V := a.var ln lt pos [.str (T [61, 61]) ta, .ref pl, .ref sl, .str (T [60]) tb, .ref pl, .ref secl]) (Y := Y) H) ?_
  clear H
  intro s H
  have H := H.unmid
  tb_start
  have H := loc_mono (l' := [("page", .str (T page) tp), ("chains", .ref ch), ("name", .str (T [61, 61]) ta)]) H (by regstrif_slice)
  have hinit : State (meas [true, false] (fun b => if b then slopeW (pW q0 q1) else secW q0 q1 q2)) s := by
    refine ⟨[true, false], fun _ => [], fun _ => [], fun _ => 9, fun _ => pW q0 q1, fun b => if b then slopeW (pW q0 q1) else secW q0 q1 q2, fun _ => pl, fun b => if b then sl else secl, fun b => if b then ta else tb, [], [61, 61], ta, ln, lt, pos, _, ⟨by decide, ?_, ?_, ?_⟩, rfl, ⟨rfl, rfl, rfl, hpos, hrd, hN⟩, H⟩
    · intro b _
      cases b
      · exact ⟨rfl, hall.c2, mp, mse⟩
      · exact ⟨rfl, hall.c1, mp, msl⟩
    · intro b hb; cases b <;> simp at hb
    · intro b; exact Lists.nil
  clear H
  refine r_while State ?_ _ hinit
  clear hinit
  rintro n s ⟨ord, cs, as, pn, pf, ps, fa, sa, tk, T', nm, tn, ln, lt, pos, vs, hq, rfl, hst, H⟩ E'
  repeat tb_start
  cases ord with
  | nil =>
    obtain ⟨rfl, rfl, rfl⟩ := hst
    have e1 : (!decide (([] : List Nat) = [])) = false := by decide
    refine r_iteFC e1 ?_
    have hTX : ∀ p ∈ T' ++ X, p ∈ PP as T' ++ (a.var (1 + (page.count 10 : Int)) lt pos [] ++ Y) := by
      intro p hp
      rcases List.mem_append.mp hp with hp | hp
      · exact List.mem_append_left _ (.tail _ (.tail _ (.tail _ hp)))
      · exact List.mem_append_right _ (List.mem_append_right _ (.tail _ (.tail _ (.tail _ hp))))
    have hYX : ∀ p ∈ X, p ∈ PP as T' ++ (a.var (1 + (page.count 10 : Int)) lt pos [] ++ Y) := fun p hp => hTX p (List.mem_append_right _ hp)
    have hYY : ∀ p ∈ Y, p ∈ PP as T' ++ (a.var (1 + (page.count 10 : Int)) lt pos [] ++ Y) := fun p hp => List.mem_append_right _ (List.mem_append_right _ hp)
    have hE := (hq.lists true).mono hTX
    have hL := (hq.lists false).mono hTX
    rw [hq.fin true (by simp)] at hE
    rw [hq.fin false (by simp)] at hL
    obtain ⟨key⟩ := c_lawI (as := as) (a := a) (pos := 0) (tn := tp) (fl := fl) (cd := cd) (Q := Q) (E := E) (Z := PP as T' ++ (a.var (1 + (page.count 10 : Int)) lt pos [] ++ Y)) G hA e0 hall hq0 hq1 hq2
      (hYX _ mtab) (hYY _ (.head _)) (hYY _ mlx) (hYY _ LOY.hx) (List.mem_append_right _ (.head _)) (hYX _ mdl) (hYX _ m0) (hYX _ m1) (hYX _ m2)
      (List.mem_append_left _ (.tail _ (.tail _ (.head _)))) (List.mem_append_left _ (.tail _ (.head _))) (List.mem_append_left _ (.head _)) hE hL H h
    simp only [List.drop_succ_cons, List.drop_zero] at key
    exact key
  | cons b rest =>
    obtain ⟨rfl, rfl, rfl, hpos, hrd, hN⟩ := hst
    have e1 : (!decide (nmT b = [])) = true := by cases b <;> decide
    refine r_iteTC e1 ?_
    obtain ⟨-, hok, hfa, hsa⟩ := hq.pend b (List.mem_cons_self ..)
    have hol := ord_len hq
    have hrl : rest.length ≤ 1 := by simp at hol; omega
    have hfl : (rest.flatMap (trip fa sa tk)).length ≤ 3 := by rw [flat_len]; omega
    have hal := hq.len hF b
    have hTX : ∀ {F : Addr × Cell} {as' : Bool → List Addr} {T2 : Led} {vs : List Value}, ∀ p ∈ T2 ++ X, p ∈ F :: (PP as' T2 ++ (a.var ln lt pos vs ++ Y)) := by
      intro F as' T2 vs p hp
      rcases List.mem_append.mp hp with hp | hp
      · exact .tail _ (List.mem_append_left _ (.tail _ (.tail _ (.tail _ hp))))
      · exact .tail _ (List.mem_append_right _ (List.mem_append_right _ (.tail _ (.tail _ (.tail _ hp)))))
    repeat tb_start
    refine r_method (dx := a.dx) (lo := lexNs ln lt a.tw a.stream a.pb) G H hmx hmd rfl rfl rfl rfl rfl ?_
    repeat tb_start
    refine c_pop G (hA.le (by omega)) (LOY.mono fun p hp => List.mem_append_right _ hp) (by simp only [List.length_cons]; omega) (St.mid (P := PP as T') (V := a.var ln lt pos _) (Y := Y) H) ?_
    clear H
    intro s H
    have H := H.unmid
    repeat tb_start
    refine r_method (dx := a.dx) (lo := lexNs ln lt a.tw a.stream a.pb) G H hmx hmd rfl rfl rfl rfl rfl ?_
    repeat tb_start
    refine c_pop G (hA.le (by omega)) (LOY.mono fun p hp => List.mem_append_right _ hp) (by omega) (St.mid (P := PP as T') (V := a.var ln lt pos _) (Y := Y) H) ?_
    clear H
    intro s H
    have H := H.unmid
    repeat tb_start
    have mch : ∀ {F : Addr × Cell} {as' : Bool → List Addr} {T2 V : Led}, (ch, DictC (strKind PR w) KV) ∈ F :: (PP as' T2 ++ V) := .tail _ (.tail _ (.tail _ (.head _)))
    refine r_itemD (k := T (nmT b)) (v := .ref (if b then lE else lL)) H mch (strKind_is _ _ _ _) ?hval rfl (fun _ => rfl) ?_
    case hval =>
      have e3 : T [60] ≠ T [61, 61] := fun e => by have := T_inj.mp e; simp at this
      cases b <;> simp [valueAt, KV, nmT, Ne.symm e3]
    clear H
    intro s H
    have mbl : ∀ {F : Addr × Cell} {V : Led}, (if b then lE else lL, ListC ((as b).map .ref)) ∈ F :: (PP as T' ++ V) := by
      intro F V
      cases b
      · exact .tail _ (.head _)
      · exact .tail _ (.tail _ (.head _))
    have U : ∀ {F : Addr × Cell} {V : Led}, Upd (if b then lE else lL) (ListC ((as b).map .ref)) (ListC ((as b).map .ref ++ [.ref (fa b)])) (F :: (PP as T' ++ V)) (F :: (PP (upB as b (as b ++ [fa b])) T' ++ V)) := by
      intro F V
      have e : (as b).map Value.ref ++ [.ref (fa b)] = (as b ++ [fa b]).map .ref := by simp
      rw [e]
      cases b
      · exact .there .here
      · exact .there (.there .here)
    refine r_listMethod H mbl PySem.F.slot_list_append PySem.F.type_list_append ?_
    repeat tb_start
    refine r_append H U (by rw [sizeLine_eq, List.length_map]; omega) ?_
    clear H mbl U
    intro s H
    refine ⟨rfl, ?_⟩
    repeat tb_start
    refine r_neNil hA H (.tail _ (hTX _ hsa)) (.tail _ (.head _)) ?_
    tb_start
    let Mid (s' : Shared) : Prop := ∃ (ord' : List Bool) (cs' : Bool → List (List Int)) (as' : Bool → List Addr) (pn' : Bool → Nat) (pf' ps' : Bool → List Int) (fa' sa' : Bool → Addr) (T2 : Led),
      QInv X Fin ord' cs' as' pn' pf' ps' fa' sa' T2 ∧ meas ord' ps' < meas (b :: rest) ps ∧ St s₀ B ((L, LocC [("page", .str (T page) tp), ("chains", .ref ch), ("name", .str (T (nmT b)) (tk b))]) :: (PP as' T2 ++ (a.var ln lt pos (ord'.flatMap (trip fa' sa' tk)) ++ Y))) s'
    refine r_mid (fun f s' => f = .next ∧ Mid s') ?_ ?_
    · refine r_execsQ (fun c => ?_) (fun c => ?_)
      · have hs : ps b ≠ [] := by simpa using c
        obtain ⟨m, hm⟩ : ∃ m, pn b = m + 1 := by
          cases hn : pn b with
          | zero => rw [hn] at hok; exact absurd hok.2 hs
          | succ m => exact ⟨m, rfl⟩
        rw [hm] at hok
        obtain ⟨hr1, hr2⟩ := hok
        obtain ⟨hr2, hgap, hok⟩ := hr2.resolve_left hs
        obtain ⟨nl, H⟩ : ∃ nl, St s₀ B ((L, LocC [("page", .str (T page) tp), ("chains", .ref ch), ("name", .str (T (nmT b)) (tk b)), ("first", .ref (fa b)), ("second", .ref (sa b))]) :: (((nl, ListC []) :: PP (upB as b (as b ++ [fa b])) T') ++ (a.var ln lt pos (rest.flatMap (trip fa sa tk)) ++ Y))) s := ⟨_, H⟩
        have hmd : ∀ {F1 F : Addr × Cell} {P : Led} {ln : Int} {lt : Tok} {pos : Nat} {vs : List Value}, (a.dx, NsL (lexNs ln lt a.tw a.stream a.pb)) ∈ F1 :: ((F :: P) ++ (a.var ln lt pos vs ++ Y)) := .tail _ (.tail _ (List.mem_append_right _ (.head _)))
        have hmx : ∀ {F1 F : Addr × Cell} {P V : Led}, (a.x, InstC 101 a.dx) ∈ F1 :: ((F :: P) ++ (V ++ Y)) := .tail _ (.tail _ (List.mem_append_right _ (List.mem_append_right _ LOY.hx)))
        repeat tb_start
        refine r_method (dx := a.dx) (lo := lexNs ln lt a.tw a.stream a.pb) G H hmx hmd rfl rfl rfl rfl rfl ?_
        repeat tb_start
        refine c_push G (hA.le (by omega)) (LOY.mono fun p hp => List.mem_append_right _ hp) (by omega) (St.mid (P := (nl, ListC []) :: PP (upB as b (as b ++ [fa b])) T') (V := a.var ln lt pos _) (Y := Y) H) ?_
        clear H
        intro s H
        have H := H.unmid
        refine ⟨rfl, ?_⟩
        repeat tb_start
        refine r_method (dx := a.dx) (lo := lexNs ln lt a.tw a.stream a.pb) G H hmx hmd rfl rfl rfl rfl rfl ?_
        repeat tb_start
        refine c_push G (hA.le (by omega)) (LOY.mono fun p hp => List.mem_append_right _ hp) (by rw [List.length_append]; simp only [List.length_cons, List.length_nil]; omega) (St.mid (P := (nl, ListC []) :: PP (upB as b (as b ++ [fa b])) T') (V := a.var ln lt pos _) (Y := Y) H) ?_
        clear H
        intro s H
        have H := H.unmid
        refine ⟨rfl, ?_⟩
        repeat tb_start
        refine r_method (dx := a.dx) (lo := lexNs ln lt a.tw a.stream a.pb) G H hmx hmd rfl rfl rfl rfl rfl ?_
        repeat tb_start
        refine c_rest G (hA.le (by omega)) H (.tail _ (hTX _ hfa)) (.tail _ (hTX _ hsa)) hr2.1 hr1.2.1 hr2.2.1 hr2.2.2 hgap ?_
        clear H
        intro r0 s H
        have hlen := restW_lt (pf b) (ps b) hr2.1
        have hr21 := hr2.2.1
        generalize hR : restW (pf b) (ps b) = R at H hlen
        repeat tb_start
        have H : St s₀ B ((L, LocC [("page", .str (T page) tp), ("chains", .ref ch), ("name", .str (T (nmT b)) (tk b)), ("first", .ref (fa b)), ("second", .ref (sa b))]) :: (it, IterL r0 0) :: (r0, IntsC R) :: (((nl, ListC []) :: PP (upB as b (as b ++ [fa b])) T') ++ (a.var ln lt pos (rest.flatMap (trip fa sa tk) ++ [.str (T (nmT b)) (tk b)] ++ [.ref (sa b)]) ++ Y))) s := H
        refine r_compGo (walk_listI r0 it R) hA.hh rfl rfl (fun i vs lo D' => lo = [] ∧ (D' = (r0, IntsC R) :: (((nl, ListC []) :: PP (upB as b (as b ++ [fa b])) T') ++ (a.var ln lt pos (rest.flatMap (trip fa sa tk) ++ [.str (T (nmT b)) (tk b)] ++ [.ref (sa b)]) ++ Y))) ∧ IntsAre vs ((R.take i).map fun x => -x)) ?_ (by omega) ?_ H ⟨rfl, rfl, .nil⟩ ?_ ?_
        · rintro acc i vs lo D' ⟨rfl, rfl, _⟩
          tb_rel
        · rintro i vs lo D' ⟨_, _, hi⟩
          rw [hi.length, List.length_map, List.length_take]
          omega
        · clear H
          rintro C acc i v vs lo D' s E3 hi ⟨tv, rfl⟩ ⟨rfl, rfl, hvs⟩ H
          repeat tb_start
          refine c_neg G (hA.le (by omega)) H ?_
          clear H
          intro t s H
          refine compEnd_loc H (by regstrif_slice) (by regstrif_gather) ⟨rfl, rfl, ?_⟩
          rw [List.take_add_one, getElem?_getD hi, List.map_append]
          exact IntsAre.append' hvs (.cons _ _ .nil)
        · clear H
          rintro C acc vs lo D' s ⟨rfl, rfl, hvs⟩ H
          rw [List.take_length] at hvs
          refine r_dropL H fun s H => ?_
          have H := H.imp (a := acc) (P' := IntsC (negL R)) (by none_booked) (fun o ho => ⟨vs, hvs, ho⟩)
          repeat tb_start
          refine c_push G (hA.le (by omega)) (LOY.mono fun p hp => List.mem_append_right _ hp) (by rw [List.length_append, List.length_append]; simp only [List.length_cons, List.length_nil]; omega) (St.mid (P := (acc, IntsC (negL R)) :: (r0, IntsC R) :: (nl, ListC []) :: PP (upB as b (as b ++ [fa b])) T') (V := a.var ln lt pos _) (Y := Y) H) ?_
          clear H
          intro s H
          have H := H.unmid
          refine ⟨rfl, ?_⟩
          repeat tb_start
          have hbr := (List.nodup_cons.mp hq.nd).1
          have hfm : (rest ++ [b]).flatMap (trip (upB fa b (sa b)) (upB sa b acc) tk) = rest.flatMap (trip fa sa tk) ++ [.str (T (nmT b)) (tk b)] ++ [.ref (sa b)] ++ [.ref acc] := by
            rw [List.flatMap_append, flat_upd tk _ _ hbr, List.flatMap_cons, List.flatMap_nil]
            unfold trip
            rw [upB_same, upB_same]
            simp
          have hq' := hq.step1 hs acc
          have hlt := meas_lt1 hq hs
          rw [hR] at hq' hlt
          refine ⟨rfl, rest ++ [b], _, _, _, _, _, _, _, _, hq', hlt, ?_⟩
          rw [hfm]
          have H := (loc_mono (l' := [("page", .str (T page) tp), ("chains", .ref ch), ("name", .str (T (nmT b)) (tk b))]) H (by regstrif_slice)).sub (D' := (L, LocC _) :: (acc, IntsC (negL R)) :: (PP (upB as b (as b ++ [fa b])) T' ++ (a.var ln lt pos _ ++ Y))) (.cons_cons _ (.cons_cons _ (.cons _ (.cons _ (.refl _)))))
          exact H.perm (.cons _ (List.perm_middle (l₁ := [_, _, _])).symm)
      · have hs : ps b = [] := by simpa using c
        repeat tb_start
        refine ⟨rfl, rest, _, _, pn, pf, ps, fa, sa, T', hq.step0 hs, meas_lt0, ?_⟩
        exact (loc_mono H (by regstrif_slice)).sub (.cons_cons _ (.cons _ (.refl _)))
    · rintro f s ⟨rfl, ord', cs', as', pn', pf', ps', fa', sa', T2, hq', hlt, H⟩
      repeat tb_start
      refine r_method (dx := a.dx) (lo := lexNs ln lt a.tw a.stream a.pb) G H hmx hmd rfl rfl rfl rfl rfl ?_
      repeat tb_start
      cases ord' with
      | nil =>
        refine c_token (N := 1 + (page.count 10 : Int)) G (hA.le (by omega)) (LOY.mono fun p hp => List.mem_append_right _ hp) (St.mid (P := PP as' T2) (V := a.var ln lt pos _) (Y := Y) H) hpos hN ?_
        clear H
        intro t ln' lt' pos' s hpos' hd' hN' H
        have H := H.unmid
        rw [hrd] at hd' ⊢
        rw [hd'] at hN'
        repeat tb_start
        refine ⟨_, hlt, [], cs', as', pn', pf', ps', fa', sa', tk, T2, [], _, ln', lt', pos', [], hq', rfl, ⟨rfl, rfl, ?_⟩, H⟩
        simpa using hN'
      | cons b' rest' =>
        refine c_pop G (hA.le (by omega)) (LOY.mono fun p hp => List.mem_append_right _ hp) (by have := ord_len hq'; show List.length (_ :: _ :: rest'.flatMap (trip fa' sa' tk)) ≤ 1000; simp only [List.length_cons] at this ⊢; rw [flat_len]; omega) (St.mid (P := PP as' T2) (V := a.var ln lt pos (.str (T (nmT b')) (tk b') :: .ref (fa' b') :: .ref (sa' b') :: rest'.flatMap (trip fa' sa' tk))) (Y := Y) H) ?_
        clear H
        intro s H
        have H := H.unmid
        repeat tb_start
        exact ⟨_, hlt, b' :: rest', cs', as', pn', pf', ps', fa', sa', tk, T2, _, _, ln, lt, pos, _, hq', rfl, ⟨rfl, rfl, rfl, hpos, hrd, hN⟩, H⟩
end
end
section
section
variable {w : World} {A : Around} {E : Value → Shared → Prop} {s₀ s : Shared} {B : Heap} {D D' : Led} {F : Addr × Cell} {a l : Addr} {env : Env}
theorem rowW_bd {q : List Int} (hq : isQuad q) : ∃ x y z, rowW q = [x, y, z] ∧ (-16 < x ∧ x < 16) ∧ (-16 < y ∧ y < 16) ∧ (-16 < z ∧ z < 16) := by
  obtain ⟨e, m, d, rfl, he, h1, h2, h3, h4⟩ := hq
  refine ⟨_, _, _, rfl, ?_⟩
  have hm : m = -1 ∨ m = 0 ∨ m = 1 := by omega
  show (-16 < e ∧ e < 16) ∧ (-16 < -2 * e * m ∧ -2 * e * m < 16) ∧ (-16 < e * (m * m - d) ∧ e * (m * m - d) < 16)
  rcases he with rfl | rfl <;> rcases hm with rfl | rfl | rfl <;> omega
theorem prodW_len (one two : List Int) : (prodW one two).length = one.length + two.length - 1 := by
  unfold prodW; rw [out_len, List.length_replicate]
set_option maxHeartbeats 16000000 in
theorem c_lawE {a : LA} {L dl a0 a1 a2 tl b0 b1 b2 : Addr} {X : Led} {page : List Nat} {pos : Nat} {ln : Int} {tp lt : Tok} {q0 q1 q2 : List Int} {name qual : Str} {params : Arguments} {body : List Stmt} {scope : Scope} {dV kV doc pm cd cdv ct oc : Value} {ps0 : Array Value} {an od : Option Addr} {osl : Array (Option Value)} {fl : Addr} {Q : Flow → Shared → Prop}
    (G : Base w B) (hA : Ok A 9) (ho : (KF w).lookup 189 = some ⟨oc, od, .func (fnOf name qual params body scope dV kV doc pm an cdv ct), osl⟩)
    (hall : LawOk q0 q1 q2) (hq0 : isQuad q0) (hq1 : isQuad q1) (hq2 : isQuad q2) (hpos : pos ≤ page.length) (hrd : rdO (page.drop pos) = ([], [])) (hN : ln + ((page.drop pos).count 10 : Int) = 1 + (page.count 10 : Int)) (LO : LexOk w B a page X)
    (mtab : (124, TabC ps0) ∈ X) (mdl : (dl, ListC [.ref a0, .ref a1, .ref a2]) ∈ X) (m0 : (a0, ITupC q0) ∈ X) (m1 : (a1, ITupC q1) ∈ X) (m2 : (a2, ITupC q2) ∈ X)
    (mtl : (tl, ListC [.ref b0, .ref b1, .ref b2]) ∈ X) (k0 : (b0, IntsC (rowW q0)) ∈ X) (k1 : (b1, IntsC (rowW q1)) ∈ X) (k2 : (b2, IntsC (rowW q2)) ∈ X)
    (H : St s₀ B ((L, LocC [("page", .str (T page) tp), ("told", .ref tl)]) :: a.var ln lt pos [] ++ ((L + 1, CellC (some (.ref dl))) :: (L + 1 + 1, CellC (some (.ref a.x))) :: (L + 1 + 1 + 1, CellC none) :: X)) s)
    (h : ∀ s' D ps, St s₀ B D s' → (124, TabC ps) ∈ D → Q (.ret (.bool true)) s') : wpAny (MM w) A (execs (body.drop 7) (envOfC qual scope L fl cd)) Q E s := by
  have e0 := ho
  have e : (KF w).lookup 189 = some ⟨_, _, .func (fnOf _ _ _ _ _ _ _ _ _ _ _ _), _⟩ := rfl
  rw [e] at ho
  injection ho with ho
  injection ho with h1 h2 h3 h4
  injection h3 with h3
  injection h3 with u1 u2 u3 u4 u5 u6 u7 u8 u9 u10 u11 u12 u13 u14
  injection u4 with u4
  subst u2 u4 u5
  clear e u1 u3 u6 u7 u8 u9 u10 u11 u12 u13 u14 h1 h2 h4
  simp only [List.drop_succ_cons, List.drop_zero]
  obtain ⟨x00, y00, z00, hr0, bx0, by0, bz0⟩ := rowW_bd hq0
  obtain ⟨x01, y01, z01, hr1, bx1, by1, bz1⟩ := rowW_bd hq1
  obtain ⟨x02, y02, z02, hr2, bx2, by2, bz2⟩ := rowW_bd hq2
  have hpl : (pW q0 q1).length = 5 := by rw [pW, prodW_len, hr0, hr1]; rfl
  have H : St s₀ B ((L, LocC [("page", .str (T page) tp), ("told", .ref tl)]) :: (a.dx, NsL (lexNs ln lt a.tw a.stream a.pb)) :: (a.at_, IntsC [(pos : Int)]) :: (a.pb, ListC []) :: (L + 1, CellC (some (.ref dl))) :: (L + 1 + 1, CellC (some (.ref a.x))) :: (L + 1 + 1 + 1, CellC none) :: X) s := H
  repeat tb_start
  refine r_itemL 0 H (by tb_rel) (by omega) (v := .ref b0) rfl (by simp) rfl ?_
  repeat tb_start
  refine r_itemL 1 H (by tb_rel) (by omega) (v := .ref b1) rfl (by simp) rfl ?_
  repeat tb_start
  refine c_product G (hA.le (by omega)) H (by tb_rel) (by tb_rel) (by rw [hr0]; simp) (by rw [hr1]; simp) (by rw [hr0]; simp) (by rw [hr1]; simp) (by rw [hr0]; intro x hx; simp only [List.mem_cons, List.not_mem_nil, or_false] at hx; omega) ?_
  clear H
  intro pl s H
  have epW : prodW (rowW q0) (rowW q1) = pW q0 q1 := rfl
  rw [epW] at H
  repeat tb_start
  refine r_iterRange (n := 5) H (by tb_rel) (by decide) (by omega) (by omega) (by omega) (by omega) ?_
  clear H
  intro it s H
  let X1 : Led := (pl, IntsC (pW q0 q1)) :: (a.dx, NsL (lexNs ln lt a.tw a.stream a.pb)) :: (a.at_, IntsC [(pos : Int)]) :: (a.pb, ListC []) :: (L + 1, CellC (some (.ref dl))) :: (L + 1 + 1, CellC (some (.ref a.x))) :: (L + 1 + 1 + 1, CellC (some (.ref pl))) :: X
  have H := H.sub (D' := (L, _) :: (it, _) :: X1) (by regstrif_gather)
  refine r_compGo (walk_range it 0 5) hA.hh rfl rfl (fun k vs lo D' => lo = [] ∧ IntsAre vs ((slope5 (pW q0 q1)).take k) ∧ D' = X1) ?_ (by omega) ?_ H ⟨rfl, .nil, rfl⟩ ?_ ?_
  · rintro acc k vs lo D' _
    trivial
  · rintro k vs lo D' ⟨_, hv, _⟩
    rw [hv.length, List.length_take]
    omega
  · clear H
    rintro C acc k v vs lo D' s E3 hk ⟨tv, rfl⟩ ⟨rfl, hv, rfl⟩ H
    have hb := hall.pOk.2.2.getD k
    repeat tb_start
    refine r_itemN k H (by tb_rel) (by omega) (by omega) (by omega) rfl fun t => ?_
    repeat tb_start
    refine compEnd_loc H (by regstrif_slice) (by regstrif_gather) ⟨rfl, ?_, rfl⟩
    have e1 : (slope5 (pW q0 q1))[k]? = some ((pW q0 q1).getD k 0 * (4 - (0 + (k : Int)))) := by
      unfold slope5
      rw [List.getElem?_map, List.getElem?_range hk, Int.zero_add]; rfl
    rw [List.take_add_one, e1]
    exact IntsAre.append' hv (.cons _ _ .nil)
  · clear H
    rintro C sl vs lo D' s ⟨rfl, hv, rfl⟩ H
    have e2 : (slope5 (pW q0 q1)).take 5 = slope5 (pW q0 q1) := List.take_of_length_le (by simp [slope5])
    rw [e2] at hv
    have H := H.imp (a := sl) (P' := IntsC (slope5 (pW q0 q1))) (by none_booked) (fun o ho => ⟨vs, hv, ho⟩)
    clear hv
    repeat tb_start
    refine r_dropL H fun s H => ?_
    simp only [X1] at H
    repeat tb_start
    refine c_delitem (j := 4) G (hA.le (by omega)) H (by none_booked) (by decide) (by simp [slope5, seqIndex?]) (by rw [sizeLine_eq]; simp [slope5]) ?_
    clear H
    intro s H
    have esl : (slope5 (pW q0 q1)).eraseIdx 4 = slopeW (pW q0 q1) := rfl
    rw [esl] at H
    have hsl : (slopeW (pW q0 q1)).length = 4 := rfl
    repeat tb_start
    refine r_itemL 2 H (by tb_rel) (by omega) (v := .ref b2) rfl (by simp) rfl ?_
    repeat tb_start
    refine c_product G (hA.le (by omega)) H (by tb_rel) (by tb_rel) (by omega) (by rw [hr2]; simp) (by omega) (by rw [hr2]; simp) hall.slOk ?_
    clear H
    intro sgl s H
    have esg : prodW (slopeW (pW q0 q1)) (rowW q2) = sgW q0 q1 q2 := rfl
    rw [esg] at H
    have hsgl : (sgW q0 q1 q2).length = 6 := by rw [sgW, prodW_len, hsl, hr2]; rfl
    repeat tb_start
    refine c_rest G (hA.le (by omega)) H (by tb_rel) (by tb_rel) (by omega) (by omega) (by omega) hall.pOk.2.2 hall.gap ?_
    clear H
    intro secl s H
    have ese : restW (sgW q0 q1 q2) (pW q0 q1) = secW q0 q1 q2 := rfl
    rw [ese] at H
    repeat tb_start
    obtain ⟨tu, t1, t2, ta, tb, H⟩ : ∃ tu t1 t2 ta tb, St s₀ B ((L, LocC [("page", .str (T page) tp)]) :: (it, IterT tu 0) :: (tu, TupC [.ref t1, .ref t2]) :: (t2, TupC [.str (T [60]) tb, .ref secl]) :: (secl, IntsC (secW q0 q1 q2)) :: (sgl, IntsC (sgW q0 q1 q2)) ::
      (t1, TupC [.str (T [61, 61]) ta, .ref sl]) :: (sl, IntsC (slopeW (pW q0 q1))) :: (pl, IntsC (pW q0 q1)) :: (a.dx, NsL (lexNs ln lt a.tw a.stream a.pb)) :: (a.at_, IntsC [(pos : Int)]) :: (a.pb, ListC []) :: (L + 1, CellC (some (.ref dl))) :: (L + 1 + 1, CellC (some (.ref a.x))) :: (L + 1 + 1 + 1, CellC (some (.ref pl))) :: X) s :=
      ⟨_, _, _, _, _, loc_mono H (by regstrif_slice)⟩

    let P : Led := (tu, TupC [.ref t1, .ref t2]) :: (t2, TupC [.str (T [60]) tb, .ref secl]) :: (secl, IntsC (secW q0 q1 q2)) :: (sgl, IntsC (sgW q0 q1 q2)) :: (t1, TupC [.str (T [61, 61]) ta, .ref sl]) :: (sl, IntsC (slopeW (pW q0 q1))) :: (pl, IntsC (pW q0 q1)) :: []
    let Y : Led := (L + 1, CellC (some (.ref dl))) :: (L + 1 + 1, CellC (some (.ref a.x))) :: (L + 1 + 1 + 1, CellC (some (.ref pl))) :: X
    let PB : List Value := [.str (T [61, 61]) ta, .ref pl, .ref sl, .str (T [60]) tb, .ref pl, .ref secl]
    have LOY : LexOk w B a page Y := LO.mono fun p hp => .tail _ (.tail _ (.tail _ hp))
    refine r_forLoop (walk_tup tu it [.ref t1, .ref t2]) hA.hh (J := fun i F' D' => F' = (L, LocC [("page", .str (T page) tp)]) ∧ D' = P ++ (a.var ln lt pos (PB.take (3 * i)) ++ Y)) ?_ H ⟨rfl, rfl⟩ ?_ ?_
    · rintro i F' D' ⟨rfl, rfl⟩
      exact .head _
    · clear H
      rintro i v _ _ s E' hi hv ⟨rfl, rfl⟩ H
      obtain ⟨tt, nm, tk, sa, rfl, hm, hPB⟩ : ∃ tt nm tk sa, v = .ref tt ∧ (tt, TupC [.str (T nm) tk, .ref sa]) ∈ P ∧ PB.take (3 * (i + 1)) = PB.take (3 * i) ++ [.str (T nm) tk] ++ [.ref pl] ++ [.ref sa] := by
        match i, hi, hv with
        | 0, _, hv => cases hv; exact ⟨_, _, _, _, rfl, by tb_rel, rfl⟩
        | 1, _, hv => cases hv; exact ⟨_, _, _, _, rfl, by tb_rel, rfl⟩
      have hm' : ∀ {Z : Led}, (tt, TupC [.str (T nm) tk, .ref sa]) ∈ P ++ Z := List.mem_append_left _ hm
      have hvl : (PB.take (3 * i)).length ≤ 6 := by rw [List.length_take]; exact Nat.min_le_right _ _
      refine r_assignTup2 hA.hh H (x := .str (T nm) tk) (y := .ref sa) (.tail _ (.tail _ hm')) rfl ?_
      clear H
      intro s H
      have hmx : ∀ {x1 x2 : Addr × Cell} {V : Led}, (a.x, InstC 101 a.dx) ∈ x1 :: x2 :: (P ++ (V ++ Y)) := .tail _ (.tail _ (List.mem_append_right _ (List.mem_append_right _ LOY.hx)))
      have hmd : ∀ {x1 x2 : Addr × Cell} {vs : List Value}, (a.dx, NsL (lexNs ln lt a.tw a.stream a.pb)) ∈ x1 :: x2 :: (P ++ (a.var ln lt pos vs ++ Y)) := .tail _ (.tail _ (List.mem_append_right _ (.head _)))
      repeat tb_start
      refine r_method (dx := a.dx) (lo := lexNs ln lt a.tw a.stream a.pb) G H hmx hmd rfl rfl rfl rfl rfl ?_
      repeat tb_start
      refine c_push G (hA.le (by omega)) (LOY.mono fun p hp => List.mem_append_right _ hp) (by first | omega | (simp only [List.length_append, List.length_cons, List.length_nil]; omega)) (St.mid (P := (it, IterT tu (i + 1)) :: P) (V := a.var ln lt pos _) (Y := Y) H) ?_
      clear H
      intro s H
      have H := H.unmid
      repeat tb_start
      refine r_method (dx := a.dx) (lo := lexNs ln lt a.tw a.stream a.pb) G H hmx hmd rfl rfl rfl rfl rfl ?_
      repeat tb_start
      refine c_push G (hA.le (by omega)) (LOY.mono fun p hp => List.mem_append_right _ hp) (by first | omega | (simp only [List.length_append, List.length_cons, List.length_nil]; omega)) (St.mid (P := (it, IterT tu (i + 1)) :: P) (V := a.var ln lt pos _) (Y := Y) H) ?_
      clear H
      intro s H
      have H := H.unmid
      repeat tb_start
      refine r_method (dx := a.dx) (lo := lexNs ln lt a.tw a.stream a.pb) G H hmx hmd rfl rfl rfl rfl rfl ?_
      repeat tb_start
      refine c_push G (hA.le (by omega)) (LOY.mono fun p hp => List.mem_append_right _ hp) (by first | omega | (simp only [List.length_append, List.length_cons, List.length_nil]; omega)) (St.mid (P := (it, IterT tu (i + 1)) :: P) (V := a.var ln lt pos _) (Y := Y) H) ?_
      clear H
      intro s H
      have H := H.unmid
      repeat tb_start
      rw [← hPB] at H
      exact turn_loc (D' := P ++ (a.var ln lt pos (PB.take (3 * (i + 1))) ++ Y)) H (by regstrif_slice) (List.Sublist.refl _) ⟨rfl, rfl⟩
    · clear H
      rintro _ _ s ⟨rfl, rfl⟩ H
      have H : St s₀ B ((L, LocC [("page", .str (T page) tp)]) :: a.var ln lt pos [.str (T [61, 61]) ta, .ref pl, .ref sl, .str (T [60]) tb, .ref pl, .ref secl] ++ (P ++ Y)) s := St.mid (P := P) (V := a.var ln lt pos [.str (T [61, 61]) ta, .ref pl, .ref sl, .str (T [60]) tb, .ref pl, .ref secl]) (Y := Y) H
      have H : St s₀ B ((L, LocC [("page", .str (T page) tp)]) :: a.var ln lt pos [.str (T [61, 61]) ta, .ref pl, .ref sl, .str (T [60]) tb, .ref pl, .ref secl] ++ ((L + 1, CellC (some (.ref dl))) :: (L + 1 + 1, CellC (some (.ref a.x))) :: (L + 1 + 1 + 1, CellC (some (.ref pl))) :: (X ++ P))) s := St.rot (X0 := P) (Y := Y) H
      have mp1 : (pl, IntsC (pW q0 q1)) ∈ X ++ P := List.mem_append_right _ (by tb_rel)
      have mp2 : (sl, IntsC (slopeW (pW q0 q1))) ∈ X ++ P := List.mem_append_right _ (by tb_rel)
      have mp3 : (secl, IntsC (secW q0 q1 q2)) ∈ X ++ P := List.mem_append_right _ (by tb_rel)
      clear_value P
      show Then w A E _ _ Q .next s
      repeat (with_reducible refine r_then ?_)
      obtain ⟨key⟩ := c_lawF (X := X ++ P) (E := E) (fl := fl) (cd := cd) G hA e0 hall hq0 hq1 hq2 hpos hrd hN (LO.mono fun p hp => List.mem_append_left _ hp) (List.mem_append_left _ mtab) (List.mem_append_left _ mdl) (List.mem_append_left _ m0) (List.mem_append_left _ m1) (List.mem_append_left _ m2) mp1 mp2 mp3 H h
      simp only [List.drop_succ_cons, List.drop_zero] at key
      assumption
end
end
section
section
variable {w : World} {A : Around} {E : Value → Shared → Prop} {s₀ s : Shared} {B : Heap} {D D' : Led} {F : Addr × Cell} {a l : Addr} {env : Env}
set_option maxHeartbeats 16000000 in
theorem c_lawD {a : LA} {L dl a0 a1 a2 : Addr} {X : Led} {turn : Int} {page : List Nat} {tp lt : Tok} {q0 q1 q2 : List Int} {name qual : Str} {params : Arguments} {body : List Stmt} {scope : Scope} {dV kV doc pm cd cdv ct oc : Value} {ps0 : Array Value} {an od : Option Addr} {osl : Array (Option Value)} {fl : Addr} {Q : Flow → Shared → Prop}
    (G : Base w B) (hA : Ok A 9) (ho : (KF w).lookup 189 = some ⟨oc, od, .func (fnOf name qual params body scope dV kV doc pm an cdv ct), osl⟩)
    (hall : LawOk q0 q1 q2) (hq0 : isQuad q0) (hq1 : isQuad q1) (hq2 : isQuad q2) (hpage : page = pageW ((rowW q0 ++ rowW q1 ++ rowW q2).map wordN) turn 9) (LO : LexOk w B a page X)
    (mtab : (124, TabC ps0) ∈ X) (mdl : (dl, ListC [.ref a0, .ref a1, .ref a2]) ∈ X) (m0 : (a0, ITupC q0) ∈ X) (m1 : (a1, ITupC q1) ∈ X) (m2 : (a2, ITupC q2) ∈ X)
    (H : St s₀ B ((L, LocC [("page", .str (T page) tp)]) :: a.var 1 lt 0 [] ++ ((L + 1, CellC (some (.ref dl))) :: (L + 1 + 1, CellC (some (.ref a.x))) :: (L + 1 + 1 + 1, CellC none) :: X)) s)
    (h : ∀ s' D ps, St s₀ B D s' → (124, TabC ps) ∈ D → Q (.ret (.bool true)) s') : wpAny (MM w) A (execs (body.drop 6) (envOfC qual scope L fl cd)) Q E s := by
  have e0 := ho
  have e : (KF w).lookup 189 = some ⟨_, _, .func (fnOf _ _ _ _ _ _ _ _ _ _ _ _), _⟩ := rfl
  rw [e] at ho
  injection ho with ho
  injection ho with h1 h2 h3 h4
  injection h3 with h3
  injection h3 with u1 u2 u3 u4 u5 u6 u7 u8 u9 u10 u11 u12 u13 u14
  injection u4 with u4
  subst u2 u4 u5
  clear e u1 u3 u6 u7 u8 u9 u10 u11 u12 u13 u14 h1 h2 h4
  simp only [List.drop_succ_cons, List.drop_zero]
  repeat tb_start
  obtain ⟨NS, hNS⟩ : ∃ NS, NS = rowW q0 ++ rowW q1 ++ rowW q2 := ⟨_, rfl⟩
  rw [← hNS] at hpage
  obtain ⟨x00, y00, z00, hr0, bx0, by0, bz0⟩ := rowW_bd hq0
  obtain ⟨x01, y01, z01, hr1, bx1, by1, bz1⟩ := rowW_bd hq1
  obtain ⟨x02, y02, z02, hr2, bx2, by2, bz2⟩ := rowW_bd hq2
  have hNl : NS.length = 9 := by rw [hNS, hr0, hr1, hr2]; rfl
  have hNb : ∀ n ∈ NS, -16 < n ∧ n < 16 := by
    intro n hn
    rw [hNS, hr0, hr1, hr2] at hn
    simp only [List.cons_append, List.nil_append, List.mem_cons, List.not_mem_nil, or_false] at hn
    rcases hn with rfl | rfl | rfl | rfl | rfl | rfl | rfl | rfl | rfl <;> assumption
  have hrow : ∀ j k : Nat, j < 3 → k < 3 → ([rowW q0, rowW q1, rowW q2].getD j []).getD k 0 = NS.getD (3 * j + k) 0 ∧ ([rowW q0, rowW q1, rowW q2].getD j []).length = 3 := by
    intro j k hj hk
    rw [hNS, hr0, hr1, hr2]
    match j, hj, k, hk with
    | 0, _, 0, _ | 0, _, 1, _ | 0, _, 2, _ | 1, _, 0, _ | 1, _, 1, _ | 1, _, 2, _ | 2, _, 0, _ | 2, _, 1, _ | 2, _, 2, _ => exact ⟨rfl, rfl⟩
  let X1 : Led := (L + 1, CellC (some (.ref dl))) :: (L + 1 + 1, CellC (some (.ref a.x))) :: (L + 1 + 1 + 1, CellC none) :: X
  let N : Int := 1 + (page.count 10 : Int)
  have LO1 : LexOk w B a page X1 := LO.mono fun p hp => .tail _ (.tail _ (.tail _ hp))
  have mlx : (L + 1 + 1, CellC (some (.ref a.x))) ∈ X1 := .tail _ (.head _)
  refine r_iterRange (n := 3) H (by tb_rel) (by decide) (by omega) (by omega) (by omega) (by omega) ?_
  clear H
  intro it s H
  have H := H.sub (D' := (L, _) :: (it, _) :: (a.var 1 lt 0 [] ++ X1)) (((List.sublist_cons_self _ _).cons_cons _).cons_cons _)
  have hp0 : page.drop 0 = [] ++ tailP (NS.map wordN) turn (9 - 3 * 0) (3 * 0) := by
    have := pageW_tail (NS.map wordN) turn 9 0
    rw [List.drop_zero, hpage]
    simpa [pageW] using this
  refine r_compGo (walk_range it 0 3) hA.hh rfl rfl (fun j vs lo D' => lo = [] ∧ ∃ (as : List Addr) (T : Led) (ln : Int) (lt : Tok) (pos : Nat) (pre : List Nat), vs = as.map .ref ∧ Lists as (([rowW q0, rowW q1, rowW q2]).take j) T ∧ pos ≤ page.length ∧ page.drop pos = pre ++ tailP (NS.map wordN) turn (9 - 3 * j) (3 * j) ∧
    (∀ c ∈ pre, c ∈ wsT) ∧ ln + ((page.drop pos).count 10 : Int) = N ∧ D' = T ++ (a.var ln lt pos [] ++ X1)) ?_ (by omega) ?_ H ⟨rfl, [], [], 1, lt, 0, [], rfl, Lists.nil, Nat.zero_le _, hp0, by simp, by simp [N], rfl⟩ ?_ ?_
  · rintro acc j vs lo D' _
    trivial
  · rintro j vs lo D' ⟨_, as, T, ln, lt, pos, pre, rfl, hT, _⟩
    rw [List.length_map, hT.1, List.length_take]
    omega
  · clear H hp0
    rintro C acc j v vs lo D' s E3 hj ⟨tv, rfl⟩ ⟨rfl, as, T, ln, lt, pos, pre, rfl, hT, hpos, hdrop, hpre, hN, rfl⟩ H
    repeat tb_start
    obtain ⟨it0, ei⟩ : ∃ y, y = it := ⟨_, rfl⟩
    subst ei
    refine r_iterRange (n := 3) H (by tb_rel) (by decide) (by omega) (by omega) (by omega) (by omega) ?_
    clear H
    intro it s H
    have H := H.sub (D' := (C, _) :: (it, _) :: (it0, _) :: (acc, _) :: (L, _) :: (T ++ (a.var ln lt pos [] ++ X1))) (by regstrif_gather)
    let P : Led := (it0, IterR (0 + (j + 1 : Nat)) ((3 : Nat) - (j + 1 : Nat))) :: (acc, ListC (as.map .ref)) :: (L, LocC [("page", .str (Mine.T page) tp)]) :: T
    have H : St s₀ B ((C, LocC [("j", .int (0 + (j : Int)) tv)]) :: (it, IterR (0 + (0 : Nat)) ((3 : Nat) - (0 : Nat))) :: (P ++ (a.var ln lt pos [] ++ X1))) s := H
    have mlx' : ∀ {V : Led}, (L + 1 + 1, CellC (some (.ref a.x))) ∈ P ++ (V ++ X1) := List.mem_append_right _ (List.mem_append_right _ mlx)
    refine r_compGo (walk_range it 0 3) hA.hh rfl rfl (fun k vs2 lo D' => lo = [] ∧ ∃ (ln : Int) (lt : Tok) (pos : Nat) (pre : List Nat), IntsAre vs2 (([rowW q0, rowW q1, rowW q2].getD j []).take k) ∧ pos ≤ page.length ∧ page.drop pos = pre ++ tailP (NS.map wordN) turn (9 - (3 * j + k)) (3 * j + k) ∧
      (∀ c ∈ pre, c ∈ wsT) ∧ ln + ((page.drop pos).count 10 : Int) = N ∧ D' = P ++ (a.var ln lt pos [] ++ X1)) ?_ (by omega) ?_ H ⟨rfl, ln, lt, pos, pre, .nil, hpos, hdrop, hpre, hN, rfl⟩ ?_ ?_
    · rintro acc j vs lo D' _
      trivial
    · rintro k vs2 lo D' ⟨_, ln, lt, pos, pre, hv, _⟩
      rw [hv.length, List.length_take]
      omega
    · clear H hpos hdrop hpre hN
      rintro C2 acc2 k v vs2 lo D' s E4 hk ⟨tv2, rfl⟩ ⟨rfl, ln, lt, pos, pre, hv2, hpos, hdrop, hpre, hN, rfl⟩ H
      obtain ⟨hrk, hrl⟩ := hrow j k hj hk
      have hnm : NS.getD (3 * j + k) 0 ∈ NS := by
        have : 3 * j + k < NS.length := by omega
        rw [List.getD_eq_getElem?_getD, List.getElem?_eq_getElem this]
        exact List.getElem_mem this
      have hnb := hNb _ hnm
      have hwd : (NS.map wordN).getD (3 * j + k) [] = wordN (NS.getD (3 * j + k) 0) := by
        have : 3 * j + k < NS.length := by omega
        simp [List.getD_eq_getElem?_getD, List.getElem?_eq_getElem this]
      generalize NS.getD (3 * j + k) 0 = n at hrk hnb hwd
      obtain ⟨w1, w2, w3, w4, w5, w6, w7, w8⟩ := wordN_ok n hnb.1 hnb.2
      obtain ⟨pre', hpre', hrd⟩ : ∃ pre', (∀ c ∈ pre', c ∈ wsT) ∧ rdO (page.drop pos) = (wordN n, pre' ++ tailP (NS.map wordN) turn (9 - (3 * j + (k + 1))) (3 * j + (k + 1))) := by
        have e1 : 9 - (3 * j + k) = (9 - (3 * j + (k + 1))) + 1 := by omega
        rw [hdrop, rdO_pre _ _ hpre, e1, tailP, pieceW, hwd]
        exact rdO_piece _ _ _ (wsW_mem _ _) _ w1 (fun c hc => (w3 c hc).1)
      have hmx : ∀ {x1 x2 x3 x4 : Addr × Cell} {V : Led}, (a.x, InstC 101 a.dx) ∈ x1 :: x2 :: x3 :: x4 :: (P ++ (V ++ X1)) := .tail _ (.tail _ (.tail _ (.tail _ (List.mem_append_right _ (List.mem_append_right _ LO1.hx)))))
      have hmd : ∀ {x1 x2 x3 x4 : Addr × Cell}, (a.dx, NsL (lexNs ln lt a.tw a.stream a.pb)) ∈ x1 :: x2 :: x3 :: x4 :: (P ++ (a.var ln lt pos [] ++ X1)) := .tail _ (.tail _ (.tail _ (.tail _ (List.mem_append_right _ (.head _)))))
      repeat tb_start
      refine r_method (dx := a.dx) (lo := lexNs ln lt a.tw a.stream a.pb) G H hmx hmd rfl rfl rfl rfl rfl ?_
      repeat tb_start
      have H := St.mid (P := (it, _) :: (acc2, _) :: (C, _) :: P) (V := a.var ln lt pos []) (Y := X1) H
      refine c_token (N := N) G (hA.le (by omega)) (LO1.mono fun p hp => List.mem_append_right _ hp) H hpos hN ?_
      clear H
      intro t ln' lt' pos' s hpos' hdrop' hN' H
      rw [hrd] at hdrop' ⊢
      have H := H.unmid
      repeat tb_start
      obtain ⟨sg, ls, hw⟩ : ∃ sg ls, wordN n = sg :: ls := by
        cases hw : wordN n with
        | nil => exact absurd hw w1
        | cons sg ls => exact ⟨sg, ls, rfl⟩
      rw [hw] at w4 w5 w6 w8
      simp only [hw]
      simp only [List.headD_cons, List.tail_cons] at w4 w5 w6 w8
      have w8' : (if sg = 43 then 0 + sizeN ls else 0 - sizeN ls) = n := by
        rcases w4 with rfl | rfl
        · simpa using w8
        · simpa using w8
      refine c_number G (hA.le (by omega)) H w4 w5 w6 ?_
      clear H
      rw [w8']
      intro t s H
      refine compEnd_loc (D' := P ++ (a.var ln' lt' pos' [] ++ X1)) H (by regstrif_slice) (List.Sublist.refl _) ⟨rfl, ln', lt', pos', pre', ?_, hpos', hdrop', hpre', hN', rfl⟩
      have hk' : k < ([rowW q0, rowW q1, rowW q2].getD j []).length := by omega
      rw [List.take_add_one, getElem?_getD hk', hrk]
      exact IntsAre.append' hv2 (.cons _ _ .nil)
    · clear H hpos hdrop hpre hN
      rintro C2 rl vs2 lo D' s ⟨rfl, ln, lt, pos, pre, hv2, hpos, hdrop, hpre, hN, rfl⟩ H
      refine r_dropL H fun s H => ?_
      have e3 : ([rowW q0, rowW q1, rowW q2].getD j []).take 3 = [rowW q0, rowW q1, rowW q2].getD j [] := List.take_of_length_le (by rw [(hrow j 0 hj (by decide)).2]; decide)
      rw [e3] at hv2
      have H := H.imp (a := rl) (P' := IntsC ([rowW q0, rowW q1, rowW q2].getD j [])) (by none_booked) (fun o ho => ⟨vs2, hv2, ho⟩)
      have H := ((((H.pull 1 rfl).pull 4 rfl).pull 4 rfl).pull 4 rfl).pull 4 rfl
      refine compEnd_loc (D' := ((rl, IntsC ([rowW q0, rowW q1, rowW q2].getD j [])) :: T) ++ (a.var ln lt pos [] ++ X1)) H (by regstrif_slice) (List.Sublist.refl _) ⟨rfl, as ++ [rl], _, ln, lt, pos, pre, by simp, ?_, hpos, hdrop, hpre, hN, rfl⟩
      have e4 : [rowW q0, rowW q1, rowW q2].take (j + 1) = [rowW q0, rowW q1, rowW q2].take j ++ [[rowW q0, rowW q1, rowW q2].getD j []] := by
        have : [rowW q0, rowW q1, rowW q2][j]? = some ([rowW q0, rowW q1, rowW q2].getD j []) := by
          have : j < [rowW q0, rowW q1, rowW q2].length := hj
          rw [List.getD_eq_getElem?_getD, List.getElem?_eq_getElem this]; rfl
        rw [List.take_add_one, this]; rfl
      rw [e4]
      exact hT.snoc rl _
  · clear H hp0
    rintro C tl vs lo D' s ⟨rfl, as, T, ln, lt, pos, pre, rfl, hT, hpos, hdrop, hpre, hN, rfl⟩ H
    repeat tb_start
    refine r_dropL H fun s H => ?_
    have hal : as.length = 3 := by rw [hT.1]; rfl
    obtain ⟨b0, b1, b2, rfl⟩ : ∃ b0 b1 b2, as = [b0, b1, b2] := by
      match as, hal with
      | [b0, b1, b2], _ => exact ⟨b0, b1, b2, rfl⟩
    have k0 : (b0, IntsC (rowW q0)) ∈ T := hT.2 0 b0 rfl
    have k1 : (b1, IntsC (rowW q1)) ∈ T := hT.2 1 b1 rfl
    have k2 : (b2, IntsC (rowW q2)) ∈ T := hT.2 2 b2 rfl
    have H : St s₀ B ((L, LocC [("page", .str (Mine.T page) tp), ("told", .ref tl)]) :: a.var ln lt pos [] ++ (((tl, ListC [.ref b0, .ref b1, .ref b2]) :: T) ++ X1)) s := St.mid (P := (tl, ListC [.ref b0, .ref b1, .ref b2]) :: T) (V := a.var ln lt pos []) (Y := X1) H
    have H := H.rot
    have hrd : rdO (page.drop pos) = ([], []) := by
      rw [hdrop, rdO_pre _ _ hpre]; rfl
    repeat (with_reducible refine r_then ?_)
    exact c_lawE (X := X ++ ((tl, ListC [.ref b0, .ref b1, .ref b2]) :: T)) G hA e0 hall hq0 hq1 hq2 hpos hrd hN (LO.mono fun p hp => List.mem_append_left _ hp) (List.mem_append_left _ mtab) (List.mem_append_left _ mdl) (List.mem_append_left _ m0) (List.mem_append_left _ m1) (List.mem_append_left _ m2)
      (List.mem_append_right _ (.head _)) (List.mem_append_right _ (.tail _ k0)) (List.mem_append_right _ (.tail _ k1)) (List.mem_append_right _ (.tail _ k2)) H h
end
end
section
section
variable {w : World} {A : Around} {E : Value → Shared → Prop} {s₀ s : Shared} {B : Heap} {D D' : Led} {F : Addr × Cell} {a l : Addr} {env : Env}
theorem r_iterITup {ns : List Int} {Q : Value → Shared → Prop} (H : St s₀ B (F :: D) s) (hm : (l, ITupC ns) ∈ F :: D) (h : ∀ it s', St s₀ B (F :: (it, IterT l 0) :: D) s' → Q (.ref it) s') : wpAny (MM w) A (pyIter (.ref l)) Q E s := by
  obtain ⟨vs, n, hi, ho⟩ := H.itup hm
  exact iter_tuple ⟨_, ho, rfl, _, rfl⟩ (h _ _ (H.push (P := IterT l 0) ⟨rfl, rfl⟩).swap)
theorem pageW_low (words : List (List Nat)) (turn : Int) (hw : ∀ x ∈ words, ∀ c ∈ x, c < 128) : ∀ k, ∀ c ∈ pageW words turn k, c < 128
  | 0, c, h => by simp [pageW] at h
  | k + 1, c, h => by
    have hx : ∀ c ∈ words.getD k [], c < 128 := by
      intro c hc
      by_cases hk : k < words.length
      · rw [List.getD_eq_getElem?_getD, List.getElem?_eq_getElem hk] at hc; exact hw _ (List.getElem_mem hk) c hc
      · rw [List.getD_eq_getElem?_getD, List.getElem?_eq_none (by omega)] at hc; simp at hc
    have hws : wsW turn k < 128 := by
      have := wsW_mem turn k
      simp only [wsT, List.mem_cons, List.not_mem_nil, or_false] at this
      omega
    rw [pageW, List.mem_append, List.mem_append, List.mem_singleton] at h
    rcases h with (h | h) | rfl
    · exact pageW_low words turn hw k c h
    · unfold wrapW at h
      split at h
      · exact hx c h
      · split at h
        · simp only [List.cons_append, List.mem_cons, List.mem_append, List.not_mem_nil, or_false] at h
          rcases h with rfl | h | rfl
          · decide
          · exact hx c h
          · decide
        · obtain ⟨l, hl, hc⟩ := List.mem_flatten.mp h
          obtain ⟨d, hd, rfl⟩ := List.mem_map.mp hl
          simp only [List.mem_cons, List.not_mem_nil, or_false] at hc
          rcases hc with rfl | rfl
          · decide
          · exact hx _ hd
    · exact hws
set_option maxHeartbeats 16000000 in
theorem c_lawC {L draws dl rl a0 a1 a2 r0 r1 r2 : Addr} {X : Led} {x0 x1 x2 : Int} {q0 q1 q2 : List Int} {name qual : Str} {params : Arguments} {body : List Stmt} {scope : Scope} {dV kV doc pm cd cdv ct oc : Value} {an od : Option Addr} {osl : Array (Option Value)} {fl : Addr} {Q : Flow → Shared → Prop}
    (G : Base w B) (hA : Ok A 9) (ho : (KF w).lookup 189 = some ⟨oc, od, .func (fnOf name qual params body scope dV kV doc pm an cdv ct), osl⟩) (hx0 : 0 ≤ x0) (hx1 : x0 ≤ 2 ^ 38)
    (hall : LawOk q0 q1 q2) (hq0 : isQuad q0) (hq1 : isQuad q1) (hq2 : isQuad q2) (mdr : (draws, IntsC [x0, x1, x2]) ∈ X) (mdl : (dl, ListC [.ref a0, .ref a1, .ref a2]) ∈ X) (mrl : (rl, ListC [.ref r0, .ref r1, .ref r2]) ∈ X)
    (m0 : (a0, ITupC q0) ∈ X) (m1 : (a1, ITupC q1) ∈ X) (m2 : (a2, ITupC q2) ∈ X) (n0 : (r0, ITupC (rowW q0)) ∈ X) (n1 : (r1, ITupC (rowW q1)) ∈ X) (n2 : (r2, ITupC (rowW q2)) ∈ X)
    (H : St s₀ B ((L, LocC [("draws", .ref draws), ("rows", .ref rl)]) :: (L + 1, CellC (some (.ref dl))) :: (L + 1 + 1, CellC none) :: (L + 1 + 1 + 1, CellC none) :: (124, TabC #[]) :: X) s)
    (h : ∀ s' D ps, St s₀ B D s' → (124, TabC ps) ∈ D → Q (.ret (.bool true)) s') : wpAny (MM w) A (execs (body.drop 4) (envOfC qual scope L fl cd)) Q E s := by
  have e0 := ho
  have e : (KF w).lookup 189 = some ⟨_, _, .func (fnOf _ _ _ _ _ _ _ _ _ _ _ _), _⟩ := rfl
  rw [e] at ho
  injection ho with ho
  injection ho with h1 h2 h3 h4
  injection h3 with h3
  injection h3 with u1 u2 u3 u4 u5 u6 u7 u8 u9 u10 u11 u12 u13 u14
  injection u4 with u4
  subst u2 u4 u5
  clear e u1 u3 u6 u7 u8 u9 u10 u11 u12 u13 u14 h1 h2 h4
  simp only [List.drop_succ_cons, List.drop_zero]
  obtain ⟨x00, y00, z00, hr0, bx0, by0, bz0⟩ := rowW_bd hq0
  obtain ⟨x01, y01, z01, hr1, bx1, by1, bz1⟩ := rowW_bd hq1
  obtain ⟨x02, y02, z02, hr2, bx2, by2, bz2⟩ := rowW_bd hq2
  repeat tb_start
  let X1 : Led := (L + 1, CellC (some (.ref dl))) :: (L + 1 + 1, CellC none) :: (L + 1 + 1 + 1, CellC none) :: (124, TabC #[]) :: X
  have hR : ∀ (i : Nat) (v : Value), i < 3 → [Value.ref r0, .ref r1, .ref r2][i]? = some v → ∃ b row, v = .ref b ∧ [rowW q0, rowW q1, rowW q2][i]? = some row ∧ (b, ITupC row) ∈ X ∧ row.length = 3 ∧ ∀ n ∈ row, -16 < n ∧ n < 16 := by
    intro i v hi hv
    match i, hi, hv with
    | 0, _, hv => cases hv; exact ⟨_, _, rfl, rfl, n0, by rw [hr0]; rfl, by rw [hr0]; simp only [List.mem_cons, List.not_mem_nil, or_false]; rintro n (rfl | rfl | rfl) <;> assumption⟩
    | 1, _, hv => cases hv; exact ⟨_, _, rfl, rfl, n1, by rw [hr1]; rfl, by rw [hr1]; simp only [List.mem_cons, List.not_mem_nil, or_false]; rintro n (rfl | rfl | rfl) <;> assumption⟩
    | 2, _, hv => cases hv; exact ⟨_, _, rfl, rfl, n2, by rw [hr2]; rfl, by rw [hr2]; simp only [List.mem_cons, List.not_mem_nil, or_false]; rintro n (rfl | rfl | rfl) <;> assumption⟩
  let NS : List Int := rowW q0 ++ rowW q1 ++ rowW q2
  have hNl : NS.length = 9 := by show (rowW q0 ++ rowW q1 ++ rowW q2).length = 9; rw [hr0, hr1, hr2]; rfl
  have hNb : ∀ n ∈ NS, -16 < n ∧ n < 16 := by
    intro n hn
    have hn : n ∈ rowW q0 ++ rowW q1 ++ rowW q2 := hn
    rw [hr0, hr1, hr2] at hn
    simp only [List.cons_append, List.nil_append, List.mem_cons, List.not_mem_nil, or_false] at hn
    rcases hn with rfl | rfl | rfl | rfl | rfl | rfl | rfl | rfl | rfl <;> assumption
  have hsplit : ∀ (i : Nat) (row : List Int), [rowW q0, rowW q1, rowW q2][i]? = some row → NS.take (3 * (i + 1)) = NS.take (3 * i) ++ row := by
    intro i row hrow
    show (rowW q0 ++ rowW q1 ++ rowW q2).take _ = (rowW q0 ++ rowW q1 ++ rowW q2).take _ ++ row
    rw [hr0, hr1, hr2] at hrow ⊢
    match i, hrow with
    | 0, hrow => cases hrow; rfl
    | 1, hrow => cases hrow; rfl
    | 2, hrow => cases hrow; rfl
  refine r_compGo2 (walk_list rl it [.ref r0, .ref r1, .ref r2]) hA.hh rfl rfl (fun _ _ => rfl) (fun i vs lo D' => lo = [] ∧ StrsAre vs ((NS.take (3 * i)).map wordN) ∧ D' = X1) ?_ H ⟨rfl, .nil, rfl⟩ ?_ ?_
  · rintro acc i vs lo D' ⟨rfl, _, rfl⟩
    tb_rel
  · rintro C acc i v vs lo D' s E3 hi hv ⟨rfl, hvs, rfl⟩ H
    obtain ⟨b, row, rfl, hrow, hb, hrl, hrb⟩ := hR i v hi hv
    have hb' : (b, ITupC row) ∈ X1 := .tail _ (.tail _ (.tail _ (.tail _ hb)))
    have hsp := hsplit i row hrow
    repeat tb_start
    obtain ⟨it0, ei⟩ : ∃ y, y = it := ⟨_, rfl⟩
    subst ei
    refine r_iterITup H (by tb_rel) ?_
    clear H
    intro it s H
    have H := ((H.pull 3 rfl).pull 2 rfl).pull 2 rfl
    have hlo : (NS.take (3 * i)).length ≤ 9 := by rw [List.length_take]; omega
    refine r_compInner (F := (it0, IterL rl (i + 1))) (walk_itup b it row) hA.hh (fun j vs lo D' => lo = [] ∧ StrsAre vs ((NS.take (3 * i) ++ row.take j).map wordN) ∧ D' = (L, LocC [("draws", .ref draws), ("rows", .ref rl)]) :: X1) ?_ ?_ (loc_mono (l' := []) H (by regstrif_slice)) ⟨rfl, by simpa using hvs, rfl⟩ ?_ ?_
    · rintro j vs lo D' ⟨rfl, _, rfl⟩
      exact .tail _ (.tail _ (.tail _ hb'))
    · rintro j vs lo D' ⟨_, hv, _⟩
      have : (row.take j).length ≤ 3 := by rw [List.length_take]; omega
      rw [hv.length, List.length_map, List.length_append]; omega
    · clear H hvs
      rintro j v vs lo D' s E4 hj ⟨tv, rfl⟩ ⟨rfl, hvs, rfl⟩ H
      have hbd := hrb (row.getD j 0) (by rw [List.getD_eq_getElem?_getD, List.getElem?_eq_getElem hj]; exact List.getElem_mem hj)
      repeat tb_start
      refine c_word G (hA.le (by omega)) H hbd.1 hbd.2 ?_
      clear H
      intro t s H
      refine compEnd_loc H (by regstrif_slice) (by regstrif_gather) ⟨rfl, ?_, rfl⟩
      rw [List.take_add_one, getElem?_getD hj, ← List.append_assoc, List.map_append]
      exact StrsAre.append' hvs (.cons _ _ .nil)
    · clear H hvs
      rintro vs lo D' s ⟨rfl, hvs, rfl⟩ H
      rw [List.take_length, ← hsp] at hvs
      exact ⟨rfl, vs, [], X1, H.perm (.cons _ (.swap ..)), rfl, hvs, rfl⟩
  · rintro C wl vs lo D' s ⟨rfl, hvs, rfl⟩ H
    refine r_dropL H fun s H => ?_
    have hNt : NS.take (3 * [Value.ref r0, Value.ref r1, Value.ref r2].length) = NS := by rw [List.take_of_length_le]; rw [hNl]; simp
    rw [hNt] at hvs
    have H := H.imp (a := wl) (P' := StrsC (NS.map wordN)) (by none_booked) (fun o ho => ⟨vs, hvs, ho⟩)
    have mdr1 : (draws, IntsC [x0, x1, x2]) ∈ X1 := .tail _ (.tail _ (.tail _ (.tail _ mdr)))
    have hwl : (NS.map wordN).length = 9 := by rw [List.length_map, hNl]
    have hww : ∀ x ∈ NS.map wordN, ∃ n, -16 < n ∧ n < 16 ∧ x = wordN n := by
      intro x hx
      obtain ⟨n, hn, rfl⟩ := List.mem_map.mp hx
      exact ⟨n, (hNb n hn).1, (hNb n hn).2, rfl⟩
    repeat tb_start
    refine r_itemN 0 H (by tb_rel) rfl (by simp) (by simp) rfl fun t => ?_
    have e1 : [x0, x1, x2].getD 0 0 = x0 := rfl
    rw [e1]
    repeat tb_start
    have ht0 : 0 ≤ x0.fdiv 60 ∧ x0.fdiv 60 < 2 ^ 40 := by
      rw [Int.fdiv_eq_ediv_of_nonneg _ (by decide)]
      omega
    generalize x0.fdiv 60 = turn at ht0
    refine c_page (words := NS.map wordN) G (hA.le (by omega)) H (by tb_rel) ht0.1 ht0.2 (by omega) ?_ ?_
    · intro x hx
      obtain ⟨n, h1, h2, rfl⟩ := hww x hx
      have := wordN_ok n h1 h2
      exact ⟨this.2.1, this.2.2.2.2.2.2.1⟩
    clear H
    intro t s H
    have hpl := pageW_len (NS.map wordN) turn (fun x hx => by obtain ⟨n, h1, h2, rfl⟩ := hww x hx; exact (wordN_ok n h1 h2).2.1) 9
    have hplow := pageW_low (NS.map wordN) turn (fun x hx => by obtain ⟨n, h1, h2, rfl⟩ := hww x hx; exact fun c hc => ((wordN_ok n h1 h2).2.2.1 c hc).2) 9
    rw [hwl]
    obtain ⟨page, hpage⟩ : ∃ page, page = pageW (NS.map wordN) turn 9 := ⟨_, rfl⟩
    rw [← hpage] at hpl hplow ⊢
    repeat tb_start
    simp only [X1] at H
    have H := (H.pull 5 rfl).pull 1 rfl
    refine c_lexer G (hA.le (by omega)) H (by omega) hplow ?_
    clear H
    intro a lt XL ps s LO H
    have H : St s₀ B ((L, LocC [("draws", .ref draws), ("rows", .ref rl), ("page", .str (T page) t)]) :: (a.dx, NsL (lexNs 1 lt a.tw a.stream a.pb)) :: (a.at_, IntsC [((0 : Nat) : Int)]) :: (a.pb, ListC []) :: (124, TabC ps) :: (wl, StrsC (NS.map wordN)) :: (L + 1, CellC (some (.ref dl))) :: (L + 1 + 1, CellC none) :: (L + 1 + 1 + 1, CellC none) :: (X ++ XL)) s := H.rot
    tb_start
    repeat (with_reducible refine r_then ?_)
    have hNS : NS = rowW q0 ++ rowW q1 ++ rowW q2 := rfl
    rw [hNS] at hpage
    have H := loc_mono (l' := [("page", .str (T page) t)]) ((H.sub (D' := (L, _) :: (a.dx, _) :: (a.at_, _) :: (a.pb, _) :: (124, TabC ps) :: (L + 1, _) :: (L + 1 + 1, _) :: (L + 1 + 1 + 1, _) :: (X ++ XL)) (by regstrif_gather)).perm (.cons _ (.cons _ (.cons _ (.cons _ (List.perm_middle (l₁ := [_, _, _])).symm))))) (by regstrif_slice)
    exact c_lawD (X := (124, TabC ps) :: (X ++ XL)) G hA e0 hall hq0 hq1 hq2 hpage (LO.mono fun p hp => .tail _ (List.mem_append_right _ hp)) (.head _) (.tail _ (List.mem_append_left _ mdl)) (.tail _ (List.mem_append_left _ m0)) (.tail _ (List.mem_append_left _ m1)) (.tail _ (List.mem_append_left _ m2)) H h
end
end
section
section
variable {w : World} {A : Around} {E : Value → Shared → Prop} {s₀ s : Shared} {B : Heap} {D D' : Led} {F : Addr × Cell} {a l : Addr} {env : Env}
theorem St.poolEnd {x y : Addr × Cell} {T X : Led} (H : St s₀ B (x :: y :: (T ++ X)) s) : St s₀ B (x :: y :: (X ++ T)) s := H.perm ((List.perm_append_comm.cons y).cons x)
set_option maxHeartbeats 16000000 in
theorem c_lawB {L draws : Addr} {x0 x1 x2 : Int} {name qual : Str} {params : Arguments} {body : List Stmt} {scope : Scope} {dV kV doc pm cd cdv ct oc : Value} {an od : Option Addr} {osl : Array (Option Value)} {fl : Addr} {Q : Flow → Shared → Prop}
    (G : Base w B) (hA : Ok A 9) (ho : (KF w).lookup 189 = some ⟨oc, od, .func (fnOf name qual params body scope dV kV doc pm an cdv ct), osl⟩) (hx0 : 0 ≤ x0) (hx1 : x0 ≤ 2 ^ 38)
    (hall : ∀ q0 q1 q2, isQuad q0 → isQuad q1 → isQuad q2 → LawOk q0 q1 q2)
    (H : St s₀ B ((L, LocC [("draws", .ref draws)]) :: (draws, IntsC [x0, x1, x2]) :: (L + 1, CellC none) :: (L + 1 + 1, CellC none) :: (L + 1 + 1 + 1, CellC none) :: (124, TabC #[]) :: []) s)
    (h : ∀ s' D ps, St s₀ B D s' → (124, TabC ps) ∈ D → Q (.ret (.bool true)) s') : wpAny (MM w) A (execs (body.drop 2) (envOfC qual scope L fl cd)) Q E s := by
  have e0 := ho
  have e : (KF w).lookup 189 = some ⟨_, _, .func (fnOf _ _ _ _ _ _ _ _ _ _ _ _), _⟩ := rfl
  rw [e] at ho
  injection ho with ho
  injection ho with h1 h2 h3 h4
  injection h3 with h3
  injection h3 with n1 n2 n3 n4 n5 n6 n7 n8 n9 n10 n11 n12 n13 n14
  injection n4 with n4
  subst n2 n4 n5
  clear e n1 n3 n6 n7 n8 n9 n10 n11 n12 n13 n14 h1 h2 h4
  simp only [List.drop_succ_cons, List.drop_zero]
  repeat tb_start
  let X0 : Led := (draws, IntsC [x0, x1, x2]) :: (L + 1, CellC none) :: (L + 1 + 1, CellC none) :: (L + 1 + 1 + 1, CellC none) :: (124, TabC #[]) :: []
  refine r_compGo (walk_listI draws it [x0, x1, x2]) hA.hh rfl rfl (fun i vs lo D' => lo = [] ∧ ∃ as T, vs = as.map .ref ∧ Tups as (([x0, x1, x2].take i).map quadW) T ∧ D' = T ++ X0) ?_ (by simp) ?_ H ⟨rfl, [], [], rfl, Tups.nil, rfl⟩ ?_ ?_
  · rintro acc i vs lo D' ⟨rfl, as, T, rfl, hT, rfl⟩
    exact .tail _ (.tail _ (List.mem_append_right _ (.head _)))
  · rintro i vs lo D' ⟨_, as, T, rfl, hT, _⟩
    rw [List.length_map, hT.1, List.length_map, List.length_take]
    omega
  · rintro C acc i v vs lo D' s E3 hi ⟨tv, rfl⟩ ⟨rfl, as, T, rfl, hT, rfl⟩ H
    repeat tb_start
    have H := H.imp (a := l) (P' := ITupC (quadW ([x0, x1, x2].getD i 0))) (by none_booked) (fun o ho => ⟨_, .cons _ _ (.cons _ _ (.cons _ _ .nil)), ho⟩)
    have H := ((((H.pull 1 rfl).pull 4 rfl).pull 4 rfl).pull 4 rfl).pull 4 rfl
    refine compEnd_loc (D' := (l, ITupC (quadW ([x0, x1, x2].getD i 0))) :: (T ++ X0)) H (by regstrif_slice) (by regstrif_gather) ⟨rfl, as ++ [l], (l, _) :: T, by simp, ?_, rfl⟩
    have e : ([x0, x1, x2].take (i + 1)).map quadW = ([x0, x1, x2].take i).map quadW ++ [quadW ([x0, x1, x2].getD i 0)] := by
      rw [List.take_add_one, getElem?_getD hi, List.map_append]; rfl
    rw [e]
    exact hT.snoc l _
  · rintro C dl vs lo D' s ⟨rfl, as, T, rfl, hT, rfl⟩ H
    refine r_dropL H fun s H => ?_
    have H := St.poolEnd H
    simp only [X0, List.cons_append, List.nil_append] at H
    simp only [List.length_cons, List.length_nil, Nat.zero_add, Nat.reduceAdd, List.take_succ_cons, List.take_zero, List.map_cons, List.map_nil] at hT
    have hal : as.length = 3 := by rw [hT.1]; rfl
    obtain ⟨a0, a1, a2, rfl⟩ : ∃ a0 a1 a2, as = [a0, a1, a2] := by
      match as, hal with
      | [a0, a1, a2], _ => exact ⟨a0, a1, a2, rfl⟩
    have m0 : (a0, ITupC (quadW x0)) ∈ T := hT.2 0 a0 rfl
    have m1 : (a1, ITupC (quadW x1)) ∈ T := hT.2 1 a1 rfl
    have m2 : (a2, ITupC (quadW x2)) ∈ T := hT.2 2 a2 rfl
    clear hT hal
    have hq0 := quadW_ok x0
    have hq1 := quadW_ok x1
    have hq2 := quadW_ok x2
    generalize quadW x0 = q0 at m0 hq0
    generalize quadW x1 = q1 at m1 hq1
    generalize quadW x2 = q2 at m2 hq2
    repeat tb_start
    clear_value X0
    have hQ : ∀ (i : Nat) (v : Value), i < 3 → [Value.ref a0, Value.ref a1, Value.ref a2][i]? = some v → ∃ b e m d, v = .ref b ∧ [q0, q1, q2].getD i [] = [e, m, d] ∧ (b, ITupC [e, m, d]) ∈ T ∧ (e = 1 ∨ e = -1) ∧ -1 ≤ m ∧ m ≤ 1 ∧ -3 ≤ d ∧ d ≤ 6 := by
      intro i v hi hv
      match i, hi, hv with
      | 0, _, hv => obtain ⟨e, m, d, rfl, r⟩ := hq0; cases hv; exact ⟨_, _, _, _, rfl, rfl, m0, r⟩
      | 1, _, hv => obtain ⟨e, m, d, rfl, r⟩ := hq1; cases hv; exact ⟨_, _, _, _, rfl, rfl, m1, r⟩
      | 2, _, hv => obtain ⟨e, m, d, rfl, r⟩ := hq2; cases hv; exact ⟨_, _, _, _, rfl, rfl, m2, r⟩
    simp only [List.map_cons, List.map_nil] at H
    let X1 : Led := (dl, ListC [.ref a0, .ref a1, .ref a2]) :: (draws, IntsC [x0, x1, x2]) :: (L + 1, CellC (some (.ref dl))) :: (L + 1 + 1, CellC none) :: (L + 1 + 1 + 1, CellC none) :: (124, TabC #[]) :: T
    refine r_compGo (walk_list dl it [.ref a0, .ref a1, .ref a2]) hA.hh rfl rfl (fun i vs lo D' => lo = [] ∧ ∃ as T2, vs = as.map .ref ∧ Tups as (([q0, q1, q2].take i).map rowW) T2 ∧ D' = T2 ++ X1) ?_ (by simp) ?_ H ⟨rfl, [], [], rfl, Tups.nil, rfl⟩ ?_ ?_
    · rintro acc i vs lo D' ⟨rfl, as, T2, rfl, hT2, rfl⟩
      exact .tail _ (.tail _ (List.mem_append_right _ (.head _)))
    · rintro i vs lo D' ⟨_, as, T2, rfl, hT2, _⟩
      rw [List.length_map, hT2.1, List.length_map, List.length_take]
      omega
    · rintro C acc i v vs lo D' s E3 hi hv ⟨rfl, as, T2, rfl, hT2, rfl⟩ H
      obtain ⟨b, e, m, d, rfl, hq, hb, he, hm1, hm2, hd1, hd2⟩ := hQ i v hi hv
      have hb' : (b, ITupC [e, m, d]) ∈ T2 ++ X1 := List.mem_append_right _ (.tail _ (.tail _ (.tail _ (.tail _ (.tail _ (.tail _ hb))))))
      obtain ⟨X2, hX2⟩ : ∃ X2, X2 = T2 ++ X1 := ⟨_, rfl⟩
      rw [← hX2] at H hb'
      repeat tb_start
      have H := H.imp (a := l) (P' := ITupC (rowW [e, m, d])) (by none_booked) (fun o ho => ⟨_, .cons _ _ (.cons _ _ (.cons _ _ .nil)), ho⟩)
      have H := ((((H.pull 1 rfl).pull 4 rfl).pull 4 rfl).pull 4 rfl).pull 4 rfl
      refine compEnd_loc (D' := (l, ITupC (rowW [e, m, d])) :: X2) H (by regstrif_slice) (by regstrif_gather) ⟨rfl, as ++ [l], (l, _) :: T2, by simp, ?_, by rw [hX2]; rfl⟩
      have e1 : ([q0, q1, q2].take (i + 1)).map rowW = ([q0, q1, q2].take i).map rowW ++ [rowW [e, m, d]] := by
        have e2 : [q0, q1, q2][i]? = some [e, m, d] := by
          have : i < [q0, q1, q2].length := hi
          rw [List.getD_eq_getElem?_getD, List.getElem?_eq_getElem this] at hq
          rw [List.getElem?_eq_getElem this]
          exact congrArg some hq
        rw [List.take_add_one, e2, List.map_append]; rfl
      rw [e1]
      exact hT2.snoc l _
    · rintro C rl vs lo D' s ⟨rfl, as, T2, rfl, hT2, rfl⟩ H
      repeat tb_start
      refine r_dropL H fun s H => ?_
      simp only [List.length_cons, List.length_nil, Nat.zero_add, Nat.reduceAdd, List.take_succ_cons, List.take_zero, List.map_cons, List.map_nil] at hT2
      have hal : as.length = 3 := by rw [hT2.1]; rfl
      obtain ⟨r0, r1, r2, rfl⟩ : ∃ r0 r1 r2, as = [r0, r1, r2] := by
        match as, hal with
        | [r0, r1, r2], _ => exact ⟨r0, r1, r2, rfl⟩
      have n0 : (r0, ITupC (rowW q0)) ∈ T2 := hT2.2 0 r0 rfl
      have n1 : (r1, ITupC (rowW q1)) ∈ T2 := hT2.2 1 r1 rfl
      have n2 : (r2, ITupC (rowW q2)) ∈ T2 := hT2.2 2 r2 rfl
      simp only [List.map_cons, List.map_nil] at H
      have H := St.poolEnd H
      simp only [X1, List.cons_append] at H
      have H := ((((H.pull 7 rfl).pull 7 rfl).pull 7 rfl).pull 7 rfl).pull 4 rfl
      have mT : ∀ {p : Addr × Cell}, p ∈ T → p ∈ (rl, ListC [.ref r0, .ref r1, .ref r2]) :: (dl, ListC [.ref a0, .ref a1, .ref a2]) :: (draws, IntsC [x0, x1, x2]) :: (T ++ T2) := fun hp => .tail _ (.tail _ (.tail _ (List.mem_append_left _ hp)))
      have mT2 : ∀ {p : Addr × Cell}, p ∈ T2 → p ∈ (rl, ListC [.ref r0, .ref r1, .ref r2]) :: (dl, ListC [.ref a0, .ref a1, .ref a2]) :: (draws, IntsC [x0, x1, x2]) :: (T ++ T2) := fun hp => .tail _ (.tail _ (.tail _ (List.mem_append_right _ hp)))
      exact c_lawC (X := (rl, ListC [.ref r0, .ref r1, .ref r2]) :: (dl, ListC [.ref a0, .ref a1, .ref a2]) :: (draws, IntsC [x0, x1, x2]) :: (T ++ T2)) G hA e0 hx0 hx1 (hall q0 q1 q2 hq0 hq1 hq2) hq0 hq1 hq2 (.tail _ (.tail _ (.head _))) (.tail _ (.head _)) (.head _) (mT m0) (mT m1) (mT m2) (mT2 n0) (mT2 n1) (mT2 n2) H h
end
end
section
section
variable {w : World} {A : Around} {E : Value → Shared → Prop} {s₀ s : Shared} {B : Heap} {D D' : Led} {F : Addr × Cell} {a l : Addr} {env : Env}
set_option maxHeartbeats 16000000 in
theorem c_lawBody {L sc : Addr} {vs : List Value} {ws : List Int} {name qual : Str} {params : Arguments} {body : List Stmt} {scope : Scope} {dV kV doc pm cd cdv ct oc : Value} {an od : Option Addr} {osl : Array (Option Value)} {fl : Addr} {Q : Flow → Shared → Prop}
    (G : Base w B) (hA : Ok A 9) (ho : (KF w).lookup 189 = some ⟨oc, od, .func (fnOf name qual params body scope dV kV doc pm an cdv ct), osl⟩) (hsc : B.IsList sc vs.toArray) (hi : IntsAre vs ws) (hlen : ws.length ≤ 63)
    (hall : ∀ q0 q1 q2, isQuad q0 → isQuad q1 → isQuad q2 → LawOk q0 q1 q2)
    (H : St s₀ B ((L, LocC [("script", .ref sc)]) :: (L + 1, CellC none) :: (L + 1 + 1, CellC none) :: (L + 1 + 1 + 1, CellC none) :: (124, TabC #[]) :: []) s)
    (h : ∀ s' D ps, St s₀ B D s' → (124, TabC ps) ∈ D → Q (.ret (.bool true)) s') : wpAny (MM w) A (execs body (envOfC qual scope L fl cd)) Q E s := by
  have e0 := ho
  have e : (KF w).lookup 189 = some ⟨_, _, .func (fnOf _ _ _ _ _ _ _ _ _ _ _ _), _⟩ := rfl
  rw [e] at ho
  injection ho with ho
  injection ho with h1 h2 h3 h4
  injection h3 with h3
  injection h3 with n1 n2 n3 n4 n5 n6 n7 n8 n9 n10 n11 n12 n13 n14
  injection n4 with n4
  subst n2 n4 n5
  clear e n1 n3 n6 n7 n8 n9 n10 n11 n12 n13 n14 h1 h2 h4
  have hvl : vs.length = ws.length := hi.length
  repeat tb_start
  rename_i draws _ _ _
  have H := H.imp (a := draws) (P' := IntsC (drawsW ws 0)) (by none_booked) (fun o ho => ⟨_, .cons _ _ (.cons _ _ (.cons _ _ .nil)), ho⟩)
  refine r_sliceB (n := 20) H hsc (by tb_rel) (by omega) rfl (fun _ => rfl) ?_
  clear H
  intro hd s H
  have hn : (vs.take 20).length = min 20 ws.length := by rw [List.length_take, hvl]
  repeat tb_start
  rw [hn] at H
  have H := H.sub (D' := (L, _) :: (it, _) :: (draws, _) :: (L + 1, _) :: (L + 1 + 1, _) :: (L + 1 + 1 + 1, _) :: (124, _) :: []) (by regstrif_gather)
  refine r_forLoop (walk_range it 0 (min 20 ws.length)) hA.hh (J := fun i F' D' => F' = (L, LocC [("script", .ref sc), ("draws", .ref draws)]) ∧ D' = (draws, IntsC (drawsW ws i)) :: (L + 1, CellC none) :: (L + 1 + 1, CellC none) :: (L + 1 + 1 + 1, CellC none) :: (124, TabC #[]) :: []) (fun _ _ _ _ => trivial) (loc_mono H (by regstrif_slice)) ⟨rfl, rfl⟩ ?_ ?_
  · clear H
    rintro i v _ _ s E' hi' ⟨tv, rfl⟩ ⟨rfl, rfl⟩ H
    have hdl := drawsW_len ws i
    have hi2 : i < ws.length := by omega
    have e1 : (0 + (i : Int)).fmod 3 = ((i % 3 : Nat) : Int) := by rw [Int.fmod_eq_emod_of_nonneg _ (by decide)]; omega
    repeat tb_start
    rw [e1]
    refine r_getI (k := ((i % 3 : Nat) : Int)) H (by tb_rel) (by omega) (by omega) (getElem?_getD (l := drawsW ws i) (k := i % 3) (by omega)) fun t => ?_
    repeat tb_start
    refine r_itemB i H hsc hi (by omega) (by omega) (by omega) rfl fun t => ?_
    repeat tb_start
    refine r_setN (i % 3) H (by none_booked) rfl (by omega) (by omega) ?_
    clear H
    intro s H
    repeat tb_start
    exact turn_loc H (by regstrif_slice) (by regstrif_gather) ⟨rfl, rfl⟩
  · clear H
    rintro _ _ s ⟨rfl, rfl⟩ H
    have hdl := drawsW_len ws (min 20 ws.length)
    have hbd := drawsW_bd ws (min 20 ws.length)
    generalize drawsW ws (min 20 ws.length) = dr at H hdl hbd
    obtain ⟨x0, x1, x2, rfl⟩ : ∃ x0 x1 x2, dr = [x0, x1, x2] := by
      match dr, hdl with
      | [x0, x1, x2], _ => exact ⟨x0, x1, x2, rfl⟩
    have hb0 := hbd x0 (by simp)
    clear hdl hbd
    repeat (with_reducible refine r_then ?_)
    exact c_lawB G hA e0 hb0.1 (by omega) hall (loc_mono H (by regstrif_slice)) h
end
end
section
noncomputable section
noncomputable def evN {α : Type} (n : Nat) (k : Nat → α) : α := Nat.rec (motive := fun _ => α) (k 0) (fun m _ => k (Nat.succ m)) n
noncomputable def evI {α : Type} (x : Int) (k : Int → α) : α := Int.rec (motive := fun _ => α) (fun n => evN n fun n => k (Int.ofNat n)) (fun n => evN n fun n => k (Int.negSucc n)) x
theorem evN_eq {α : Type} (n : Nat) (k : Nat → α) : evN n k = k n := by cases n <;> rfl
theorem evI_eq {α : Type} (x : Int) (k : Int → α) : evI x k = k x := by
  cases x with
  | ofNat n => exact evN_eq n fun n => k (Int.ofNat n)
  | negSucc n => exact evN_eq n fun n => k (Int.negSucc n)
noncomputable def evB {α : Type} (b : Bool) (x y : α) : α := Bool.rec (motive := fun _ => α) y x b
theorem evB_eq {α : Type} (b : Bool) (x y : α) : evB b x y = if b = true then x else y := by cases b <;> rfl
noncomputable def evSubN (a b : Nat) : Int := Bool.rec (motive := fun _ => Int) (Int.negSucc (Nat.pred (Nat.sub b a))) (Int.ofNat (Nat.sub a b)) (Nat.ble b a)
theorem evSubN_eq (a b : Nat) : evSubN a b = (a : Int) - b := by
  unfold evSubN
  cases h : Nat.ble b a with
  | true =>
    have := Nat.le_of_ble_eq_true h
    show ((a - b : Nat) : Int) = _
    omega
  | false =>
    have : ¬ b ≤ a := fun c => by rw [Nat.ble_eq_true_of_le c] at h; cases h
    show Int.negSucc ((b - a) - 1) = _
    rw [Int.negSucc_eq]
    omega
noncomputable def evNg (n : Nat) : Int := Nat.rec (motive := fun _ => Int) (Int.ofNat 0) (fun m _ => Int.negSucc m) n
theorem evNg_eq (n : Nat) : evNg n = -(n : Int) := by cases n <;> rfl
noncomputable def evNeg (x : Int) : Int := Int.rec (motive := fun _ => Int) (fun n => evNg n) (fun n => Int.ofNat (Nat.succ n)) x
theorem evNeg_eq (x : Int) : evNeg x = -x := by
  cases x with
  | ofNat n => exact evNg_eq n
  | negSucc n => rfl
noncomputable def evAdd (x y : Int) : Int := Int.rec (motive := fun _ => Int)
  (fun a => Int.rec (motive := fun _ => Int) (fun b => Int.ofNat (Nat.add a b)) (fun b => evSubN a (Nat.succ b)) y)
  (fun a => Int.rec (motive := fun _ => Int) (fun b => evSubN b (Nat.succ a)) (fun b => Int.negSucc (Nat.succ (Nat.add a b))) y) x
noncomputable def evSub (x y : Int) : Int := Int.rec (motive := fun _ => Int)
  (fun a => Int.rec (motive := fun _ => Int) (fun b => evSubN a b) (fun b => Int.ofNat (Nat.add a (Nat.succ b))) y)
  (fun a => Int.rec (motive := fun _ => Int) (fun b => Int.negSucc (Nat.add a b)) (fun b => evSubN b a) y) x
noncomputable def evMul (x y : Int) : Int := Int.rec (motive := fun _ => Int)
  (fun a => Int.rec (motive := fun _ => Int) (fun b => Int.ofNat (Nat.mul a b)) (fun b => evNg (Nat.mul a (Nat.succ b))) y)
  (fun a => Int.rec (motive := fun _ => Int) (fun b => evNg (Nat.mul (Nat.succ a) b)) (fun b => Int.ofNat (Nat.mul (Nat.succ a) (Nat.succ b))) y) x
theorem evAdd_eq (x y : Int) : evAdd x y = x + y := by
  cases x with
  | ofNat a =>
    cases y with
    | ofNat b => rfl
    | negSucc b => show evSubN a (b + 1) = (a : Int) + Int.negSucc b; rw [evSubN_eq, Int.negSucc_eq]; omega
  | negSucc a =>
    cases y with
    | ofNat b => show evSubN b (a + 1) = Int.negSucc a + (b : Int); rw [evSubN_eq, Int.negSucc_eq]; omega
    | negSucc b => show Int.negSucc (a + b + 1) = Int.negSucc a + Int.negSucc b; rw [Int.negSucc_eq, Int.negSucc_eq, Int.negSucc_eq]; omega
theorem evSub_eq (x y : Int) : evSub x y = x - y := by
  cases x with
  | ofNat a =>
    cases y with
    | ofNat b => exact evSubN_eq a b
    | negSucc b => show ((a + (b + 1) : Nat) : Int) = (a : Int) - Int.negSucc b; rw [Int.negSucc_eq]; omega
  | negSucc a =>
    cases y with
    | ofNat b => show Int.negSucc (a + b) = Int.negSucc a - (b : Int); rw [Int.negSucc_eq, Int.negSucc_eq]; omega
    | negSucc b => show evSubN b a = Int.negSucc a - Int.negSucc b; rw [evSubN_eq, Int.negSucc_eq, Int.negSucc_eq]; omega
theorem evMul_eq (x y : Int) : evMul x y = x * y := by
  cases x with
  | ofNat a =>
    cases y with
    | ofNat b => rfl
    | negSucc b =>
      show evNg (a * (b + 1)) = (a : Int) * Int.negSucc b
      rw [evNg_eq, Int.negSucc_eq, Int.mul_neg]
      simp
  | negSucc a =>
    cases y with
    | ofNat b =>
      show evNg ((a + 1) * b) = Int.negSucc a * (b : Int)
      rw [evNg_eq, Int.negSucc_eq, Int.neg_mul]
      simp
    | negSucc b =>
      show (((a + 1) * (b + 1) : Nat) : Int) = Int.negSucc a * Int.negSucc b
      rw [Int.negSucc_eq, Int.negSucc_eq, Int.neg_mul_neg]
      simp
noncomputable def evZ (x : Int) : Bool := Int.rec (motive := fun _ => Bool) (fun n => Nat.beq n 0) (fun _ => false) x
noncomputable def evLt (x : Int) : Bool := Int.rec (motive := fun _ => Bool) (fun _ => false) (fun _ => true) x
noncomputable def evGt (x : Int) : Bool := Int.rec (motive := fun _ => Bool) (fun n => Nat.ble 1 n) (fun _ => false) x
noncomputable def evAbs (x : Int) : Nat := Int.rec (motive := fun _ => Nat) (fun n => n) (fun n => Nat.succ n) x
theorem evZ_eq (x : Int) : evZ x = decide (x = 0) := by
  cases x with
  | ofNat n => cases n <;> rfl
  | negSucc n => rfl
theorem evLt_eq (x : Int) : evLt x = decide (x < 0) := by
  cases x with
  | ofNat n =>
    have : ¬ ((n : Int) < 0) := by omega
    exact (decide_eq_false this).symm
  | negSucc n => exact (decide_eq_true (by rw [Int.negSucc_eq]; omega)).symm
theorem evGt_eq (x : Int) : evGt x = decide (0 < x) := by
  cases x with
  | ofNat n =>
    cases n with
    | zero => rfl
    | succ n => exact (decide_eq_true (by show (0 : Int) < ((n + 1 : Nat) : Int); omega)).symm
  | negSucc n =>
    have : ¬ (0 < Int.negSucc n) := by rw [Int.negSucc_eq]; omega
    exact (decide_eq_false this).symm
theorem evAbs_eq (x : Int) : evAbs x = x.natAbs := by cases x <;> rfl
noncomputable def elimS (t size : Int) : List Int → List Int → List Int
  | [], _ => []
  | r :: row, [] => r * size :: elimS t size row []
  | r :: row, b :: bs => (r * size - t * b) :: elimS t size row bs
noncomputable def evElim {α : Type} (t size : Int) (row : List Int) : List Int → (List Int → α) → α :=
  List.rec (motive := fun _ => List Int → (List Int → α) → α) (fun _ k => k [])
   (fun r _ ih bs => List.rec (motive := fun _ => (List Int → α) → α) (fun k => evI (evMul r size) fun x => ih [] fun l => k (x :: l))
       (fun b bs _ k => evI (evSub (evMul r size) (evMul t b)) fun x => ih bs fun l => k (x :: l)) bs) row
theorem evElim_eq {α : Type} (t size : Int) : ∀ (row bs : List Int) (k : List Int → α), evElim t size row bs k = k (elimS t size row bs)
  | [], _, _ => rfl
  | r :: row, [], k => by
    show evI (evMul r size) (fun x => evElim t size row [] fun l => k (x :: l)) = _
    rw [evI_eq, evElim_eq t size row, evMul_eq]
    rfl
  | r :: row, b :: bs, k => by
    show evI (evSub (evMul r size) (evMul t b)) (fun x => evElim t size row bs fun l => k (x :: l)) = _
    rw [evI_eq, evElim_eq t size row, evSub_eq, evMul_eq, evMul_eq]
    rfl
theorem elimS_len (t size : Int) : ∀ (row bs : List Int), (elimS t size row bs).length = row.length
  | [], _ => rfl
  | r :: row, [] => by simp [elimS, elimS_len t size row]
  | r :: row, b :: bs => by simp [elimS, elimS_len t size row]
theorem elimS_getD (t size : Int) : ∀ (row bs : List Int) (i : Nat), i < row.length → (elimS t size row bs).getD i 0 = if i < bs.length then row.getD i 0 * size - t * bs.getD i 0 else row.getD i 0 * size
  | [], _, i, h => by simp at h
  | r :: row, [], 0, h => by simp [elimS]
  | r :: row, [], i + 1, h => by
    rw [elimS, List.getD_cons_succ, elimS_getD t size row [] i (by simpa using h)]
    simp
  | r :: row, b :: bs, 0, h => by simp [elimS]
  | r :: row, b :: bs, i + 1, h => by
    rw [elimS, List.getD_cons_succ, elimS_getD t size row bs i (by simpa using h)]
    simp
theorem redK_getD (t size : Int) (by_ : List Int) : ∀ (k : Nat) (row : List Int) (i : Nat), i < row.length → (redK t size by_ k row).getD i 0 = if i < k then (if i + 1 < by_.length then row.getD i 0 * size - t * by_.getD (i + 1) 0 else row.getD i 0 * size) else row.getD i 0
  | 0, row, i, h => by simp [redK]
  | k + 1, row, i, h => by
    have e : redK t size by_ (k + 1) row = (redK t size by_ k row).set k (if k + 1 < by_.length then (redK t size by_ k row).getD k 0 * size - t * by_.getD (k + 1) 0 else (redK t size by_ k row).getD k 0 * size) := rfl
    rw [e]
    by_cases c : i = k
    · subst c
      have hl : i < (redK t size by_ i row).length := by rw [redK_len]; exact h
      have e2 := redK_getD t size by_ i row i h
      rw [if_neg (show ¬ i < i by omega)] at e2
      rw [e2, if_pos (show i < i + 1 by omega)]
      rw [List.getD_eq_getElem?_getD, List.getElem?_set_self hl]
      rfl
    · have e2 := redK_getD t size by_ k row i h
      rw [List.getD_eq_getElem?_getD, List.getElem?_set_ne (by omega), ← List.getD_eq_getElem?_getD, e2]
      by_cases c2 : i < k
      · rw [if_pos c2, if_pos (show i < k + 1 by omega)]
      · rw [if_neg c2, if_neg (show ¬ i < k + 1 by omega)]
theorem ext_getD {l m : List Int} (hl : l.length = m.length) (h : ∀ i, i < l.length → l.getD i 0 = m.getD i 0) : l = m := by
  refine List.ext_getElem hl fun i h1 h2 => ?_
  have := h i h1
  rw [List.getD_eq_getElem?_getD, List.getD_eq_getElem?_getD, List.getElem?_eq_getElem h1, List.getElem?_eq_getElem h2] at this
  exact this
theorem redK_elim (t size b0 : Int) (bs row : List Int) : redK t size (b0 :: bs) row.length row = elimS t size row bs := by
  refine ext_getD (by rw [redK_len, elimS_len]) fun i h => ?_
  rw [redK_len] at h
  rw [redK_getD t size _ _ _ i h, if_pos h, elimS_getD t size row bs i h]
  simp
noncomputable def evRed {α : Type} (b0 : Int) (bs : List Int) (lb : Nat) (k : List Int → Nat → α) (n : Nat) : List Int → Nat → α :=
  Nat.rec (motive := fun _ => List Int → Nat → α) (fun row len => k row len)
   (fun _ ih row len => List.rec (motive := fun _ => α) (k [] 0)
      (fun t row _ => evB (evZ t) (ih row (Nat.pred len))
         (evB (Nat.ble lb len) (evB (evLt b0) (evElim (evNeg t) (evNeg b0) row bs fun r => ih r (Nat.pred len)) (evElim t b0 row bs fun r => ih r (Nat.pred len)))
           (k (t :: row) len))) row) n
theorem evRed_eq {α : Type} (b0 : Int) (bs : List Int) (k : List Int → Nat → α) : ∀ (n : Nat) (row : List Int),
    evRed b0 bs (bs.length + 1) k n row row.length = k (restRow (b0 :: bs) n row) (restRow (b0 :: bs) n row).length
  | 0, row => rfl
  | n + 1, [] => rfl
  | n + 1, t :: row => by
    show evB (evZ t) (evRed b0 bs (bs.length + 1) k n row row.length)
         (evB (Nat.ble (bs.length + 1) (row.length + 1)) (evB (evLt b0) (evElim (evNeg t) (evNeg b0) row bs fun r => evRed b0 bs (bs.length + 1) k n r row.length) (evElim t b0 row bs fun r => evRed b0 bs (bs.length + 1) k n r row.length))
           (k (t :: row) (row.length + 1))) = _
    have e : restRow (b0 :: bs) (n + 1) (t :: row) = if (b0 :: bs).length ≤ row.length + 1 ∨ t = 0 then restRow (b0 :: bs) n (redW (b0 :: bs) t row) else t :: row := rfl
    rw [e, evB_eq, evZ_eq, evB_eq, evB_eq, evLt_eq]
    by_cases c : t = 0
    · rw [if_pos (by simpa using c), if_pos (.inr c), evRed_eq b0 bs k n row, redW, if_pos c]
    · rw [if_neg (by simpa using c)]
      by_cases c2 : bs.length + 1 ≤ row.length + 1
      · have c4 : (b0 :: bs).length ≤ row.length + 1 ∨ t = 0 := .inl c2
        rw [if_pos (Nat.ble_eq_true_of_le c2), if_pos c4, redW, if_neg c, evElim_eq, evElim_eq, evNeg_eq, evNeg_eq, redK_elim, redK_elim]
        have h1 := evRed_eq b0 bs k n (elimS (-t) (-b0) row bs)
        have h2 := evRed_eq b0 bs k n (elimS t b0 row bs)
        rw [elimS_len] at h1 h2
        by_cases c3 : b0 < 0
        · rw [if_pos (by simpa using c3), h1, if_pos (by simpa using c3)]
          rfl
        · rw [if_neg (by simpa using c3), h2, if_neg (by simpa using c3)]
          rfl
      · have c3 : ¬ ((b0 :: bs).length ≤ row.length + 1 ∨ t = 0) := by
          rintro (d | d)
          · exact c2 d
          · exact c d
        rw [if_neg (fun d => c2 (Nat.le_of_ble_eq_true d)), if_neg c3]
        rfl
noncomputable def evG (row : List Int) : Nat → Nat :=
  List.rec (motive := fun _ => Nat → Nat) (fun c => c) (fun x _ ih c => ih (Nat.gcd c (evAbs x))) row
theorem evG_eq : ∀ (row : List Int) (c : Nat), ((evG row c : Nat) : Int) = row.foldl (fun c x => (Int.gcd c x : Int)) (c : Int)
  | [], c => rfl
  | x :: row, c => by
    show ((evG row (Nat.gcd c (evAbs x)) : Nat) : Int) = _
    rw [evG_eq row, evAbs_eq]
    rfl
theorem evG_dvd : ∀ (row : List Int) (c : Nat), evG row c ∣ c ∧ ∀ x ∈ row, ((evG row c : Nat) : Int) ∣ x
  | [], c => ⟨Nat.dvd_refl _, fun x h => by simp at h⟩
  | x :: row, c => by
    have e : evG (x :: row) c = evG row (Nat.gcd c x.natAbs) := by
      show evG row (Nat.gcd c (evAbs x)) = _
      rw [evAbs_eq]
    rw [e]
    have h := evG_dvd row (Nat.gcd c x.natAbs)
    refine ⟨Nat.dvd_trans h.1 (Nat.gcd_dvd_left ..), fun y hy => ?_⟩
    rcases List.mem_cons.mp hy with rfl | hy
    · exact Int.ofNat_dvd_left.mpr (Nat.dvd_trans h.1 (Nat.gcd_dvd_right ..))
    · exact h.2 y hy
theorem restG_ev (row : List Int) : restG row = ((evG row 0 : Nat) : Int) := (evG_eq row 0).symm
noncomputable def evDiv1 (c : Nat) (x : Int) : Int := Int.rec (motive := fun _ => Int) (fun n => Int.ofNat (Nat.div n c)) (fun n => evNg (Nat.div (Nat.succ n) c)) x
theorem evDiv1_eq (c : Nat) (x : Int) (h : (c : Int) ∣ x) : evDiv1 c x = x.fdiv (c : Int) := by
  rw [Int.fdiv_eq_ediv_of_dvd h]
  cases x with
  | ofNat n => rfl
  | negSucc n =>
    show evNg ((n + 1) / c) = _
    have h' : c ∣ n + 1 := by
      have := Int.ofNat_dvd_left.mp h
      simpa using this
    rw [evNg_eq, Int.negSucc_eq, Int.neg_ediv_of_dvd (by exact_mod_cast h')]
    simp
noncomputable def evDiv {α : Type} (c : Nat) (row : List Int) : (List Int → α) → α :=
  List.rec (motive := fun _ => (List Int → α) → α) (fun k => k []) (fun x _ ih k => evI (evDiv1 c x) fun y => ih fun l => k (y :: l)) row
noncomputable def evDivN {α : Type} (c : Nat) (row : List Int) : (List Int → α) → α :=
  List.rec (motive := fun _ => (List Int → α) → α) (fun k => k []) (fun x _ ih k => evI (evNeg (evDiv1 c x)) fun y => ih fun l => k (y :: l)) row
theorem evDiv_eq {α : Type} (c : Nat) : ∀ (row : List Int) (k : List Int → α), (∀ x ∈ row, (c : Int) ∣ x) → evDiv c row k = k (row.map (·.fdiv (c : Int)))
  | [], k, _ => rfl
  | x :: row, k, h => by
    show evI (evDiv1 c x) (fun y => evDiv c row fun l => k (y :: l)) = _
    rw [evI_eq, evDiv_eq c row _ (fun y hy => h y (List.mem_cons_of_mem _ hy)), evDiv1_eq c x (h x (List.mem_cons_self ..))]
    rfl
theorem evDivN_eq {α : Type} (c : Nat) : ∀ (row : List Int) (k : List Int → α), (∀ x ∈ row, (c : Int) ∣ x) → evDivN c row k = k (negL (row.map (·.fdiv (c : Int))))
  | [], k, _ => rfl
  | x :: row, k, h => by
    show evI (evNeg (evDiv1 c x)) (fun y => evDivN c row fun l => k (y :: l)) = _
    rw [evI_eq, evDivN_eq c row _ (fun y hy => h y (List.mem_cons_of_mem _ hy)), evNeg_eq, evDiv1_eq c x (h x (List.mem_cons_self ..))]
    rfl
noncomputable def evSm (row : List Int) : Bool := List.rec (motive := fun _ => Bool) true (fun x _ ih => evB (Nat.ble (evAbs x) 18446744073709551615) ih false) row
theorem evSm_ok : ∀ (row : List Int), evSm row = true → small row
  | [], _ => fun x h => by simp at h
  | x :: row, h => by
    have e : evSm (x :: row) = evB (Nat.ble (evAbs x) 18446744073709551615) (evSm row) false := rfl
    rw [e, evB_eq] at h
    split at h
    · rename_i c
      have c := Nat.le_of_ble_eq_true c
      rw [evAbs_eq] at c
      intro y hy
      rcases List.mem_cons.mp hy with rfl | hy
      · omega
      · exact evSm_ok row h y hy
    · cases h
noncomputable def evOdd (n : Nat) : Bool := Nat.beq (Nat.mod n 2) 1
end
end
section
noncomputable section
noncomputable def rB (p : List Int) : Bool := decide (0 < p.getD 0 0)
noncomputable def lB (p : List Int) : Bool := (decide (0 < p.getD 0 0) == (p.length % 2 == 1))
noncomputable def evXor (a b : Bool) : Bool := evB a (evB b false true) b
theorem evXor_eq (a b : Bool) : evXor a b = (a != b) := by cases a <;> cases b <;> rfl
noncomputable def evEqv (a b : Bool) : Bool := evB a b (evB b false true)
theorem evEqv_eq (a b : Bool) : evEqv a b = (a == b) := by cases a <;> cases b <;> rfl
theorem evOdd_eq (n : Nat) : evOdd n = (n % 2 == 1) := by
  show Nat.beq (n % 2) 1 = _
  rcases Nat.mod_two_eq_zero_or_one n with h | h <;> rw [h] <;> rfl
noncomputable def evChain (k : Nat → Nat → Nat → Bool) (n : Nat) : List Int → Nat → List Int → Nat → Bool → Bool → Nat → Nat → Bool :=
  Nat.rec (motive := fun _ => List Int → Nat → List Int → Nat → Bool → Bool → Nat → Nat → Bool) (fun _ _ _ _ _ _ _ _ => false)
   (fun _ ih p lp q lq r l vl vr => List.rec (motive := fun _ => Bool) (k vl vr lp)
      (fun q0 qs _ => evB (evSm (q0 :: qs)) (
        evRed q0 qs lq (fun row len => evN (evG row 0) fun c => evB (Nat.ble c 18446744073709551615) (evDivN c row fun row => 
            evN (evB (evXor l (evEqv (evGt q0) (evOdd lq))) (Nat.succ vl) vl) fun vl =>
            evN (evB (evXor r (evGt q0)) (Nat.succ vr) vr) fun vr =>
            evN len fun len =>
              ih (q0 :: qs) lq row len (evGt q0) (evEqv (evGt q0) (evOdd lq)) vl vr) false) lp p lp) false) q) n
theorem chainW_head : ∀ (n : Nat) (p q : List Int), ∃ tl, chainW n p q = p :: tl
  | 0, p, q => ⟨_, rfl⟩
  | n + 1, p, q => ⟨_, rfl⟩
theorem log2_small (n : Nat) (h : n ≤ 18446744073709551615) : n.log2 < 9000 := by
  by_cases e : n = 0
  · subst e; decide
  · have := (Nat.log2_lt e (k := 64)).mpr (by omega)
    omega
theorem negL_len (l : List Int) : (negL l).length = l.length := by simp [negL]
theorem evChain_ok (k : Nat → Nat → Nat → Bool) : ∀ (n : Nat) (p q : List Int) (vl vr : Nat), p.length < 1000 → q.length < 1000 → 0 < p.length → small p →
    evChain k n p p.length q q.length (rB p) (lB p) vl vr = true →
    chainOk n p q ∧ k (vl + (flips (leftB (chainW n p q))).count true) (vr + (flips (rightB (chainW n p q))).count true) ((chainW n p q).getLastD []).length = true
  | 0, p, q, vl, vr, _, _, _, _, h => by cases h
  | n + 1, p, [], vl, vr, h1, h2, h3, h4, h => ⟨⟨⟨h3, h1, h4⟩, .inl rfl⟩, h⟩
  | n + 1, p, q0 :: qs, vl, vr, h1, h2, h3, h4, h => by
    have e : evChain k (n + 1) p p.length (q0 :: qs) (q0 :: qs).length (rB p) (lB p) vl vr = evB (evSm (q0 :: qs)) (
        evRed q0 qs (qs.length + 1) (fun row len => evN (evG row 0) fun c => evB (Nat.ble c 18446744073709551615) (evDivN c row fun row => 
            evN (evB (evXor (lB p) (evEqv (evGt q0) (evOdd (qs.length + 1)))) (Nat.succ vl) vl) fun vl =>
            evN (evB (evXor (rB p) (evGt q0)) (Nat.succ vr) vr) fun vr =>
            evN len fun len =>
              evChain k n (q0 :: qs) (qs.length + 1) row len (evGt q0) (evEqv (evGt q0) (evOdd (qs.length + 1))) vl vr) false) p.length p p.length) false := rfl
    rw [e, evB_eq] at h
    clear e
    split at h
    · rename_i c
      have hsq := evSm_ok _ c
      rw [evRed_eq] at h
      have hdv := (evG_dvd (restRow (q0 :: qs) p.length p) 0).2
      have hG := restG_ev (restRow (q0 :: qs) p.length p)
      have hW : restW p (q0 :: qs) = (restRow (q0 :: qs) p.length p).map (·.fdiv ((evG (restRow (q0 :: qs) p.length p) 0 : Nat) : Int)) := by rw [← hG]; rfl
      have hlt := restW_lt p (q0 :: qs) (by simp)
      rw [evN_eq, evB_eq] at h
      split at h
      · rename_i c2
        have c2 := Nat.le_of_ble_eq_true c2
        rw [evDivN_eq _ _ _ hdv, ← hW, evN_eq, evN_eq, evN_eq] at h
        have hlen : (restRow (q0 :: qs) p.length p).length = (negL (restW p (q0 :: qs))).length := by rw [negL_len, hW, List.length_map]
        have er : evGt q0 = rB (q0 :: qs) := evGt_eq q0
        have el : evEqv (evGt q0) (evOdd (qs.length + 1)) = lB (q0 :: qs) := by rw [evEqv_eq, evGt_eq, evOdd_eq]; rfl
        rw [hlen, el, er, evXor_eq, evXor_eq] at h
        obtain ⟨k1, k2⟩ := evChain_ok k n (q0 :: qs) (negL (restW p (q0 :: qs))) _ _ h2 (by rw [negL_len]; omega) (by simp) hsq h
        refine ⟨⟨⟨h3, h1, h4⟩, .inr ⟨⟨by simp, h2, hsq⟩, ?_, k1⟩⟩, ?_⟩
        · rw [hG]
          exact log2_small _ (by simpa using c2)
        · have ec : chainW (n + 1) p (q0 :: qs) = p :: chainW n (q0 :: qs) (negL (restW p (q0 :: qs))) := by rw [chainW, if_neg (by simp)]
          rw [ec]
          obtain ⟨tl, et⟩ := chainW_head n (q0 :: qs) (negL (restW p (q0 :: qs)))
          rw [et] at k2 ⊢
          have e1 : flips (leftB (p :: (q0 :: qs) :: tl)) = (lB p != lB (q0 :: qs)) :: flips (leftB ((q0 :: qs) :: tl)) := rfl
          have e2 : flips (rightB (p :: (q0 :: qs) :: tl)) = (rB p != rB (q0 :: qs)) :: flips (rightB ((q0 :: qs) :: tl)) := rfl
          rw [e1, e2, List.count_cons, List.count_cons]
          have e3 : (p :: (q0 :: qs) :: tl).getLastD [] = ((q0 :: qs) :: tl).getLastD [] := rfl
          rw [e3]
          rw [evB_eq, evB_eq] at k2
          refine (congrFun (congr (congrArg k ?_) ?_) _).trans k2
          · cases (lB p != lB (q0 :: qs))
            · simp
            · simp; omega
          · cases (rB p != rB (q0 :: qs))
            · simp
            · simp; omega
      · cases h
    · cases h
noncomputable abbrev T3 := Int × Int × Int
noncomputable def t3 (r : List Int) : T3 := (r.getD 0 0, r.getD 1 0, r.getD 2 0)
noncomputable def evSgn (x : Int) : Int := evB (evGt x) (Int.ofNat 1) (evB (evLt x) (Int.negSucc 0) (Int.ofNat 0))
theorem evSgn_eq (x : Int) : evSgn x = (if 0 < x then 1 else 0) - (if x < 0 then 1 else 0) := by
  unfold evSgn
  rw [evB_eq, evB_eq, evGt_eq, evLt_eq]
  by_cases c : 0 < x
  · rw [if_pos (by simpa using c), if_pos c, if_neg (by omega)]; rfl
  · rw [if_neg (by simpa using c), if_neg c]
    by_cases c2 : x < 0
    · rw [if_pos (by simpa using c2), if_pos c2]; rfl
    · rw [if_neg (by simpa using c2), if_neg c2]; rfl
noncomputable def evSum (m d : Int) (k : Int → Nat → Bool) (l : List T3) : Int → Nat → Bool :=
  List.rec (motive := fun _ => Int → Nat → Bool) (fun acc al => k acc al) (fun r _ ih acc al =>
     evI (evSub r.1 m) fun y => evI (evSub (evAdd (evMul y y) r.2.2) d) fun e => evI (evMul (evMul (Int.ofNat 2) r.2.1) y) fun o =>
     evI (evB (evLt r.2.2) acc (evAdd acc (evSgn (evAdd (evMul e (Int.ofNat (evAbs e))) (evMul (evMul o (Int.ofNat (evAbs o))) r.2.2))))) fun acc =>
     evN (evB (evB (evZ e) (evZ o) false) al (Nat.succ al)) fun al => ih acc al) l
noncomputable def realB (r : List Int) : Bool := decide (0 ≤ r.getD 2 0)
noncomputable def aliveB (q r : List Int) : Bool := !decide (partsW r q = [0, 0])
theorem max_abs (x : Int) : max x (-x) = Int.ofNat (evAbs x) := by
  rw [evAbs_eq]
  show _ = ((x.natAbs : Nat) : Int)
  omega
theorem parts1 (r : List Int) (m d : Int) : partsW r [1, m, d] = [(r.getD 0 0 - m) * (r.getD 0 0 - m) + r.getD 2 0 - d, 2 * r.getD 1 0 * (r.getD 0 0 - m)] := by
  have e : (r.getD 0 0 - m) ^ 2 = (r.getD 0 0 - m) * (r.getD 0 0 - m) := by rw [Int.pow_succ, Int.pow_succ, Int.pow_zero, Int.one_mul]
  have e2 : partsW r [1, m, d] = [1 * ((r.getD 0 0 - m) ^ 2 + r.getD 2 0 - d), 1 * 2 * r.getD 1 0 * (r.getD 0 0 - m)] := rfl
  rw [e2, e, Int.one_mul, Int.one_mul]
theorem evSum_eq (m d : Int) (k : Int → Nat → Bool) : ∀ (l : List (List Int)) (acc : Int) (al : Nat),
    evSum m d k (l.map t3) acc al = k (acc + ((l.filter realB).map fun r => signW r [1, m, d]).sum) (al + (l.filter (aliveB [1, m, d])).length)
  | [], acc, al => by
    show k acc al = _
    simp
  | r :: l, acc, al => by
    have e : evSum m d k ((r :: l).map t3) acc al = (evI (evSub (r.getD 0 0) m) fun y => evI (evSub (evAdd (evMul y y) (r.getD 2 0)) d) fun e => evI (evMul (evMul (Int.ofNat 2) (r.getD 1 0)) y) fun o =>
     evI (evB (evLt (r.getD 2 0)) acc (evAdd acc (evSgn (evAdd (evMul e (Int.ofNat (evAbs e))) (evMul (evMul o (Int.ofNat (evAbs o))) (r.getD 2 0)))))) fun acc =>
     evN (evB (evB (evZ e) (evZ o) false) al (Nat.succ al)) fun al => evSum m d k (l.map t3) acc al) := rfl
    rw [e, evI_eq, evI_eq, evI_eq, evI_eq, evN_eq, evSum_eq m d k l]
    have hp := parts1 r m d
    simp only [evSub_eq, evAdd_eq, evMul_eq]
    have e2 : (Int.ofNat 2) = 2 := rfl
    rw [e2]
    generalize hE : (r.getD 0 0 - m) * (r.getD 0 0 - m) + r.getD 2 0 - d = E at hp ⊢
    generalize hO : 2 * r.getD 1 0 * (r.getD 0 0 - m) = O at hp ⊢
    have hs : signW r [1, m, d] = evSgn (E * Int.ofNat (evAbs E) + O * Int.ofNat (evAbs O) * r.getD 2 0) := by
      rw [evSgn_eq]
      unfold signW sizeW
      rw [hp, ← max_abs, ← max_abs]
      rfl
    have ha : aliveB [1, m, d] r = !(evB (evZ E) (evZ O) false) := by
      unfold aliveB
      rw [hp, evB_eq, evZ_eq, evZ_eq]
      by_cases c1 : E = 0 <;> by_cases c2 : O = 0 <;> simp [c1, c2]
    rw [← hs]
    congr 1
    · rw [evB_eq, evLt_eq, List.filter_cons]
      by_cases c : r.getD 2 0 < 0
      · have c' : realB r = false := decide_eq_false (by omega)
        rw [if_pos (by simpa using c), c']
        simp
      · have c' : realB r = true := decide_eq_true (by omega)
        rw [if_neg (by simpa using c), c']
        simp only [if_true, List.map_cons, List.sum_cons]
        omega
    · rw [evB_eq, List.filter_cons, ha]
      cases evB (evZ E) (evZ O) false
      · simp; omega
      · simp
noncomputable def evEq (a b : Int) : Bool := evZ (evSub a b)
theorem evEq_ok {a b : Int} (h : evEq a b = true) : a = b := by
  unfold evEq at h
  rw [evZ_eq, evSub_eq] at h
  have := of_decide_eq_true h
  omega
noncomputable def evL (l : List Int) : (List Int → Bool) → Bool := List.rec (motive := fun _ => (List Int → Bool) → Bool) (fun k => k []) (fun x _ ih k => evI x fun y => ih fun l => k (y :: l)) l
theorem evL_eq : ∀ (l : List Int) (k : List Int → Bool), evL l k = k l
  | [], k => rfl
  | x :: l, k => by
    show evI x (fun y => evL l fun l => k (y :: l)) = _
    rw [evI_eq, evL_eq l]
noncomputable def evT (l : List (List Int)) : (List T3 → Bool) → Bool := List.rec (motive := fun _ => (List T3 → Bool) → Bool) (fun k => k [])
  (fun r _ ih k => evI (r.getD 0 0) fun a => evI (r.getD 1 0) fun b => evI (r.getD 2 0) fun c => ih fun l => k ((a, b, c) :: l)) l
theorem evT_eq : ∀ (l : List (List Int)) (k : List T3 → Bool), evT l k = k (l.map t3)
  | [], k => rfl
  | r :: l, k => by
    show evI (r.getD 0 0) (fun a => evI (r.getD 1 0) fun b => evI (r.getD 2 0) fun c => evT l fun l => k ((a, b, c) :: l)) = _
    rw [evI_eq, evI_eq, evI_eq, evT_eq l]
    rfl
noncomputable def evReal (l : List T3) : Nat := List.rec (motive := fun _ => Nat) 0 (fun r _ ih => evB (evLt r.2.2) ih (Nat.succ ih)) l
theorem evReal_eq : ∀ l : List (List Int), evReal (l.map t3) = (l.filter realB).length
  | [] => rfl
  | r :: l => by
    show evB (evLt (r.getD 2 0)) (evReal (l.map t3)) (Nat.succ (evReal (l.map t3))) = _
    rw [evB_eq, evReal_eq l, evLt_eq, List.filter_cons]
    by_cases c : r.getD 2 0 < 0
    · have c' : realB r = false := decide_eq_false (by omega)
      rw [if_pos (by simpa using c), c']
      simp
    · have c' : realB r = true := decide_eq_true (by omega)
      rw [if_neg (by simpa using c), c']
      simp
noncomputable def evAll {α : Type} (f : α → Bool) (l : List α) : Bool := List.rec (motive := fun _ => Bool) true (fun a _ ih => evB (f a) ih false) l
theorem evAll_ok {α : Type} (f : α → Bool) : ∀ (l : List α), evAll f l = true → ∀ a ∈ l, f a = true
  | [], _, a, h => by simp at h
  | x :: l, h, a, ha => by
    have e : evAll f (x :: l) = evB (f x) (evAll f l) false := rfl
    rw [e, evB_eq] at h
    split at h
    · rename_i c
      rcases List.mem_cons.mp ha with rfl | ha
      · exact c
      · exact evAll_ok f l h a ha
    · cases h
noncomputable def evAddR (a : List Int) : List Int → List Int :=
  List.rec (motive := fun _ => List Int → List Int) (fun r => r) (fun x l ih r => List.rec (motive := fun _ => List Int) (x :: l) (fun y r _ => evAdd x y :: ih r) r) a
noncomputable def evScl (a : Int) (l : List Int) : List Int := List.rec (motive := fun _ => List Int) [] (fun b _ ih => evMul a b :: ih) l
noncomputable def evProd (a : List Int) (q : List Int) : List Int := List.rec (motive := fun _ => List Int) [] (fun x _ ih => evAddR (evScl x q) (Int.ofNat 0 :: ih)) a
theorem evProd_43 (a b c d e f g : Int) : evProd [a, b, c, d] [e, f, g] = prodW [a, b, c, d] [e, f, g] := by
  have e1 : evProd [a, b, c, d] [e, f, g] = [evAdd (evMul a e) 0, evAdd (evMul a f) (evAdd (evMul b e) 0), evAdd (evMul a g) (evAdd (evMul b f) (evAdd (evMul c e) 0)), evAdd (evMul b g) (evAdd (evMul c f) (evAdd (evMul d e) 0)), evAdd (evMul c g) (evMul d f), evMul d g] := rfl
  have e2 : prodW [a, b, c, d] [e, f, g] = [0 + a * e, 0 + a * f + b * e, 0 + a * g + b * f + c * e, 0 + b * g + c * f + d * e, 0 + c * g + d * f, 0 + d * g] := by kernel_rfl
  rw [e1, e2]
  simp only [evAdd_eq, evMul_eq, Int.zero_add, Int.add_zero, Int.add_assoc]
noncomputable def evQuad (m d : Int) : List Int := [Int.ofNat 1, evMul (Int.negSucc 1) m, evSub (evMul m m) d]
theorem evQuad_eq (m d : Int) : evQuad m d = rowW [1, m, d] := by
  unfold evQuad rowW
  rw [evMul_eq, evSub_eq, evMul_eq]
  simp
end
end
section
noncomputable section
noncomputable def evCase (p0 : Int) (tl sl : List Int) (rs : List T3) (m d : Int) : Bool :=
  evL (evProd sl (evQuad m d)) fun s => evRed p0 tl 5 (fun row len => evN (evG row 0) fun c => evB (Nat.ble c 18446744073709551615) (evDiv c row fun h => evN len fun len =>
    evSum m d (fun tot al => evChain (fun vl vr lp => evB (evEq (evSub (Int.ofNat vl) (Int.ofNat vr)) tot) (Nat.beq (Nat.add lp al) 5) false) 9 (p0 :: tl) 5 h len (evGt p0) (evEqv (evGt p0) true) 0 0) rs (Int.ofNat 0) 0) false) 6 s 6
noncomputable def evMs : List Int := [Int.negSucc 0, Int.ofNat 0, Int.ofNat 1]
noncomputable def evDs : List Int := [Int.negSucc 2, Int.negSucc 1, Int.negSucc 0, Int.ofNat 0, Int.ofNat 1, Int.ofNat 2, Int.ofNat 3, Int.ofNat 4, Int.ofNat 5, Int.ofNat 6]
noncomputable def evRow (p : List Int) (sl : List Int) (rs : List T3) : Bool :=
  List.rec (motive := fun _ => Bool) false (fun p0 tl _ => evB (evSm (p0 :: tl)) (evB (evSm sl)
    (evB (evChain (fun vl vr lp => evB (evEq (evSub (Int.ofNat vl) (Int.ofNat vr)) (Int.ofNat (evReal rs))) (Nat.beq (Nat.add lp rs.length) 5) false) 9 (p0 :: tl) 5 sl 4 (evGt p0) (evEqv (evGt p0) true) 0 0)
      (evAll (fun m => evAll (fun d => evCase p0 tl sl rs m d) evDs) evMs) false) false) false) p
noncomputable def evPair (m0 d0 m1 d1 : Int) : Bool :=
  evI m0 fun m0 => evI d0 fun d0 => evI m1 fun m1 => evI d1 fun d1 =>
  evL (prodW (rowW [1, m0, d0]) (rowW [1, m1, d1])) fun p => evL (slopeW p) fun sl => evT (rootsW [[1, m0, d0], [1, m1, d1]]) fun rs => evRow p sl rs
theorem evB_true {a b : Bool} (h : evB a b false = true) : a = true ∧ b = true := by
  rw [evB_eq] at h
  split at h
  · rename_i c; exact ⟨c, h⟩
  · cases h
theorem prodW_length (one two : List Int) : (prodW one two).length = one.length + two.length - 1 := by
  unfold prodW; rw [out_len, List.length_replicate]
theorem end_ok {vl vr lp al : Nat} {tot : Int} (h : evB (evEq (evSub (Int.ofNat vl) (Int.ofNat vr)) tot) (Nat.beq (Nat.add lp al) 5) false = true) : (vl : Int) - vr = tot ∧ (lp : Int) - 1 = 4 - (al : Int) := by
  obtain ⟨h1, h2⟩ := evB_true h
  have h1 := evEq_ok h1
  rw [evSub_eq] at h1
  have h2 := Nat.eq_of_beq_eq_true h2
  have h2 : lp + al = 5 := h2
  exact ⟨h1, by omega⟩
theorem left5 (p0 : Int) (tl : List Int) (ht : tl.length = 4) : evEqv (evGt p0) true = lB (p0 :: tl) := by
  rw [evEqv_eq, evGt_eq]
  unfold lB
  rw [List.length_cons, ht]
  rfl
structure CaseOk (p sl : List Int) (roots : List (List Int)) (q : List Int) : Prop where
  gap : (restG (restRow p (prodW sl (rowW q)).length (prodW sl (rowW q)))).natAbs.log2 < 9000
  c2 : chainOk 9 p (restW (prodW sl (rowW q)) p)
  f2 : fallW (chainW 9 p (restW (prodW sl (rowW q)) p)) = ((roots.filter realB).map fun r => signW r q).sum
  l2 : ((((chainW 9 p (restW (prodW sl (rowW q)) p)).getLastD []).length : Int)) - 1 = 4 - ((roots.filter (aliveB q)).length : Int)
theorem evCase_ok {p0 : Int} {tl sl : List Int} {roots : List (List Int)} {m d : Int} (ht : tl.length = 4) (hs : sl.length = 4) (hp : small (p0 :: tl))
    (h : evCase p0 tl sl (roots.map t3) m d = true) : CaseOk (p0 :: tl) sl roots [1, m, d] := by
  unfold evCase at h
  obtain ⟨s0, s1, s2, s3, rfl⟩ : ∃ a b c d, sl = [a, b, c, d] := by
    match sl, hs with
    | [a, b, c, d], _ => exact ⟨a, b, c, d, rfl⟩
  have hq : ∃ a b c, rowW [1, m, d] = [a, b, c] := ⟨_, _, _, rfl⟩
  rw [evL_eq, evQuad_eq] at h
  obtain ⟨a, b, c, hq⟩ := hq
  have hsg : evProd [s0, s1, s2, s3] (rowW [1, m, d]) = prodW [s0, s1, s2, s3] (rowW [1, m, d]) := by rw [hq]; exact evProd_43 ..
  have hl : (prodW [s0, s1, s2, s3] (rowW [1, m, d])).length = 6 := by rw [prodW_length, hq]; rfl
  rw [hsg] at h
  clear hsg hq
  have goal : ∀ sg : List Int, sg.length = 6 → evRed p0 tl 5 (fun row len => evN (evG row 0) fun c => evB (Nat.ble c 18446744073709551615) (evDiv c row fun h => evN len fun len =>
    evSum m d (fun tot al => evChain (fun vl vr lp => evB (evEq (evSub (Int.ofNat vl) (Int.ofNat vr)) tot) (Nat.beq (Nat.add lp al) 5) false) 9 (p0 :: tl) 5 h len (evGt p0) (evEqv (evGt p0) true) 0 0) (roots.map t3) (Int.ofNat 0) 0) false) 6 sg 6 = true →
      (restG (restRow (p0 :: tl) sg.length sg)).natAbs.log2 < 9000 ∧ chainOk 9 (p0 :: tl) (restW sg (p0 :: tl)) ∧ fallW (chainW 9 (p0 :: tl) (restW sg (p0 :: tl))) = ((roots.filter realB).map fun r => signW r [1, m, d]).sum ∧
      ((((chainW 9 (p0 :: tl) (restW sg (p0 :: tl))).getLastD []).length : Int)) - 1 = 4 - ((roots.filter (aliveB [1, m, d])).length : Int) := by
    clear h hl
    intro sg hl h
    have er := evRed_eq p0 tl (fun row len => evN (evG row 0) fun c => evB (Nat.ble c 18446744073709551615) (evDiv c row fun h => evN len fun len =>
      evSum m d (fun tot al => evChain (fun vl vr lp => evB (evEq (evSub (Int.ofNat vl) (Int.ofNat vr)) tot) (Nat.beq (Nat.add lp al) 5) false) 9 (p0 :: tl) 5 h len (evGt p0) (evEqv (evGt p0) true) 0 0) (roots.map t3) (Int.ofNat 0) 0) false) 6 sg
    rw [hl, ht] at er
    have er := er.symm.trans h
    clear h
    have hdv := (evG_dvd (restRow (p0 :: tl) 6 sg) 0).2
    have hG := restG_ev (restRow (p0 :: tl) 6 sg)
    have hW : restW sg (p0 :: tl) = (restRow (p0 :: tl) 6 sg).map (·.fdiv ((evG (restRow (p0 :: tl) 6 sg) 0 : Nat) : Int)) := by rw [← hG, ← hl]; rfl
    have hlt := restW_lt sg (p0 :: tl) (by simp)
    rw [evN_eq] at er
    obtain ⟨e1, e2⟩ := evB_true er
    rw [evDiv_eq _ _ _ hdv, ← hW, evN_eq, evSum_eq] at e2
    have hlen : (restRow (p0 :: tl) 6 sg).length = (restW sg (p0 :: tl)).length := by rw [hW, List.length_map]
    have h5 : (5 : Nat) = (p0 :: tl).length := by rw [List.length_cons, ht]
    have er : evGt p0 = rB (p0 :: tl) := evGt_eq p0
    rw [hlen, left5 p0 tl ht, er] at e2
    have hlp : (p0 :: tl).length = 5 := h5.symm
    have ck := evChain_ok (fun vl vr lp => evB (evEq (evSub (Int.ofNat vl) (Int.ofNat vr)) (Int.ofNat 0 + ((roots.filter realB).map fun r => signW r [1, m, d]).sum)) (Nat.beq (Nat.add lp (0 + (roots.filter (aliveB [1, m, d])).length)) 5) false) 9 (p0 :: tl) (restW sg (p0 :: tl)) 0 0 (by omega) (by omega) (by omega) hp
    rw [hlp] at ck
    obtain ⟨k1, k2⟩ := ck e2
    obtain ⟨k2, k3⟩ := end_ok k2
    refine ⟨?_, k1, ?_, ?_⟩
    · rw [hl, hG]
      exact log2_small _ (by simpa using Nat.le_of_ble_eq_true e1)
    · unfold fallW
      have e0 : Int.ofNat 0 = 0 := rfl
      rw [e0] at k2
      omega
    · omega
  obtain ⟨g1, g2, g3, g4⟩ := goal _ hl h
  exact ⟨g1, g2, g3, g4⟩
structure RowOk (p sl : List Int) (roots : List (List Int)) : Prop where
  hp : rowOk p
  hs : small sl
  c1 : chainOk 9 p sl
  f1 : fallW (chainW 9 p sl) = ((roots.filter realB).length : Int)
  l1 : ((((chainW 9 p sl).getLastD []).length : Int)) - 1 = 4 - (roots.length : Int)
  all : ∀ m ∈ evMs, ∀ d ∈ evDs, CaseOk p sl roots [1, m, d]
theorem evRow_ok {p sl : List Int} {roots : List (List Int)} (hl : p.length = 5) (hs : sl.length = 4) (h : evRow p sl (roots.map t3) = true) : RowOk p sl roots := by
  obtain ⟨p0, tl, rfl⟩ : ∃ a l, p = a :: l := by
    match p, hl with
    | a :: l, _ => exact ⟨a, l, rfl⟩
  have ht : tl.length = 4 := by simpa using hl
  have e : evRow (p0 :: tl) sl (roots.map t3) = evB (evSm (p0 :: tl)) (evB (evSm sl)
    (evB (evChain (fun vl vr lp => evB (evEq (evSub (Int.ofNat vl) (Int.ofNat vr)) (Int.ofNat (evReal (roots.map t3)))) (Nat.beq (Nat.add lp (roots.map t3).length) 5) false) 9 (p0 :: tl) 5 sl 4 (evGt p0) (evEqv (evGt p0) true) 0 0)
      (evAll (fun m => evAll (fun d => evCase p0 tl sl (roots.map t3) m d) evDs) evMs) false) false) false := rfl
  rw [e] at h
  clear e
  obtain ⟨h1, h⟩ := evB_true h
  obtain ⟨h2, h⟩ := evB_true h
  obtain ⟨h3, h4⟩ := evB_true h
  have er : evGt p0 = rB (p0 :: tl) := evGt_eq p0
  rw [left5 p0 tl ht, er] at h3
  have hp := evSm_ok _ h1
  have hlp : (p0 :: tl).length = 5 := hl
  have ck := evChain_ok (fun vl vr lp => evB (evEq (evSub (Int.ofNat vl) (Int.ofNat vr)) (Int.ofNat (evReal (roots.map t3)))) (Nat.beq (Nat.add lp (roots.map t3).length) 5) false) 9 (p0 :: tl) sl 0 0 (by omega) (by omega) (by omega) hp
  rw [hlp, hs] at ck
  obtain ⟨k1, k2⟩ := ck h3
  obtain ⟨k2, k3⟩ := end_ok k2
  rw [evReal_eq] at k2
  rw [List.length_map] at k3
  refine ⟨⟨by omega, by omega, hp⟩, evSm_ok _ h2, k1, ?_, k3, fun m hm d hd => evCase_ok ht hs hp (evAll_ok _ _ (evAll_ok _ _ h4 m hm) d hd)⟩
  unfold fallW
  have e0 : ((List.filter realB roots).length : Int) = Int.ofNat (List.filter realB roots).length := rfl
  omega
theorem slopeW_len (p : List Int) : (slopeW p).length = 4 := by simp [slopeW, slope5, List.length_eraseIdx]
theorem evPair_ok {m0 d0 m1 d1 : Int} (h : evPair m0 d0 m1 d1 = true) : RowOk (pW [1, m0, d0] [1, m1, d1]) (slopeW (pW [1, m0, d0] [1, m1, d1])) (rootsW [[1, m0, d0], [1, m1, d1]]) := by
  unfold evPair at h
  rw [evI_eq, evI_eq, evI_eq, evI_eq, evL_eq, evL_eq, evT_eq] at h
  exact evRow_ok (by rw [pW, prodW_length]; rfl) (slopeW_len _) h
noncomputable def evM (i : Nat) : Int := Int.ofNat (Nat.mod i 3) - 1
noncomputable def evD (i : Nat) : Int := Int.ofNat (Nat.div i 3) - 3
noncomputable def evP (i j : Nat) : Bool := evPair (evM i) (evD i) (evM j) (evD j)
end
end
section
noncomputable def sgnL (b : Bool) (l : List Int) : List Int := if b then negL l else l
theorem negL_negL (l : List Int) : negL (negL l) = l := by simp [negL, Function.comp_def]
theorem sgnL_len (b : Bool) (l : List Int) : (sgnL b l).length = l.length := by cases b <;> simp [sgnL, negL]
theorem sgnL_nil (b : Bool) : sgnL b [] = [] := by cases b <;> rfl
theorem sgnL_eq_nil (b : Bool) {l : List Int} (h : sgnL b l = []) : l = [] := by
  have := sgnL_len b l
  rw [h] at this
  exact List.length_eq_zero_iff.mp this.symm
theorem negL_sgnL (b : Bool) (l : List Int) : negL (sgnL b l) = sgnL b (negL l) := by cases b <;> rfl
theorem negL_getD (l : List Int) (k : Nat) : (negL l).getD k 0 = -(l.getD k 0) := by
  rw [List.getD_eq_getElem?_getD, List.getD_eq_getElem?_getD, negL, List.getElem?_map]
  cases l[k]? <;> simp
theorem sgnL_head (b : Bool) {l : List Int} (h : l.getD 0 0 ≠ 0) : (sgnL b l).getD 0 0 ≠ 0 := by
  cases b
  · exact h
  · show (negL l).getD 0 0 ≠ 0
    rw [negL_getD]; omega
theorem small_neg {l : List Int} (h : small l) : small (negL l) := fun x hx => by
  obtain ⟨y, hy, rfl⟩ := List.mem_map.mp hx
  have := h y hy
  omega
theorem small_sgn (b : Bool) {l : List Int} (h : small l) : small (sgnL b l) := by
  cases b
  · exact h
  · exact small_neg h
theorem rowOk_sgn (b : Bool) {l : List Int} (h : rowOk l) : rowOk (sgnL b l) := ⟨by rw [sgnL_len]; exact h.1, by rw [sgnL_len]; exact h.2.1, small_sgn b h.2.2⟩
theorem elimS_negB (t s : Int) : ∀ (row bs : List Int), elimS (-t) s row bs = elimS t s row (negL bs)
  | [], _ => rfl
  | r :: row, [] => by
    show r * s :: elimS (-t) s row [] = r * s :: elimS t s row []
    rw [elimS_negB t s row []]; rfl
  | r :: row, b :: bs => by
    show (r * s - -t * b) :: elimS (-t) s row bs = (r * s - t * -b) :: elimS t s row (negL bs)
    rw [elimS_negB t s row bs, Int.neg_mul, Int.mul_neg]
theorem elimS_negR (t s : Int) : ∀ (row bs : List Int), elimS (-t) s (negL row) bs = negL (elimS t s row bs)
  | [], _ => rfl
  | r :: row, [] => by
    show -r * s :: elimS (-t) s (negL row) [] = -(r * s) :: negL (elimS t s row [])
    rw [elimS_negR t s row [], Int.neg_mul]
  | r :: row, b :: bs => by
    show (-r * s - -t * b) :: elimS (-t) s (negL row) bs = -(r * s - t * b) :: negL (elimS t s row bs)
    rw [elimS_negR t s row bs, Int.neg_mul, Int.neg_mul]
    congr 1
    omega
theorem redW_elim (b0 x : Int) (bs row : List Int) : redW (b0 :: bs) x row = if x = 0 then row else if b0 < 0 then elimS (-x) (-b0) row bs else elimS x b0 row bs := by
  unfold redW
  rw [redK_elim, redK_elim]
  rfl
theorem redW_negB {b : List Int} (hb : b.getD 0 0 ≠ 0) (x : Int) (row : List Int) : redW (negL b) x row = redW b x row := by
  cases b with
  | nil => exact absurd rfl hb
  | cons b0 bs =>
    have hb : b0 ≠ 0 := hb
    have e : negL (b0 :: bs) = -b0 :: negL bs := rfl
    rw [e, redW_elim, redW_elim]
    by_cases c : x = 0
    · rw [if_pos c, if_pos c]
    · rw [if_neg c, if_neg c]
      by_cases c2 : b0 < 0
      · rw [if_pos c2, if_neg (by omega), elimS_negB]
      · rw [if_neg c2, if_pos (by omega), elimS_negB, negL_negL, Int.neg_neg]
theorem redW_negR {b : List Int} (hb : b.getD 0 0 ≠ 0) (x : Int) (row : List Int) : redW b (-x) (negL row) = negL (redW b x row) := by
  cases b with
  | nil => exact absurd rfl hb
  | cons b0 bs =>
    rw [redW_elim, redW_elim]
    by_cases c : x = 0
    · rw [if_pos c, if_pos (by omega)]
    · rw [if_neg c, if_neg (by omega)]
      by_cases c2 : b0 < 0
      · rw [if_pos c2, if_pos c2, elimS_negR]
      · rw [if_neg c2, if_neg c2, elimS_negR]
theorem restRow_negB {b : List Int} (hb : b.getD 0 0 ≠ 0) : ∀ (n : Nat) (row : List Int), restRow (negL b) n row = restRow b n row
  | 0, _ => rfl
  | n + 1, [] => rfl
  | n + 1, x :: row => by
    unfold restRow
    rw [negL_len, redW_negB hb, restRow_negB hb n]
theorem restRow_negR {b : List Int} (hb : b.getD 0 0 ≠ 0) : ∀ (n : Nat) (row : List Int), restRow b n (negL row) = negL (restRow b n row)
  | 0, _ => rfl
  | n + 1, [] => rfl
  | n + 1, x :: row => by
    have e : negL (x :: row) = -x :: negL row := rfl
    rw [e]
    unfold restRow
    rw [negL_len]
    by_cases c : b.length ≤ row.length + 1 ∨ x = 0
    · have c' : b.length ≤ row.length + 1 ∨ -x = 0 := by rcases c with c | c; exact .inl c; exact .inr (by omega)
      rw [if_pos c, if_pos c', redW_negR hb, restRow_negR hb n]
    · have c' : ¬ (b.length ≤ row.length + 1 ∨ -x = 0) := by rintro (d | d); exact c (.inl d); exact c (.inr (by omega))
      rw [if_neg c, if_neg c']
      rfl
theorem restRow_sgn {b : List Int} (hb : b.getD 0 0 ≠ 0) (σ τ : Bool) (n : Nat) (row : List Int) : restRow (sgnL τ b) n (sgnL σ row) = sgnL σ (restRow b n row) := by
  have h1 : restRow (sgnL τ b) n (sgnL σ row) = restRow b n (sgnL σ row) := by
    cases τ
    · rfl
    · exact restRow_negB hb n _
  rw [h1]
  cases σ
  · rfl
  · exact restRow_negR hb n row
theorem foldg_neg : ∀ (row : List Int) (c : Int), (negL row).foldl (fun c x => (Int.gcd c x : Int)) c = row.foldl (fun c x => (Int.gcd c x : Int)) c
  | [], c => rfl
  | x :: row, c => by
    show (negL row).foldl (fun c x => (Int.gcd c x : Int)) (Int.gcd c (-x) : Int) = row.foldl (fun c x => (Int.gcd c x : Int)) (Int.gcd c x : Int)
    rw [Int.gcd_neg, foldg_neg row]
theorem restG_sgn (σ : Bool) (row : List Int) : restG (sgnL σ row) = restG row := by
  cases σ
  · rfl
  · exact foldg_neg row 0
theorem restG_dvd (row : List Int) : ∀ x ∈ row, restG row ∣ x := by
  rw [restG_ev]
  exact (evG_dvd row 0).2
theorem restW_sgn {b : List Int} (hb : b.getD 0 0 ≠ 0) (σ τ : Bool) (a : List Int) : restW (sgnL σ a) (sgnL τ b) = sgnL σ (restW a b) := by
  unfold restW
  rw [sgnL_len, restRow_sgn hb]
  simp only
  rw [restG_sgn]
  generalize hr : restRow b a.length a = r
  have hd := restG_dvd r
  cases σ
  · rfl
  · show (negL r).map (·.fdiv (restG r)) = negL (r.map (·.fdiv (restG r)))
    unfold negL
    rw [List.map_map, List.map_map]
    refine List.map_congr_left fun x hx => ?_
    have h := hd x hx
    show (-x).fdiv (restG r) = -(x.fdiv (restG r))
    rw [Int.fdiv_eq_ediv_of_dvd h, Int.fdiv_eq_ediv_of_dvd (Int.dvd_neg.mpr h), Int.neg_ediv_of_dvd h]
theorem restW_head {a b : List Int} (hb : 0 < b.length) : restW a b = [] ∨ (restW a b).getD 0 0 ≠ 0 := by
  unfold restW
  rcases restRow_head b hb a.length a (Nat.le_refl _) with h | h
  · simp only [h]; exact .inl rfl
  · generalize hr : restRow b a.length a = r at h
    right
    cases r with
    | nil => exact absurd rfl h
    | cons x r =>
      have hx : x ≠ 0 := h
      have hd := restG_dvd (x :: r) x (List.mem_cons_self ..)
      show x.fdiv (restG (x :: r)) ≠ 0
      rw [Int.fdiv_eq_ediv_of_dvd hd]
      intro e
      have := Int.mul_ediv_cancel' hd
      rw [e, Int.mul_zero] at this
      exact hx this.symm
noncomputable def weave : Bool → Bool → List (List Int) → List (List Int)
  | _, _, [] => []
  | σ, τ, x :: t => sgnL σ x :: weave τ σ t
theorem chain_weave : ∀ (n : Nat) (p q : List Int) (σ τ : Bool), p.getD 0 0 ≠ 0 → (q = [] ∨ q.getD 0 0 ≠ 0) → chainOk n p q →
    chainOk n (sgnL σ p) (sgnL τ q) ∧ chainW n (sgnL σ p) (sgnL τ q) = weave σ τ (chainW n p q) ∧ ∀ r ∈ chainW n p q, r.getD 0 0 ≠ 0
  | 0, p, q, σ, τ, hp, hq, h => by
    obtain ⟨h1, rfl⟩ := h
    refine ⟨⟨rowOk_sgn σ h1, sgnL_nil τ⟩, rfl, fun r hr => ?_⟩
    rw [List.mem_singleton.mp hr]; exact hp
  | n + 1, p, q, σ, τ, hp, hq, h => by
    obtain ⟨h1, h2⟩ := h
    by_cases c : q = []
    · subst c
      have e : chainW (n + 1) p [] = [p] := rfl
      have e2 : ∀ x : List Int, chainW (n + 1) x (sgnL τ []) = [x] := fun x => by rw [sgnL_nil]; rfl
      rw [e2, e]
      refine ⟨⟨rowOk_sgn σ h1, .inl (sgnL_nil τ)⟩, rfl, fun r hr => ?_⟩
      rw [List.mem_singleton.mp hr]; exact hp
    · obtain ⟨k1, k2, k3⟩ := h2.resolve_left c
      have hq := hq.resolve_left c
      have hr : negL (restW (sgnL σ p) (sgnL τ q)) = sgnL σ (negL (restW p q)) := by rw [restW_sgn hq, negL_sgnL]
      have hh : negL (restW p q) = [] ∨ (negL (restW p q)).getD 0 0 ≠ 0 := by
        rcases restW_head (a := p) (b := q) (List.length_pos_iff.mpr c) with h | h
        · exact .inl (by rw [h]; rfl)
        · exact .inr (sgnL_head true h)
      obtain ⟨j1, j2, j3⟩ := chain_weave n q (negL (restW p q)) τ σ hq hh k3
      have c' : sgnL τ q ≠ [] := fun e => c (sgnL_eq_nil τ e)
      have e1 : chainW (n + 1) p q = p :: chainW n q (negL (restW p q)) := by rw [chainW, if_neg c]
      have e2 : chainW (n + 1) (sgnL σ p) (sgnL τ q) = sgnL σ p :: chainW n (sgnL τ q) (sgnL σ (negL (restW p q))) := by rw [chainW, if_neg c', hr]
      rw [e1, e2, j2]
      refine ⟨⟨rowOk_sgn σ h1, .inr ⟨rowOk_sgn τ k1, ?_, ?_⟩⟩, rfl, fun r hr => ?_⟩
      · rw [sgnL_len, restRow_sgn hq, restG_sgn]; exact k2
      · rw [hr]; exact j1
      · rcases List.mem_cons.mp hr with rfl | hr
        · exact hp
        · exact j3 r hr
noncomputable def weaveB : Bool → Bool → List Bool → List Bool
  | _, _, [] => []
  | σ, τ, x :: t => (σ != x) :: weaveB τ σ t
theorem head_sgn (σ : Bool) {l : List Int} (h : l.getD 0 0 ≠ 0) : decide (0 < (sgnL σ l).getD 0 0) = (σ != decide (0 < l.getD 0 0)) := by
  cases σ
  · show decide (0 < l.getD 0 0) = _
    simp
  · show decide (0 < (negL l).getD 0 0) = _
    rw [negL_getD]
    by_cases c : 0 < l.getD 0 0
    · rw [decide_eq_true c, decide_eq_false (by omega)]; rfl
    · rw [decide_eq_false c, decide_eq_true (by omega)]; rfl
theorem right_weave : ∀ (rows : List (List Int)) (σ τ : Bool), (∀ r ∈ rows, r.getD 0 0 ≠ 0) → rightB (weave σ τ rows) = weaveB σ τ (rightB rows)
  | [], _, _, _ => rfl
  | r :: rows, σ, τ, h => by
    show decide (0 < (sgnL σ r).getD 0 0) :: rightB (weave τ σ rows) = (σ != decide (0 < r.getD 0 0)) :: weaveB τ σ (rightB rows)
    rw [head_sgn σ (h r (List.mem_cons_self ..)), right_weave rows τ σ fun x hx => h x (List.mem_cons_of_mem _ hx)]
theorem left_weave : ∀ (rows : List (List Int)) (σ τ : Bool), (∀ r ∈ rows, r.getD 0 0 ≠ 0) → leftB (weave σ τ rows) = weaveB σ τ (leftB rows)
  | [], _, _, _ => rfl
  | r :: rows, σ, τ, h => by
    show (decide (0 < (sgnL σ r).getD 0 0) == ((sgnL σ r).length % 2 == 1)) :: leftB (weave τ σ rows) = (σ != (decide (0 < r.getD 0 0) == (r.length % 2 == 1))) :: weaveB τ σ (leftB rows)
    rw [head_sgn σ (h r (List.mem_cons_self ..)), sgnL_len, left_weave rows τ σ fun x hx => h x (List.mem_cons_of_mem _ hx)]
    congr 1
    cases σ <;> cases decide (0 < r.getD 0 0) <;> cases (r.length % 2 == 1) <;> rfl
theorem flips_weave : ∀ (bs : List Bool) (σ τ : Bool), flips (weaveB σ τ bs) = (flips bs).map ((σ != τ) != ·)
  | [], _, _ => rfl
  | [_], _, _ => rfl
  | a :: b :: r, σ, τ => by
    have ih := flips_weave (b :: r) τ σ
    show ((σ != a) != (τ != b)) :: flips (weaveB τ σ (b :: r)) = ((σ != τ) != (a != b)) :: (flips (b :: r)).map ((σ != τ) != ·)
    rw [ih]
    congr 1
    · cases σ <;> cases τ <;> cases a <;> cases b <;> rfl
    · cases σ <;> cases τ <;> rfl
theorem count_not : ∀ l : List Bool, ((l.map (true != ·)).count true : Int) = (l.length : Int) - (l.count true : Int)
  | [] => rfl
  | x :: l => by
    have ih := count_not l
    rw [List.map_cons, List.count_cons, List.count_cons, List.length_cons]
    cases x <;> simp at ih ⊢ <;> omega
theorem map_id' (l : List Bool) : l.map (false != ·) = l := by
  have e : (fun x : Bool => false != x) = id := by funext x; cases x <;> rfl
  rw [e, List.map_id]
theorem fall_weave (rows : List (List Int)) (σ τ : Bool) (h : ∀ r ∈ rows, r.getD 0 0 ≠ 0) : fallW (weave σ τ rows) = if σ = τ then fallW rows else -(fallW rows) := by
  unfold fallW
  rw [right_weave rows σ τ h, left_weave rows σ τ h, flips_weave, flips_weave]
  by_cases c : σ = τ
  · subst c
    have e : (σ != σ) = false := by cases σ <;> rfl
    rw [e, map_id', map_id', if_pos rfl]
  · have e : (σ != τ) = true := by cases σ <;> cases τ <;> first | rfl | exact absurd rfl c
    rw [e, if_neg c, count_not, count_not, flips_len, flips_len]
    have : (leftB rows).length = (rightB rows).length := by simp [leftB, rightB]
    omega
theorem weave_last : ∀ (rows : List (List Int)) (σ τ : Bool), ((weave σ τ rows).getLastD []).length = (rows.getLastD []).length
  | [], _, _ => rfl
  | [r], σ, τ => sgnL_len σ r
  | r :: r' :: rows, σ, τ => weave_last (r' :: rows) τ σ
end
section
theorem prodW_33 (a b c d e f : Int) : prodW [a, b, c] [d, e, f] = [0 + a * d, 0 + a * e + b * d, 0 + a * f + b * e + c * d, 0 + b * f + c * e, 0 + c * f] := by kernel_rfl
theorem prodW_43 (a b c d e f g : Int) : prodW [a, b, c, d] [e, f, g] = [0 + a * e, 0 + a * f + b * e, 0 + a * g + b * f + c * e, 0 + b * g + c * f + d * e, 0 + c * g + d * f, 0 + d * g] := by kernel_rfl
theorem prodW_comm (a b c d e f : Int) : prodW [a, b, c] [d, e, f] = prodW [d, e, f] [a, b, c] := by
  rw [prodW_33, prodW_33, Int.mul_comm a d, Int.mul_comm a e, Int.mul_comm b d, Int.mul_comm a f, Int.mul_comm b e, Int.mul_comm c d, Int.mul_comm b f, Int.mul_comm c e, Int.mul_comm c f]
  have h1 : 0 + e * a + d * b = 0 + d * b + e * a := by omega
  have h2 : 0 + f * a + e * b + d * c = 0 + d * c + e * b + f * a := by omega
  have h3 : 0 + f * b + e * c = 0 + e * c + f * b := by omega
  rw [h1, h2, h3]
theorem prodW_neg33 (a b c d e f : Int) : prodW (negL [a, b, c]) [d, e, f] = negL (prodW [a, b, c] [d, e, f]) := by
  have e1 : negL [a, b, c] = [-a, -b, -c] := rfl
  rw [e1, prodW_33, prodW_33]
  simp only [negL, List.map_cons, List.map_nil, Int.neg_mul, Int.neg_add, Int.zero_add]
theorem prodW_neg33' (a b c d e f : Int) : prodW [a, b, c] (negL [d, e, f]) = negL (prodW [a, b, c] [d, e, f]) := by
  have e1 : negL [d, e, f] = [-d, -e, -f] := rfl
  rw [e1, prodW_33, prodW_33]
  simp only [negL, List.map_cons, List.map_nil, Int.mul_neg, Int.neg_add, Int.zero_add]
theorem prodW_neg43 (a b c d e f g : Int) : prodW (negL [a, b, c, d]) [e, f, g] = negL (prodW [a, b, c, d] [e, f, g]) := by
  have e1 : negL [a, b, c, d] = [-a, -b, -c, -d] := rfl
  rw [e1, prodW_43, prodW_43]
  simp only [negL, List.map_cons, List.map_nil, Int.neg_mul, Int.neg_add, Int.zero_add]
theorem prodW_neg43' (a b c d e f g : Int) : prodW [a, b, c, d] (negL [e, f, g]) = negL (prodW [a, b, c, d] [e, f, g]) := by
  have e1 : negL [e, f, g] = [-e, -f, -g] := rfl
  rw [e1, prodW_43, prodW_43]
  simp only [negL, List.map_cons, List.map_nil, Int.mul_neg, Int.neg_add, Int.zero_add]
theorem len3 {l : List Int} (h : l.length = 3) : ∃ a b c, l = [a, b, c] := by
  match l, h with
  | [a, b, c], _ => exact ⟨a, b, c, rfl⟩
theorem len4 {l : List Int} (h : l.length = 4) : ∃ a b c d, l = [a, b, c, d] := by
  match l, h with
  | [a, b, c, d], _ => exact ⟨a, b, c, d, rfl⟩
theorem sgn_sgn (σ τ : Bool) (l : List Int) : sgnL σ (sgnL τ l) = sgnL (σ != τ) l := by
  cases σ <;> cases τ <;> first | rfl | exact negL_negL l
theorem prod_sgn33 (σ τ : Bool) {a b : List Int} (ha : a.length = 3) (hb : b.length = 3) : prodW (sgnL σ a) (sgnL τ b) = sgnL (σ != τ) (prodW a b) := by
  obtain ⟨x, y, z, rfl⟩ := len3 ha
  obtain ⟨x', y', z', rfl⟩ := len3 hb
  cases σ <;> cases τ
  · rfl
  · exact prodW_neg33' ..
  · exact prodW_neg33 ..
  · show prodW (negL [x, y, z]) [-x', -y', -z'] = prodW [x, y, z] [x', y', z']
    rw [prodW_neg33]
    show negL (prodW [x, y, z] (negL [x', y', z'])) = _
    rw [prodW_neg33', negL_negL]
theorem prod_sgn43 (σ τ : Bool) {a b : List Int} (ha : a.length = 4) (hb : b.length = 3) : prodW (sgnL σ a) (sgnL τ b) = sgnL (σ != τ) (prodW a b) := by
  obtain ⟨x, y, z, u, rfl⟩ := len4 ha
  obtain ⟨x', y', z', rfl⟩ := len3 hb
  cases σ <;> cases τ
  · rfl
  · exact prodW_neg43' ..
  · exact prodW_neg43 ..
  · show prodW (negL [x, y, z, u]) [-x', -y', -z'] = prodW [x, y, z, u] [x', y', z']
    rw [prodW_neg43]
    show negL (prodW [x, y, z, u] (negL [x', y', z'])) = _
    rw [prodW_neg43', negL_negL]
theorem mem_addRoot {rs : List (List Int)} {r x : List Int} : x ∈ addRoot rs r ↔ x ∈ rs ∨ x = r := by
  unfold addRoot
  split
  · rename_i c
    exact ⟨.inl, fun h => h.elim id fun e => e ▸ c⟩
  · simp
theorem addRoot_nodup {rs : List (List Int)} (r : List Int) (h : rs.Nodup) : (addRoot rs r).Nodup := by
  unfold addRoot
  split
  · exact h
  · rename_i c
    rw [List.nodup_append]
    exact ⟨h, by simp, fun x hx y hy e => c (by rw [List.mem_singleton.mp hy] at e; exact e ▸ hx)⟩
theorem roots_perm (a b : List Int) : (rootsW [a, b]).Perm (rootsW [b, a]) := by
  have nd : ∀ a b : List Int, (rootsW [a, b]).Nodup := fun a b => addRoot_nodup _ (addRoot_nodup _ (addRoot_nodup _ (addRoot_nodup _ .nil)))
  have mem : ∀ a b x : List Int, x ∈ rootsW [a, b] ↔ ((((x ∈ ([] : List (List Int)) ∨ x = rootOf (a.getD 1 0) (a.getD 2 0) (-1)) ∨ x = rootOf (a.getD 1 0) (a.getD 2 0) 1) ∨ x = rootOf (b.getD 1 0) (b.getD 2 0) (-1)) ∨ x = rootOf (b.getD 1 0) (b.getD 2 0) 1) := by
    intro a b x
    show x ∈ addRoot (addRoot (addRoot (addRoot [] _) _) _) _ ↔ _
    rw [mem_addRoot, mem_addRoot, mem_addRoot, mem_addRoot]
  rw [List.perm_iff_count]
  intro x
  rw [(nd a b).count, (nd b a).count]
  have e : x ∈ rootsW [a, b] ↔ x ∈ rootsW [b, a] := by
    rw [mem, mem]
    simp only [List.not_mem_nil, false_or]
    constructor
    · rintro (((h | h) | h) | h)
      · exact .inl (.inr h)
      · exact .inr h
      · exact .inl (.inl (.inl h))
      · exact .inl (.inl (.inr h))
    · rintro (((h | h) | h) | h)
      · exact .inl (.inr h)
      · exact .inr h
      · exact .inl (.inl (.inl h))
      · exact .inl (.inl (.inr h))
  by_cases c : x ∈ rootsW [a, b]
  · rw [if_pos c, if_pos (e.mp c)]
  · rw [if_neg c, if_neg fun d => c (e.mpr d)]
theorem sum_perm {l m : List Int} (h : l.Perm m) : l.sum = m.sum := by
  induction h with
  | nil => rfl
  | cons x _ ih => rw [List.sum_cons, List.sum_cons, ih]
  | swap x y l => simp only [List.sum_cons]; omega
  | trans _ _ ih1 ih2 => exact ih1.trans ih2
theorem CaseOk.perm {p sl : List Int} {r r' : List (List Int)} {q : List Int} (h : CaseOk p sl r q) (hp : r.Perm r') : CaseOk p sl r' q :=
  ⟨h.gap, h.c2, by rw [h.f2]; exact sum_perm ((hp.filter _).map _), by rw [h.l2, (hp.filter _).length_eq]⟩
theorem RowOk.perm {p sl : List Int} {r r' : List (List Int)} (h : RowOk p sl r) (hp : r.Perm r') : RowOk p sl r' :=
  ⟨h.hp, h.hs, h.c1, by rw [h.f1, (hp.filter _).length_eq], by rw [h.l1, hp.length_eq], fun m hm d hd => (h.all m hm d hd).perm hp⟩
theorem signW_neg (r : List Int) (m d : Int) : signW r [-1, m, d] = -(signW r [1, m, d]) := by
  have hp : partsW r [-1, m, d] = [-((partsW r [1, m, d]).getD 0 0), -((partsW r [1, m, d]).getD 1 0)] := by
    have e1 : partsW r [-1, m, d] = [-1 * ((r.getD 0 0 - m) ^ 2 + r.getD 2 0 - d), -1 * 2 * r.getD 1 0 * (r.getD 0 0 - m)] := rfl
    have e2 : partsW r [1, m, d] = [1 * ((r.getD 0 0 - m) ^ 2 + r.getD 2 0 - d), 1 * 2 * r.getD 1 0 * (r.getD 0 0 - m)] := rfl
    rw [e1, e2]
    simp [Int.neg_mul]
  have hs : sizeW r [-1, m, d] = -(sizeW r [1, m, d]) := by
    have es : ∀ q : List Int, sizeW r q = (partsW r q).getD 0 0 * max ((partsW r q).getD 0 0) (-((partsW r q).getD 0 0)) + (partsW r q).getD 1 0 * max ((partsW r q).getD 1 0) (-((partsW r q).getD 1 0)) * r.getD 2 0 := fun q => rfl
    rw [es, es, hp]
    generalize (partsW r [1, m, d]).getD 0 0 = E
    generalize (partsW r [1, m, d]).getD 1 0 = O
    show -E * max (-E) (- -E) + -O * max (-O) (- -O) * r.getD 2 0 = -(E * max E (-E) + O * max O (-O) * r.getD 2 0)
    have e1 : max (-E) (- -E) = max E (-E) := by rw [Int.neg_neg, Int.max_comm]
    have e2 : max (-O) (- -O) = max O (-O) := by rw [Int.neg_neg, Int.max_comm]
    rw [e1, e2, Int.neg_mul, Int.neg_mul, Int.neg_mul, Int.neg_add]
  unfold signW
  rw [hs]
  by_cases c : 0 < sizeW r [1, m, d]
  · rw [if_pos c, if_neg (by omega), if_pos (by omega), if_neg (by omega)]; rfl
  · by_cases c2 : sizeW r [1, m, d] < 0
    · rw [if_neg c, if_pos c2, if_pos (by omega), if_neg (by omega)]; rfl
    · rw [if_neg c, if_neg c2, if_neg (by omega), if_neg (by omega)]; rfl
theorem alive_neg (m d : Int) : aliveB [-1, m, d] = aliveB [1, m, d] := by
  funext r
  have e1 : partsW r [-1, m, d] = [-1 * ((r.getD 0 0 - m) ^ 2 + r.getD 2 0 - d), -1 * 2 * r.getD 1 0 * (r.getD 0 0 - m)] := rfl
  have e2 : partsW r [1, m, d] = [1 * ((r.getD 0 0 - m) ^ 2 + r.getD 2 0 - d), 1 * 2 * r.getD 1 0 * (r.getD 0 0 - m)] := rfl
  unfold aliveB
  rw [e1, e2]
  congr 1
  refine decide_eq_decide.mpr ?_
  simp only [List.cons.injEq, and_true, Int.one_mul, Int.neg_mul]
  constructor
  · rintro ⟨h1, h2⟩; exact ⟨by omega, by omega⟩
  · rintro ⟨h1, h2⟩; exact ⟨by omega, by omega⟩
noncomputable def eps (b : Bool) : Int := if b then -1 else 1
theorem rowW_eps (b : Bool) (m d : Int) : rowW [eps b, m, d] = sgnL b (rowW [1, m, d]) := by
  cases b
  · rfl
  · show [(-1 : Int), -2 * -1 * m, -1 * (m * m - d)] = [-(1 : Int), -(-2 * 1 * m), -(1 * (m * m - d))]
    have h1 : -2 * -1 * m = -(-2 * 1 * m) := by omega
    have h2 : -1 * (m * m - d) = -(1 * (m * m - d)) := by omega
    rw [h1, h2]
theorem rowW_len3 (m d : Int) : (rowW [1, m, d]).length = 3 := rfl
theorem slope_sgn (σ : Bool) (p : List Int) : slopeW (sgnL σ p) = sgnL σ (slopeW p) := by
  cases σ
  · rfl
  · have e : ∀ p : List Int, slopeW p = [p.getD 0 0 * (4 - ((0 : Nat) : Int)), p.getD 1 0 * (4 - ((1 : Nat) : Int)), p.getD 2 0 * (4 - ((2 : Nat) : Int)), p.getD 3 0 * (4 - ((3 : Nat) : Int))] := fun p => rfl
    show slopeW (negL p) = negL (slopeW p)
    rw [e, e, negL_getD, negL_getD, negL_getD, negL_getD]
    simp only [negL, List.map_cons, List.map_nil, Int.neg_mul]
theorem sum_neg (l : List (List Int)) (f g : List Int → Int) (h : ∀ r, f r = -(g r)) : (l.map f).sum = -((l.map g).sum) := by
  induction l with
  | nil => rfl
  | cons x l ih => rw [List.map_cons, List.map_cons, List.sum_cons, List.sum_cons, ih, h]; omega
theorem lawOk_of {b0 b1 b2 : Bool} {m0 d0 m1 d1 m d : Int} (h : RowOk (pW [1, m0, d0] [1, m1, d1]) (slopeW (pW [1, m0, d0] [1, m1, d1])) (rootsW [[1, m0, d0], [1, m1, d1]])) (hm : m ∈ evMs) (hd : d ∈ evDs) :
    LawOk [eps b0, m0, d0] [eps b1, m1, d1] [eps b2, m, d] := by
  have hc := h.all m hm d hd
  have hp : pW [eps b0, m0, d0] [eps b1, m1, d1] = sgnL (b0 != b1) (pW [1, m0, d0] [1, m1, d1]) := by
    unfold pW
    rw [rowW_eps, rowW_eps, prod_sgn33 _ _ (rowW_len3 ..) (rowW_len3 ..)]
  have hp0 : (pW [1, m0, d0] [1, m1, d1]).getD 0 0 ≠ 0 := by
    have e : rowW [1, m0, d0] = [1, -2 * 1 * m0, 1 * (m0 * m0 - d0)] := rfl
    have e2 : rowW [1, m1, d1] = [1, -2 * 1 * m1, 1 * (m1 * m1 - d1)] := rfl
    unfold pW
    rw [e, e2, prodW_33]
    show (0 + 1 * 1 : Int) ≠ 0
    decide
  have hs0 : (slopeW (pW [1, m0, d0] [1, m1, d1])).getD 0 0 ≠ 0 := by
    show (pW [1, m0, d0] [1, m1, d1]).getD 0 0 * (4 - ((0 : Nat) : Int)) ≠ 0
    omega
  have hsl := slopeW_len (pW [1, m0, d0] [1, m1, d1])
  have hsg : sgW [eps b0, m0, d0] [eps b1, m1, d1] [eps b2, m, d] = sgnL ((b0 != b1) != b2) (prodW (slopeW (pW [1, m0, d0] [1, m1, d1])) (rowW [1, m, d])) := by
    unfold sgW
    rw [hp, slope_sgn, rowW_eps, prod_sgn43 _ _ hsl (rowW_len3 ..)]
  have hsec : secW [eps b0, m0, d0] [eps b1, m1, d1] [eps b2, m, d] = sgnL ((b0 != b1) != b2) (restW (prodW (slopeW (pW [1, m0, d0] [1, m1, d1])) (rowW [1, m, d])) (pW [1, m0, d0] [1, m1, d1])) := by
    unfold secW
    rw [hsg, hp, restW_sgn hp0]
  have hR : rootsW [[eps b0, m0, d0], [eps b1, m1, d1]] = rootsW [[1, m0, d0], [1, m1, d1]] := rfl
  generalize hP : pW [1, m0, d0] [1, m1, d1] = p at *
  generalize hSL : slopeW p = sl at *
  generalize hRO : rootsW [[1, m0, d0], [1, m1, d1]] = roots at *
  generalize hSG : prodW sl (rowW [1, m, d]) = sg at *
  obtain ⟨gap, c2, f2, l2⟩ := hc
  rw [hSG] at gap c2 f2 l2
  have hpl : 0 < p.length := h.hp.1
  obtain ⟨x1, x2, x3⟩ := chain_weave 9 p sl (b0 != b1) (b0 != b1) hp0 (.inr hs0) h.c1
  obtain ⟨y1, y2, y3⟩ := chain_weave 9 p (restW sg p) (b0 != b1) ((b0 != b1) != b2) hp0 (restW_head hpl) c2
  refine ⟨?_, ?_, ?_, ?_, ?_, ?_, ?_, ?_, ?_⟩
  · rw [hp]; exact rowOk_sgn _ h.hp
  · rw [hp, slope_sgn, hSL]; exact small_sgn _ h.hs
  · rw [hp, hsg, sgnL_len, restRow_sgn hp0, restG_sgn]; exact gap
  · rw [hp, slope_sgn, hSL]; exact x1
  · rw [hp, hsec]; exact y1
  · rw [hp, slope_sgn, hSL, x2, fall_weave _ _ _ x3, if_pos rfl, h.f1]
    unfold realW
    rw [hR]
    rfl
  · rw [hp, hsec, y2, fall_weave _ _ _ y3, f2]
    unfold realW
    rw [hR]
    cases b2
    · rw [if_pos (by cases (b0 != b1) <;> rfl)]
      rfl
    · rw [if_neg (by cases (b0 != b1) <;> simp)]
      exact (sum_neg _ _ _ fun r => signW_neg r m d).symm
  · rw [hp, slope_sgn, hSL, x2, weave_last, h.l1, hR]
  · rw [hp, hsec, y2, weave_last, l2]
    unfold aliveW
    rw [hR]
    cases b2
    · rfl
    · show _ = (4 : Int) - ((roots.filter (aliveB [-1, m, d])).length : Int)
      rw [alive_neg]
theorem quad_idx {q : List Int} (h : isQuad q) : ∃ (b : Bool) (i : Nat), i < 30 ∧ q = [eps b, evM i, evD i] ∧ evM i ∈ evMs ∧ evD i ∈ evDs := by
  obtain ⟨e, m, d, rfl, he, h1, h2, h3, h4⟩ := h
  have hi : ∃ i : Nat, i < 30 ∧ evM i = m ∧ evD i = d := by
    refine ⟨(3 * (d + 3) + (m + 1)).toNat, by omega, ?_, ?_⟩
    · show (((3 * (d + 3) + (m + 1)).toNat % 3 : Nat) : Int) - 1 = m
      omega
    · show (((3 * (d + 3) + (m + 1)).toNat / 3 : Nat) : Int) - 3 = d
      omega
  obtain ⟨i, hi, rfl, rfl⟩ := hi
  have hmd : ∀ i : Nat, i < 30 → evM i ∈ evMs ∧ evD i ∈ evDs := by decide +kernel
  obtain ⟨hm, hd⟩ := hmd i hi
  rcases he with rfl | rfl
  · exact ⟨false, i, hi, rfl, hm, hd⟩
  · exact ⟨true, i, hi, rfl, hm, hd⟩
theorem lawOk_all (hE : ∀ i j : Nat, i ≤ j → j < 30 → evP i j = true) (q0 q1 q2 : List Int) (h0 : isQuad q0) (h1 : isQuad q1) (h2 : isQuad q2) : LawOk q0 q1 q2 := by
  obtain ⟨b0, i, hi, rfl, -, -⟩ := quad_idx h0
  obtain ⟨b1, j, hj, rfl, -, -⟩ := quad_idx h1
  obtain ⟨b2, k, hk, rfl, hm, hd⟩ := quad_idx h2
  refine lawOk_of ?_ hm hd
  by_cases c : i ≤ j
  · exact evPair_ok (hE i j c hj)
  · have h := evPair_ok (hE j i (by omega) hi)
    have e : pW [1, evM j, evD j] [1, evM i, evD i] = pW [1, evM i, evD i] [1, evM j, evD j] := prodW_comm ..
    rw [e] at h
    exact h.perm (roots_perm _ _)
end
section
theorem stepUp {P : Nat → Prop} {i : Nat} (h : P i) (r : ∀ j, i + 1 ≤ j → j < 30 → P j) (j : Nat) (h1 : i ≤ j) (h2 : j < 30) : P j :=
  if e : i = j then e ▸ h else r j (by omega) h2
theorem stepEnd {P : Nat → Prop} (j : Nat) (h1 : 30 ≤ j) (h2 : j < 30) : P j := absurd h2 (by omega)
theorem ev_0_0 : evP 0 0 = true := by decide +kernel
theorem ev_0_1 : evP 0 1 = true := by decide +kernel
theorem ev_0_2 : evP 0 2 = true := by decide +kernel
theorem ev_0_3 : evP 0 3 = true := by decide +kernel
theorem ev_0_4 : evP 0 4 = true := by decide +kernel
theorem ev_0_5 : evP 0 5 = true := by decide +kernel
theorem ev_0_6 : evP 0 6 = true := by decide +kernel
theorem ev_0_7 : evP 0 7 = true := by decide +kernel
theorem ev_0_8 : evP 0 8 = true := by decide +kernel
theorem ev_0_9 : evP 0 9 = true := by decide +kernel
theorem ev_0_10 : evP 0 10 = true := by decide +kernel
theorem ev_0_11 : evP 0 11 = true := by decide +kernel
theorem ev_0_12 : evP 0 12 = true := by decide +kernel
theorem ev_0_13 : evP 0 13 = true := by decide +kernel
theorem ev_0_14 : evP 0 14 = true := by decide +kernel
theorem ev_0_15 : evP 0 15 = true := by decide +kernel
theorem ev_0_16 : evP 0 16 = true := by decide +kernel
theorem ev_0_17 : evP 0 17 = true := by decide +kernel
theorem ev_0_18 : evP 0 18 = true := by decide +kernel
theorem ev_0_19 : evP 0 19 = true := by decide +kernel
theorem ev_0_20 : evP 0 20 = true := by decide +kernel
theorem ev_0_21 : evP 0 21 = true := by decide +kernel
theorem ev_0_22 : evP 0 22 = true := by decide +kernel
theorem ev_0_23 : evP 0 23 = true := by decide +kernel
theorem ev_0_24 : evP 0 24 = true := by decide +kernel
theorem ev_0_25 : evP 0 25 = true := by decide +kernel
theorem ev_0_26 : evP 0 26 = true := by decide +kernel
theorem ev_0_27 : evP 0 27 = true := by decide +kernel
theorem ev_0_28 : evP 0 28 = true := by decide +kernel
theorem ev_0_29 : evP 0 29 = true := by decide +kernel
theorem ev_1_1 : evP 1 1 = true := by decide +kernel
theorem ev_1_2 : evP 1 2 = true := by decide +kernel
theorem ev_1_3 : evP 1 3 = true := by decide +kernel
theorem ev_1_4 : evP 1 4 = true := by decide +kernel
theorem ev_1_5 : evP 1 5 = true := by decide +kernel
theorem ev_1_6 : evP 1 6 = true := by decide +kernel
theorem ev_1_7 : evP 1 7 = true := by decide +kernel
theorem ev_1_8 : evP 1 8 = true := by decide +kernel
theorem ev_1_9 : evP 1 9 = true := by decide +kernel
theorem ev_1_10 : evP 1 10 = true := by decide +kernel
theorem ev_1_11 : evP 1 11 = true := by decide +kernel
theorem ev_1_12 : evP 1 12 = true := by decide +kernel
theorem ev_1_13 : evP 1 13 = true := by decide +kernel
theorem ev_1_14 : evP 1 14 = true := by decide +kernel
theorem ev_1_15 : evP 1 15 = true := by decide +kernel
theorem ev_1_16 : evP 1 16 = true := by decide +kernel
theorem ev_1_17 : evP 1 17 = true := by decide +kernel
theorem ev_1_18 : evP 1 18 = true := by decide +kernel
theorem ev_1_19 : evP 1 19 = true := by decide +kernel
theorem ev_1_20 : evP 1 20 = true := by decide +kernel
theorem ev_1_21 : evP 1 21 = true := by decide +kernel
theorem ev_1_22 : evP 1 22 = true := by decide +kernel
theorem ev_1_23 : evP 1 23 = true := by decide +kernel
theorem ev_1_24 : evP 1 24 = true := by decide +kernel
theorem ev_1_25 : evP 1 25 = true := by decide +kernel
theorem ev_1_26 : evP 1 26 = true := by decide +kernel
theorem ev_1_27 : evP 1 27 = true := by decide +kernel
theorem ev_1_28 : evP 1 28 = true := by decide +kernel
theorem ev_1_29 : evP 1 29 = true := by decide +kernel
theorem ev_2_2 : evP 2 2 = true := by decide +kernel
theorem ev_2_3 : evP 2 3 = true := by decide +kernel
theorem ev_2_4 : evP 2 4 = true := by decide +kernel
theorem ev_2_5 : evP 2 5 = true := by decide +kernel
theorem ev_2_6 : evP 2 6 = true := by decide +kernel
theorem ev_2_7 : evP 2 7 = true := by decide +kernel
theorem ev_2_8 : evP 2 8 = true := by decide +kernel
theorem ev_2_9 : evP 2 9 = true := by decide +kernel
theorem ev_2_10 : evP 2 10 = true := by decide +kernel
theorem ev_2_11 : evP 2 11 = true := by decide +kernel
theorem ev_2_12 : evP 2 12 = true := by decide +kernel
theorem ev_2_13 : evP 2 13 = true := by decide +kernel
theorem ev_2_14 : evP 2 14 = true := by decide +kernel
theorem ev_2_15 : evP 2 15 = true := by decide +kernel
theorem ev_2_16 : evP 2 16 = true := by decide +kernel
theorem ev_2_17 : evP 2 17 = true := by decide +kernel
theorem ev_2_18 : evP 2 18 = true := by decide +kernel
theorem ev_2_19 : evP 2 19 = true := by decide +kernel
theorem ev_2_20 : evP 2 20 = true := by decide +kernel
theorem ev_2_21 : evP 2 21 = true := by decide +kernel
theorem ev_2_22 : evP 2 22 = true := by decide +kernel
theorem ev_2_23 : evP 2 23 = true := by decide +kernel
theorem ev_2_24 : evP 2 24 = true := by decide +kernel
theorem ev_2_25 : evP 2 25 = true := by decide +kernel
theorem ev_2_26 : evP 2 26 = true := by decide +kernel
theorem ev_2_27 : evP 2 27 = true := by decide +kernel
theorem ev_2_28 : evP 2 28 = true := by decide +kernel
theorem ev_2_29 : evP 2 29 = true := by decide +kernel
theorem ev_3_3 : evP 3 3 = true := by decide +kernel
theorem ev_3_4 : evP 3 4 = true := by decide +kernel
theorem ev_3_5 : evP 3 5 = true := by decide +kernel
theorem ev_3_6 : evP 3 6 = true := by decide +kernel
theorem ev_3_7 : evP 3 7 = true := by decide +kernel
theorem ev_3_8 : evP 3 8 = true := by decide +kernel
theorem ev_3_9 : evP 3 9 = true := by decide +kernel
theorem ev_3_10 : evP 3 10 = true := by decide +kernel
theorem ev_3_11 : evP 3 11 = true := by decide +kernel
theorem ev_3_12 : evP 3 12 = true := by decide +kernel
theorem ev_3_13 : evP 3 13 = true := by decide +kernel
theorem ev_3_14 : evP 3 14 = true := by decide +kernel
theorem ev_3_15 : evP 3 15 = true := by decide +kernel
theorem ev_3_16 : evP 3 16 = true := by decide +kernel
theorem ev_3_17 : evP 3 17 = true := by decide +kernel
theorem ev_3_18 : evP 3 18 = true := by decide +kernel
theorem ev_3_19 : evP 3 19 = true := by decide +kernel
theorem ev_3_20 : evP 3 20 = true := by decide +kernel
theorem ev_3_21 : evP 3 21 = true := by decide +kernel
theorem ev_3_22 : evP 3 22 = true := by decide +kernel
theorem ev_3_23 : evP 3 23 = true := by decide +kernel
theorem ev_3_24 : evP 3 24 = true := by decide +kernel
theorem ev_3_25 : evP 3 25 = true := by decide +kernel
theorem ev_3_26 : evP 3 26 = true := by decide +kernel
theorem ev_3_27 : evP 3 27 = true := by decide +kernel
theorem ev_3_28 : evP 3 28 = true := by decide +kernel
theorem ev_3_29 : evP 3 29 = true := by decide +kernel
theorem ev_4_4 : evP 4 4 = true := by decide +kernel
theorem ev_4_5 : evP 4 5 = true := by decide +kernel
theorem ev_4_6 : evP 4 6 = true := by decide +kernel
theorem ev_4_7 : evP 4 7 = true := by decide +kernel
theorem ev_4_8 : evP 4 8 = true := by decide +kernel
theorem ev_4_9 : evP 4 9 = true := by decide +kernel
theorem ev_4_10 : evP 4 10 = true := by decide +kernel
theorem ev_4_11 : evP 4 11 = true := by decide +kernel
theorem ev_4_12 : evP 4 12 = true := by decide +kernel
theorem ev_4_13 : evP 4 13 = true := by decide +kernel
theorem ev_4_14 : evP 4 14 = true := by decide +kernel
theorem ev_4_15 : evP 4 15 = true := by decide +kernel
theorem ev_4_16 : evP 4 16 = true := by decide +kernel
theorem ev_4_17 : evP 4 17 = true := by decide +kernel
theorem ev_4_18 : evP 4 18 = true := by decide +kernel
theorem ev_4_19 : evP 4 19 = true := by decide +kernel
theorem ev_4_20 : evP 4 20 = true := by decide +kernel
theorem ev_4_21 : evP 4 21 = true := by decide +kernel
theorem ev_4_22 : evP 4 22 = true := by decide +kernel
theorem ev_4_23 : evP 4 23 = true := by decide +kernel
theorem ev_4_24 : evP 4 24 = true := by decide +kernel
theorem ev_4_25 : evP 4 25 = true := by decide +kernel
theorem ev_4_26 : evP 4 26 = true := by decide +kernel
theorem ev_4_27 : evP 4 27 = true := by decide +kernel
theorem ev_4_28 : evP 4 28 = true := by decide +kernel
theorem ev_4_29 : evP 4 29 = true := by decide +kernel
theorem ev_5_5 : evP 5 5 = true := by decide +kernel
theorem ev_5_6 : evP 5 6 = true := by decide +kernel
theorem ev_5_7 : evP 5 7 = true := by decide +kernel
theorem ev_5_8 : evP 5 8 = true := by decide +kernel
theorem ev_5_9 : evP 5 9 = true := by decide +kernel
theorem ev_5_10 : evP 5 10 = true := by decide +kernel
theorem ev_5_11 : evP 5 11 = true := by decide +kernel
theorem ev_5_12 : evP 5 12 = true := by decide +kernel
theorem ev_5_13 : evP 5 13 = true := by decide +kernel
theorem ev_5_14 : evP 5 14 = true := by decide +kernel
theorem ev_5_15 : evP 5 15 = true := by decide +kernel
theorem ev_5_16 : evP 5 16 = true := by decide +kernel
theorem ev_5_17 : evP 5 17 = true := by decide +kernel
theorem ev_5_18 : evP 5 18 = true := by decide +kernel
theorem ev_5_19 : evP 5 19 = true := by decide +kernel
theorem ev_5_20 : evP 5 20 = true := by decide +kernel
theorem ev_5_21 : evP 5 21 = true := by decide +kernel
theorem ev_5_22 : evP 5 22 = true := by decide +kernel
theorem ev_5_23 : evP 5 23 = true := by decide +kernel
theorem ev_5_24 : evP 5 24 = true := by decide +kernel
theorem ev_5_25 : evP 5 25 = true := by decide +kernel
theorem ev_5_26 : evP 5 26 = true := by decide +kernel
theorem ev_5_27 : evP 5 27 = true := by decide +kernel
theorem ev_5_28 : evP 5 28 = true := by decide +kernel
theorem ev_5_29 : evP 5 29 = true := by decide +kernel
theorem ev_6_6 : evP 6 6 = true := by decide +kernel
theorem ev_6_7 : evP 6 7 = true := by decide +kernel
theorem ev_6_8 : evP 6 8 = true := by decide +kernel
theorem ev_6_9 : evP 6 9 = true := by decide +kernel
theorem ev_6_10 : evP 6 10 = true := by decide +kernel
theorem ev_6_11 : evP 6 11 = true := by decide +kernel
theorem ev_6_12 : evP 6 12 = true := by decide +kernel
theorem ev_6_13 : evP 6 13 = true := by decide +kernel
theorem ev_6_14 : evP 6 14 = true := by decide +kernel
theorem ev_6_15 : evP 6 15 = true := by decide +kernel
theorem ev_6_16 : evP 6 16 = true := by decide +kernel
theorem ev_6_17 : evP 6 17 = true := by decide +kernel
theorem ev_6_18 : evP 6 18 = true := by decide +kernel
theorem ev_6_19 : evP 6 19 = true := by decide +kernel
theorem ev_6_20 : evP 6 20 = true := by decide +kernel
theorem ev_6_21 : evP 6 21 = true := by decide +kernel
theorem ev_6_22 : evP 6 22 = true := by decide +kernel
theorem ev_6_23 : evP 6 23 = true := by decide +kernel
theorem ev_6_24 : evP 6 24 = true := by decide +kernel
theorem ev_6_25 : evP 6 25 = true := by decide +kernel
theorem ev_6_26 : evP 6 26 = true := by decide +kernel
theorem ev_6_27 : evP 6 27 = true := by decide +kernel
theorem ev_6_28 : evP 6 28 = true := by decide +kernel
theorem ev_6_29 : evP 6 29 = true := by decide +kernel
theorem ev_7_7 : evP 7 7 = true := by decide +kernel
theorem ev_7_8 : evP 7 8 = true := by decide +kernel
theorem ev_7_9 : evP 7 9 = true := by decide +kernel
theorem ev_7_10 : evP 7 10 = true := by decide +kernel
theorem ev_7_11 : evP 7 11 = true := by decide +kernel
theorem ev_7_12 : evP 7 12 = true := by decide +kernel
theorem ev_7_13 : evP 7 13 = true := by decide +kernel
theorem ev_7_14 : evP 7 14 = true := by decide +kernel
theorem ev_7_15 : evP 7 15 = true := by decide +kernel
theorem ev_7_16 : evP 7 16 = true := by decide +kernel
theorem ev_7_17 : evP 7 17 = true := by decide +kernel
theorem ev_7_18 : evP 7 18 = true := by decide +kernel
theorem ev_7_19 : evP 7 19 = true := by decide +kernel
theorem ev_7_20 : evP 7 20 = true := by decide +kernel
theorem ev_7_21 : evP 7 21 = true := by decide +kernel
theorem ev_7_22 : evP 7 22 = true := by decide +kernel
theorem ev_7_23 : evP 7 23 = true := by decide +kernel
theorem ev_7_24 : evP 7 24 = true := by decide +kernel
theorem ev_7_25 : evP 7 25 = true := by decide +kernel
theorem ev_7_26 : evP 7 26 = true := by decide +kernel
theorem ev_7_27 : evP 7 27 = true := by decide +kernel
theorem ev_7_28 : evP 7 28 = true := by decide +kernel
theorem ev_7_29 : evP 7 29 = true := by decide +kernel
theorem ev_8_8 : evP 8 8 = true := by decide +kernel
theorem ev_8_9 : evP 8 9 = true := by decide +kernel
theorem ev_8_10 : evP 8 10 = true := by decide +kernel
theorem ev_8_11 : evP 8 11 = true := by decide +kernel
theorem ev_8_12 : evP 8 12 = true := by decide +kernel
theorem ev_8_13 : evP 8 13 = true := by decide +kernel
theorem ev_8_14 : evP 8 14 = true := by decide +kernel
theorem ev_8_15 : evP 8 15 = true := by decide +kernel
theorem ev_8_16 : evP 8 16 = true := by decide +kernel
theorem ev_8_17 : evP 8 17 = true := by decide +kernel
theorem ev_8_18 : evP 8 18 = true := by decide +kernel
theorem ev_8_19 : evP 8 19 = true := by decide +kernel
theorem ev_8_20 : evP 8 20 = true := by decide +kernel
theorem ev_8_21 : evP 8 21 = true := by decide +kernel
theorem ev_8_22 : evP 8 22 = true := by decide +kernel
theorem ev_8_23 : evP 8 23 = true := by decide +kernel
theorem ev_8_24 : evP 8 24 = true := by decide +kernel
theorem ev_8_25 : evP 8 25 = true := by decide +kernel
theorem ev_8_26 : evP 8 26 = true := by decide +kernel
theorem ev_8_27 : evP 8 27 = true := by decide +kernel
theorem ev_8_28 : evP 8 28 = true := by decide +kernel
theorem ev_8_29 : evP 8 29 = true := by decide +kernel
theorem ev_9_9 : evP 9 9 = true := by decide +kernel
theorem ev_9_10 : evP 9 10 = true := by decide +kernel
theorem ev_9_11 : evP 9 11 = true := by decide +kernel
theorem ev_9_12 : evP 9 12 = true := by decide +kernel
theorem ev_9_13 : evP 9 13 = true := by decide +kernel
theorem ev_9_14 : evP 9 14 = true := by decide +kernel
theorem ev_9_15 : evP 9 15 = true := by decide +kernel
theorem ev_9_16 : evP 9 16 = true := by decide +kernel
theorem ev_9_17 : evP 9 17 = true := by decide +kernel
theorem ev_9_18 : evP 9 18 = true := by decide +kernel
theorem ev_9_19 : evP 9 19 = true := by decide +kernel
theorem ev_9_20 : evP 9 20 = true := by decide +kernel
theorem ev_9_21 : evP 9 21 = true := by decide +kernel
theorem ev_9_22 : evP 9 22 = true := by decide +kernel
theorem ev_9_23 : evP 9 23 = true := by decide +kernel
theorem ev_9_24 : evP 9 24 = true := by decide +kernel
theorem ev_9_25 : evP 9 25 = true := by decide +kernel
theorem ev_9_26 : evP 9 26 = true := by decide +kernel
theorem ev_9_27 : evP 9 27 = true := by decide +kernel
theorem ev_9_28 : evP 9 28 = true := by decide +kernel
theorem ev_9_29 : evP 9 29 = true := by decide +kernel
theorem ev_10_10 : evP 10 10 = true := by decide +kernel
theorem ev_10_11 : evP 10 11 = true := by decide +kernel
theorem ev_10_12 : evP 10 12 = true := by decide +kernel
theorem ev_10_13 : evP 10 13 = true := by decide +kernel
theorem ev_10_14 : evP 10 14 = true := by decide +kernel
theorem ev_10_15 : evP 10 15 = true := by decide +kernel
theorem ev_10_16 : evP 10 16 = true := by decide +kernel
theorem ev_10_17 : evP 10 17 = true := by decide +kernel
theorem ev_10_18 : evP 10 18 = true := by decide +kernel
theorem ev_10_19 : evP 10 19 = true := by decide +kernel
theorem ev_10_20 : evP 10 20 = true := by decide +kernel
theorem ev_10_21 : evP 10 21 = true := by decide +kernel
theorem ev_10_22 : evP 10 22 = true := by decide +kernel
theorem ev_10_23 : evP 10 23 = true := by decide +kernel
theorem ev_10_24 : evP 10 24 = true := by decide +kernel
theorem ev_10_25 : evP 10 25 = true := by decide +kernel
theorem ev_10_26 : evP 10 26 = true := by decide +kernel
theorem ev_10_27 : evP 10 27 = true := by decide +kernel
theorem ev_10_28 : evP 10 28 = true := by decide +kernel
theorem ev_10_29 : evP 10 29 = true := by decide +kernel
theorem ev_11_11 : evP 11 11 = true := by decide +kernel
theorem ev_11_12 : evP 11 12 = true := by decide +kernel
theorem ev_11_13 : evP 11 13 = true := by decide +kernel
theorem ev_11_14 : evP 11 14 = true := by decide +kernel
theorem ev_11_15 : evP 11 15 = true := by decide +kernel
theorem ev_11_16 : evP 11 16 = true := by decide +kernel
theorem ev_11_17 : evP 11 17 = true := by decide +kernel
theorem ev_11_18 : evP 11 18 = true := by decide +kernel
theorem ev_11_19 : evP 11 19 = true := by decide +kernel
theorem ev_11_20 : evP 11 20 = true := by decide +kernel
theorem ev_11_21 : evP 11 21 = true := by decide +kernel
theorem ev_11_22 : evP 11 22 = true := by decide +kernel
theorem ev_11_23 : evP 11 23 = true := by decide +kernel
theorem ev_11_24 : evP 11 24 = true := by decide +kernel
theorem ev_11_25 : evP 11 25 = true := by decide +kernel
theorem ev_11_26 : evP 11 26 = true := by decide +kernel
theorem ev_11_27 : evP 11 27 = true := by decide +kernel
theorem ev_11_28 : evP 11 28 = true := by decide +kernel
theorem ev_11_29 : evP 11 29 = true := by decide +kernel
theorem ev_12_12 : evP 12 12 = true := by decide +kernel
theorem ev_12_13 : evP 12 13 = true := by decide +kernel
theorem ev_12_14 : evP 12 14 = true := by decide +kernel
theorem ev_12_15 : evP 12 15 = true := by decide +kernel
theorem ev_12_16 : evP 12 16 = true := by decide +kernel
theorem ev_12_17 : evP 12 17 = true := by decide +kernel
theorem ev_12_18 : evP 12 18 = true := by decide +kernel
theorem ev_12_19 : evP 12 19 = true := by decide +kernel
theorem ev_12_20 : evP 12 20 = true := by decide +kernel
theorem ev_12_21 : evP 12 21 = true := by decide +kernel
theorem ev_12_22 : evP 12 22 = true := by decide +kernel
theorem ev_12_23 : evP 12 23 = true := by decide +kernel
theorem ev_12_24 : evP 12 24 = true := by decide +kernel
theorem ev_12_25 : evP 12 25 = true := by decide +kernel
theorem ev_12_26 : evP 12 26 = true := by decide +kernel
theorem ev_12_27 : evP 12 27 = true := by decide +kernel
theorem ev_12_28 : evP 12 28 = true := by decide +kernel
theorem ev_12_29 : evP 12 29 = true := by decide +kernel
theorem ev_13_13 : evP 13 13 = true := by decide +kernel
theorem ev_13_14 : evP 13 14 = true := by decide +kernel
theorem ev_13_15 : evP 13 15 = true := by decide +kernel
theorem ev_13_16 : evP 13 16 = true := by decide +kernel
theorem ev_13_17 : evP 13 17 = true := by decide +kernel
theorem ev_13_18 : evP 13 18 = true := by decide +kernel
theorem ev_13_19 : evP 13 19 = true := by decide +kernel
theorem ev_13_20 : evP 13 20 = true := by decide +kernel
theorem ev_13_21 : evP 13 21 = true := by decide +kernel
theorem ev_13_22 : evP 13 22 = true := by decide +kernel
theorem ev_13_23 : evP 13 23 = true := by decide +kernel
theorem ev_13_24 : evP 13 24 = true := by decide +kernel
theorem ev_13_25 : evP 13 25 = true := by decide +kernel
theorem ev_13_26 : evP 13 26 = true := by decide +kernel
theorem ev_13_27 : evP 13 27 = true := by decide +kernel
theorem ev_13_28 : evP 13 28 = true := by decide +kernel
theorem ev_13_29 : evP 13 29 = true := by decide +kernel
theorem ev_14_14 : evP 14 14 = true := by decide +kernel
theorem ev_14_15 : evP 14 15 = true := by decide +kernel
theorem ev_14_16 : evP 14 16 = true := by decide +kernel
theorem ev_14_17 : evP 14 17 = true := by decide +kernel
theorem ev_14_18 : evP 14 18 = true := by decide +kernel
theorem ev_14_19 : evP 14 19 = true := by decide +kernel
theorem ev_14_20 : evP 14 20 = true := by decide +kernel
theorem ev_14_21 : evP 14 21 = true := by decide +kernel
theorem ev_14_22 : evP 14 22 = true := by decide +kernel
theorem ev_14_23 : evP 14 23 = true := by decide +kernel
theorem ev_14_24 : evP 14 24 = true := by decide +kernel
theorem ev_14_25 : evP 14 25 = true := by decide +kernel
theorem ev_14_26 : evP 14 26 = true := by decide +kernel
theorem ev_14_27 : evP 14 27 = true := by decide +kernel
theorem ev_14_28 : evP 14 28 = true := by decide +kernel
theorem ev_14_29 : evP 14 29 = true := by decide +kernel
theorem ev_15_15 : evP 15 15 = true := by decide +kernel
theorem ev_15_16 : evP 15 16 = true := by decide +kernel
theorem ev_15_17 : evP 15 17 = true := by decide +kernel
theorem ev_15_18 : evP 15 18 = true := by decide +kernel
theorem ev_15_19 : evP 15 19 = true := by decide +kernel
theorem ev_15_20 : evP 15 20 = true := by decide +kernel
theorem ev_15_21 : evP 15 21 = true := by decide +kernel
theorem ev_15_22 : evP 15 22 = true := by decide +kernel
theorem ev_15_23 : evP 15 23 = true := by decide +kernel
theorem ev_15_24 : evP 15 24 = true := by decide +kernel
theorem ev_15_25 : evP 15 25 = true := by decide +kernel
theorem ev_15_26 : evP 15 26 = true := by decide +kernel
theorem ev_15_27 : evP 15 27 = true := by decide +kernel
theorem ev_15_28 : evP 15 28 = true := by decide +kernel
theorem ev_15_29 : evP 15 29 = true := by decide +kernel
theorem ev_16_16 : evP 16 16 = true := by decide +kernel
theorem ev_16_17 : evP 16 17 = true := by decide +kernel
theorem ev_16_18 : evP 16 18 = true := by decide +kernel
theorem ev_16_19 : evP 16 19 = true := by decide +kernel
theorem ev_16_20 : evP 16 20 = true := by decide +kernel
theorem ev_16_21 : evP 16 21 = true := by decide +kernel
theorem ev_16_22 : evP 16 22 = true := by decide +kernel
theorem ev_16_23 : evP 16 23 = true := by decide +kernel
theorem ev_16_24 : evP 16 24 = true := by decide +kernel
theorem ev_16_25 : evP 16 25 = true := by decide +kernel
theorem ev_16_26 : evP 16 26 = true := by decide +kernel
theorem ev_16_27 : evP 16 27 = true := by decide +kernel
theorem ev_16_28 : evP 16 28 = true := by decide +kernel
theorem ev_16_29 : evP 16 29 = true := by decide +kernel
theorem ev_17_17 : evP 17 17 = true := by decide +kernel
theorem ev_17_18 : evP 17 18 = true := by decide +kernel
theorem ev_17_19 : evP 17 19 = true := by decide +kernel
theorem ev_17_20 : evP 17 20 = true := by decide +kernel
theorem ev_17_21 : evP 17 21 = true := by decide +kernel
theorem ev_17_22 : evP 17 22 = true := by decide +kernel
theorem ev_17_23 : evP 17 23 = true := by decide +kernel
theorem ev_17_24 : evP 17 24 = true := by decide +kernel
theorem ev_17_25 : evP 17 25 = true := by decide +kernel
theorem ev_17_26 : evP 17 26 = true := by decide +kernel
theorem ev_17_27 : evP 17 27 = true := by decide +kernel
theorem ev_17_28 : evP 17 28 = true := by decide +kernel
theorem ev_17_29 : evP 17 29 = true := by decide +kernel
theorem ev_18_18 : evP 18 18 = true := by decide +kernel
theorem ev_18_19 : evP 18 19 = true := by decide +kernel
theorem ev_18_20 : evP 18 20 = true := by decide +kernel
theorem ev_18_21 : evP 18 21 = true := by decide +kernel
theorem ev_18_22 : evP 18 22 = true := by decide +kernel
theorem ev_18_23 : evP 18 23 = true := by decide +kernel
theorem ev_18_24 : evP 18 24 = true := by decide +kernel
theorem ev_18_25 : evP 18 25 = true := by decide +kernel
theorem ev_18_26 : evP 18 26 = true := by decide +kernel
theorem ev_18_27 : evP 18 27 = true := by decide +kernel
theorem ev_18_28 : evP 18 28 = true := by decide +kernel
theorem ev_18_29 : evP 18 29 = true := by decide +kernel
theorem ev_19_19 : evP 19 19 = true := by decide +kernel
theorem ev_19_20 : evP 19 20 = true := by decide +kernel
theorem ev_19_21 : evP 19 21 = true := by decide +kernel
theorem ev_19_22 : evP 19 22 = true := by decide +kernel
theorem ev_19_23 : evP 19 23 = true := by decide +kernel
theorem ev_19_24 : evP 19 24 = true := by decide +kernel
theorem ev_19_25 : evP 19 25 = true := by decide +kernel
theorem ev_19_26 : evP 19 26 = true := by decide +kernel
theorem ev_19_27 : evP 19 27 = true := by decide +kernel
theorem ev_19_28 : evP 19 28 = true := by decide +kernel
theorem ev_19_29 : evP 19 29 = true := by decide +kernel
theorem ev_20_20 : evP 20 20 = true := by decide +kernel
theorem ev_20_21 : evP 20 21 = true := by decide +kernel
theorem ev_20_22 : evP 20 22 = true := by decide +kernel
theorem ev_20_23 : evP 20 23 = true := by decide +kernel
theorem ev_20_24 : evP 20 24 = true := by decide +kernel
theorem ev_20_25 : evP 20 25 = true := by decide +kernel
theorem ev_20_26 : evP 20 26 = true := by decide +kernel
theorem ev_20_27 : evP 20 27 = true := by decide +kernel
theorem ev_20_28 : evP 20 28 = true := by decide +kernel
theorem ev_20_29 : evP 20 29 = true := by decide +kernel
theorem ev_21_21 : evP 21 21 = true := by decide +kernel
theorem ev_21_22 : evP 21 22 = true := by decide +kernel
theorem ev_21_23 : evP 21 23 = true := by decide +kernel
theorem ev_21_24 : evP 21 24 = true := by decide +kernel
theorem ev_21_25 : evP 21 25 = true := by decide +kernel
theorem ev_21_26 : evP 21 26 = true := by decide +kernel
theorem ev_21_27 : evP 21 27 = true := by decide +kernel
theorem ev_21_28 : evP 21 28 = true := by decide +kernel
theorem ev_21_29 : evP 21 29 = true := by decide +kernel
theorem ev_22_22 : evP 22 22 = true := by decide +kernel
theorem ev_22_23 : evP 22 23 = true := by decide +kernel
theorem ev_22_24 : evP 22 24 = true := by decide +kernel
theorem ev_22_25 : evP 22 25 = true := by decide +kernel
theorem ev_22_26 : evP 22 26 = true := by decide +kernel
theorem ev_22_27 : evP 22 27 = true := by decide +kernel
theorem ev_22_28 : evP 22 28 = true := by decide +kernel
theorem ev_22_29 : evP 22 29 = true := by decide +kernel
theorem ev_23_23 : evP 23 23 = true := by decide +kernel
theorem ev_23_24 : evP 23 24 = true := by decide +kernel
theorem ev_23_25 : evP 23 25 = true := by decide +kernel
theorem ev_23_26 : evP 23 26 = true := by decide +kernel
theorem ev_23_27 : evP 23 27 = true := by decide +kernel
theorem ev_23_28 : evP 23 28 = true := by decide +kernel
theorem ev_23_29 : evP 23 29 = true := by decide +kernel
theorem ev_24_24 : evP 24 24 = true := by decide +kernel
theorem ev_24_25 : evP 24 25 = true := by decide +kernel
theorem ev_24_26 : evP 24 26 = true := by decide +kernel
theorem ev_24_27 : evP 24 27 = true := by decide +kernel
theorem ev_24_28 : evP 24 28 = true := by decide +kernel
theorem ev_24_29 : evP 24 29 = true := by decide +kernel
theorem ev_25_25 : evP 25 25 = true := by decide +kernel
theorem ev_25_26 : evP 25 26 = true := by decide +kernel
theorem ev_25_27 : evP 25 27 = true := by decide +kernel
theorem ev_25_28 : evP 25 28 = true := by decide +kernel
theorem ev_25_29 : evP 25 29 = true := by decide +kernel
theorem ev_26_26 : evP 26 26 = true := by decide +kernel
theorem ev_26_27 : evP 26 27 = true := by decide +kernel
theorem ev_26_28 : evP 26 28 = true := by decide +kernel
theorem ev_26_29 : evP 26 29 = true := by decide +kernel
theorem ev_27_27 : evP 27 27 = true := by decide +kernel
theorem ev_27_28 : evP 27 28 = true := by decide +kernel
theorem ev_27_29 : evP 27 29 = true := by decide +kernel
theorem ev_28_28 : evP 28 28 = true := by decide +kernel
theorem ev_28_29 : evP 28 29 = true := by decide +kernel
theorem ev_29_29 : evP 29 29 = true := by decide +kernel
theorem evr_0 : ∀ j : Nat, 0 ≤ j → j < 30 → evP 0 j = true := stepUp ev_0_0 (stepUp ev_0_1 (stepUp ev_0_2 (stepUp ev_0_3 (stepUp ev_0_4 (stepUp ev_0_5 (stepUp ev_0_6 (stepUp ev_0_7 (stepUp ev_0_8 (stepUp ev_0_9 (stepUp ev_0_10 (stepUp ev_0_11 (stepUp ev_0_12 (stepUp ev_0_13 (stepUp ev_0_14 (stepUp ev_0_15 (stepUp ev_0_16 (stepUp ev_0_17 (stepUp ev_0_18 (stepUp ev_0_19 (stepUp ev_0_20 (stepUp ev_0_21 (stepUp ev_0_22 (stepUp ev_0_23 (stepUp ev_0_24 (stepUp ev_0_25 (stepUp ev_0_26 (stepUp ev_0_27 (stepUp ev_0_28 (stepUp ev_0_29 stepEnd)))))))))))))))))))))))))))))
theorem evr_1 : ∀ j : Nat, 1 ≤ j → j < 30 → evP 1 j = true := stepUp ev_1_1 (stepUp ev_1_2 (stepUp ev_1_3 (stepUp ev_1_4 (stepUp ev_1_5 (stepUp ev_1_6 (stepUp ev_1_7 (stepUp ev_1_8 (stepUp ev_1_9 (stepUp ev_1_10 (stepUp ev_1_11 (stepUp ev_1_12 (stepUp ev_1_13 (stepUp ev_1_14 (stepUp ev_1_15 (stepUp ev_1_16 (stepUp ev_1_17 (stepUp ev_1_18 (stepUp ev_1_19 (stepUp ev_1_20 (stepUp ev_1_21 (stepUp ev_1_22 (stepUp ev_1_23 (stepUp ev_1_24 (stepUp ev_1_25 (stepUp ev_1_26 (stepUp ev_1_27 (stepUp ev_1_28 (stepUp ev_1_29 stepEnd))))))))))))))))))))))))))))
theorem evr_2 : ∀ j : Nat, 2 ≤ j → j < 30 → evP 2 j = true := stepUp ev_2_2 (stepUp ev_2_3 (stepUp ev_2_4 (stepUp ev_2_5 (stepUp ev_2_6 (stepUp ev_2_7 (stepUp ev_2_8 (stepUp ev_2_9 (stepUp ev_2_10 (stepUp ev_2_11 (stepUp ev_2_12 (stepUp ev_2_13 (stepUp ev_2_14 (stepUp ev_2_15 (stepUp ev_2_16 (stepUp ev_2_17 (stepUp ev_2_18 (stepUp ev_2_19 (stepUp ev_2_20 (stepUp ev_2_21 (stepUp ev_2_22 (stepUp ev_2_23 (stepUp ev_2_24 (stepUp ev_2_25 (stepUp ev_2_26 (stepUp ev_2_27 (stepUp ev_2_28 (stepUp ev_2_29 stepEnd)))))))))))))))))))))))))))
theorem evr_3 : ∀ j : Nat, 3 ≤ j → j < 30 → evP 3 j = true := stepUp ev_3_3 (stepUp ev_3_4 (stepUp ev_3_5 (stepUp ev_3_6 (stepUp ev_3_7 (stepUp ev_3_8 (stepUp ev_3_9 (stepUp ev_3_10 (stepUp ev_3_11 (stepUp ev_3_12 (stepUp ev_3_13 (stepUp ev_3_14 (stepUp ev_3_15 (stepUp ev_3_16 (stepUp ev_3_17 (stepUp ev_3_18 (stepUp ev_3_19 (stepUp ev_3_20 (stepUp ev_3_21 (stepUp ev_3_22 (stepUp ev_3_23 (stepUp ev_3_24 (stepUp ev_3_25 (stepUp ev_3_26 (stepUp ev_3_27 (stepUp ev_3_28 (stepUp ev_3_29 stepEnd))))))))))))))))))))))))))
theorem evr_4 : ∀ j : Nat, 4 ≤ j → j < 30 → evP 4 j = true := stepUp ev_4_4 (stepUp ev_4_5 (stepUp ev_4_6 (stepUp ev_4_7 (stepUp ev_4_8 (stepUp ev_4_9 (stepUp ev_4_10 (stepUp ev_4_11 (stepUp ev_4_12 (stepUp ev_4_13 (stepUp ev_4_14 (stepUp ev_4_15 (stepUp ev_4_16 (stepUp ev_4_17 (stepUp ev_4_18 (stepUp ev_4_19 (stepUp ev_4_20 (stepUp ev_4_21 (stepUp ev_4_22 (stepUp ev_4_23 (stepUp ev_4_24 (stepUp ev_4_25 (stepUp ev_4_26 (stepUp ev_4_27 (stepUp ev_4_28 (stepUp ev_4_29 stepEnd)))))))))))))))))))))))))
theorem evr_5 : ∀ j : Nat, 5 ≤ j → j < 30 → evP 5 j = true := stepUp ev_5_5 (stepUp ev_5_6 (stepUp ev_5_7 (stepUp ev_5_8 (stepUp ev_5_9 (stepUp ev_5_10 (stepUp ev_5_11 (stepUp ev_5_12 (stepUp ev_5_13 (stepUp ev_5_14 (stepUp ev_5_15 (stepUp ev_5_16 (stepUp ev_5_17 (stepUp ev_5_18 (stepUp ev_5_19 (stepUp ev_5_20 (stepUp ev_5_21 (stepUp ev_5_22 (stepUp ev_5_23 (stepUp ev_5_24 (stepUp ev_5_25 (stepUp ev_5_26 (stepUp ev_5_27 (stepUp ev_5_28 (stepUp ev_5_29 stepEnd))))))))))))))))))))))))
theorem evr_6 : ∀ j : Nat, 6 ≤ j → j < 30 → evP 6 j = true := stepUp ev_6_6 (stepUp ev_6_7 (stepUp ev_6_8 (stepUp ev_6_9 (stepUp ev_6_10 (stepUp ev_6_11 (stepUp ev_6_12 (stepUp ev_6_13 (stepUp ev_6_14 (stepUp ev_6_15 (stepUp ev_6_16 (stepUp ev_6_17 (stepUp ev_6_18 (stepUp ev_6_19 (stepUp ev_6_20 (stepUp ev_6_21 (stepUp ev_6_22 (stepUp ev_6_23 (stepUp ev_6_24 (stepUp ev_6_25 (stepUp ev_6_26 (stepUp ev_6_27 (stepUp ev_6_28 (stepUp ev_6_29 stepEnd)))))))))))))))))))))))
theorem evr_7 : ∀ j : Nat, 7 ≤ j → j < 30 → evP 7 j = true := stepUp ev_7_7 (stepUp ev_7_8 (stepUp ev_7_9 (stepUp ev_7_10 (stepUp ev_7_11 (stepUp ev_7_12 (stepUp ev_7_13 (stepUp ev_7_14 (stepUp ev_7_15 (stepUp ev_7_16 (stepUp ev_7_17 (stepUp ev_7_18 (stepUp ev_7_19 (stepUp ev_7_20 (stepUp ev_7_21 (stepUp ev_7_22 (stepUp ev_7_23 (stepUp ev_7_24 (stepUp ev_7_25 (stepUp ev_7_26 (stepUp ev_7_27 (stepUp ev_7_28 (stepUp ev_7_29 stepEnd))))))))))))))))))))))
theorem evr_8 : ∀ j : Nat, 8 ≤ j → j < 30 → evP 8 j = true := stepUp ev_8_8 (stepUp ev_8_9 (stepUp ev_8_10 (stepUp ev_8_11 (stepUp ev_8_12 (stepUp ev_8_13 (stepUp ev_8_14 (stepUp ev_8_15 (stepUp ev_8_16 (stepUp ev_8_17 (stepUp ev_8_18 (stepUp ev_8_19 (stepUp ev_8_20 (stepUp ev_8_21 (stepUp ev_8_22 (stepUp ev_8_23 (stepUp ev_8_24 (stepUp ev_8_25 (stepUp ev_8_26 (stepUp ev_8_27 (stepUp ev_8_28 (stepUp ev_8_29 stepEnd)))))))))))))))))))))
theorem evr_9 : ∀ j : Nat, 9 ≤ j → j < 30 → evP 9 j = true := stepUp ev_9_9 (stepUp ev_9_10 (stepUp ev_9_11 (stepUp ev_9_12 (stepUp ev_9_13 (stepUp ev_9_14 (stepUp ev_9_15 (stepUp ev_9_16 (stepUp ev_9_17 (stepUp ev_9_18 (stepUp ev_9_19 (stepUp ev_9_20 (stepUp ev_9_21 (stepUp ev_9_22 (stepUp ev_9_23 (stepUp ev_9_24 (stepUp ev_9_25 (stepUp ev_9_26 (stepUp ev_9_27 (stepUp ev_9_28 (stepUp ev_9_29 stepEnd))))))))))))))))))))
theorem evr_10 : ∀ j : Nat, 10 ≤ j → j < 30 → evP 10 j = true := stepUp ev_10_10 (stepUp ev_10_11 (stepUp ev_10_12 (stepUp ev_10_13 (stepUp ev_10_14 (stepUp ev_10_15 (stepUp ev_10_16 (stepUp ev_10_17 (stepUp ev_10_18 (stepUp ev_10_19 (stepUp ev_10_20 (stepUp ev_10_21 (stepUp ev_10_22 (stepUp ev_10_23 (stepUp ev_10_24 (stepUp ev_10_25 (stepUp ev_10_26 (stepUp ev_10_27 (stepUp ev_10_28 (stepUp ev_10_29 stepEnd)))))))))))))))))))
theorem evr_11 : ∀ j : Nat, 11 ≤ j → j < 30 → evP 11 j = true := stepUp ev_11_11 (stepUp ev_11_12 (stepUp ev_11_13 (stepUp ev_11_14 (stepUp ev_11_15 (stepUp ev_11_16 (stepUp ev_11_17 (stepUp ev_11_18 (stepUp ev_11_19 (stepUp ev_11_20 (stepUp ev_11_21 (stepUp ev_11_22 (stepUp ev_11_23 (stepUp ev_11_24 (stepUp ev_11_25 (stepUp ev_11_26 (stepUp ev_11_27 (stepUp ev_11_28 (stepUp ev_11_29 stepEnd))))))))))))))))))
theorem evr_12 : ∀ j : Nat, 12 ≤ j → j < 30 → evP 12 j = true := stepUp ev_12_12 (stepUp ev_12_13 (stepUp ev_12_14 (stepUp ev_12_15 (stepUp ev_12_16 (stepUp ev_12_17 (stepUp ev_12_18 (stepUp ev_12_19 (stepUp ev_12_20 (stepUp ev_12_21 (stepUp ev_12_22 (stepUp ev_12_23 (stepUp ev_12_24 (stepUp ev_12_25 (stepUp ev_12_26 (stepUp ev_12_27 (stepUp ev_12_28 (stepUp ev_12_29 stepEnd)))))))))))))))))
theorem evr_13 : ∀ j : Nat, 13 ≤ j → j < 30 → evP 13 j = true := stepUp ev_13_13 (stepUp ev_13_14 (stepUp ev_13_15 (stepUp ev_13_16 (stepUp ev_13_17 (stepUp ev_13_18 (stepUp ev_13_19 (stepUp ev_13_20 (stepUp ev_13_21 (stepUp ev_13_22 (stepUp ev_13_23 (stepUp ev_13_24 (stepUp ev_13_25 (stepUp ev_13_26 (stepUp ev_13_27 (stepUp ev_13_28 (stepUp ev_13_29 stepEnd))))))))))))))))
theorem evr_14 : ∀ j : Nat, 14 ≤ j → j < 30 → evP 14 j = true := stepUp ev_14_14 (stepUp ev_14_15 (stepUp ev_14_16 (stepUp ev_14_17 (stepUp ev_14_18 (stepUp ev_14_19 (stepUp ev_14_20 (stepUp ev_14_21 (stepUp ev_14_22 (stepUp ev_14_23 (stepUp ev_14_24 (stepUp ev_14_25 (stepUp ev_14_26 (stepUp ev_14_27 (stepUp ev_14_28 (stepUp ev_14_29 stepEnd)))))))))))))))
theorem evr_15 : ∀ j : Nat, 15 ≤ j → j < 30 → evP 15 j = true := stepUp ev_15_15 (stepUp ev_15_16 (stepUp ev_15_17 (stepUp ev_15_18 (stepUp ev_15_19 (stepUp ev_15_20 (stepUp ev_15_21 (stepUp ev_15_22 (stepUp ev_15_23 (stepUp ev_15_24 (stepUp ev_15_25 (stepUp ev_15_26 (stepUp ev_15_27 (stepUp ev_15_28 (stepUp ev_15_29 stepEnd))))))))))))))
theorem evr_16 : ∀ j : Nat, 16 ≤ j → j < 30 → evP 16 j = true := stepUp ev_16_16 (stepUp ev_16_17 (stepUp ev_16_18 (stepUp ev_16_19 (stepUp ev_16_20 (stepUp ev_16_21 (stepUp ev_16_22 (stepUp ev_16_23 (stepUp ev_16_24 (stepUp ev_16_25 (stepUp ev_16_26 (stepUp ev_16_27 (stepUp ev_16_28 (stepUp ev_16_29 stepEnd)))))))))))))
theorem evr_17 : ∀ j : Nat, 17 ≤ j → j < 30 → evP 17 j = true := stepUp ev_17_17 (stepUp ev_17_18 (stepUp ev_17_19 (stepUp ev_17_20 (stepUp ev_17_21 (stepUp ev_17_22 (stepUp ev_17_23 (stepUp ev_17_24 (stepUp ev_17_25 (stepUp ev_17_26 (stepUp ev_17_27 (stepUp ev_17_28 (stepUp ev_17_29 stepEnd))))))))))))
theorem evr_18 : ∀ j : Nat, 18 ≤ j → j < 30 → evP 18 j = true := stepUp ev_18_18 (stepUp ev_18_19 (stepUp ev_18_20 (stepUp ev_18_21 (stepUp ev_18_22 (stepUp ev_18_23 (stepUp ev_18_24 (stepUp ev_18_25 (stepUp ev_18_26 (stepUp ev_18_27 (stepUp ev_18_28 (stepUp ev_18_29 stepEnd)))))))))))
theorem evr_19 : ∀ j : Nat, 19 ≤ j → j < 30 → evP 19 j = true := stepUp ev_19_19 (stepUp ev_19_20 (stepUp ev_19_21 (stepUp ev_19_22 (stepUp ev_19_23 (stepUp ev_19_24 (stepUp ev_19_25 (stepUp ev_19_26 (stepUp ev_19_27 (stepUp ev_19_28 (stepUp ev_19_29 stepEnd))))))))))
theorem evr_20 : ∀ j : Nat, 20 ≤ j → j < 30 → evP 20 j = true := stepUp ev_20_20 (stepUp ev_20_21 (stepUp ev_20_22 (stepUp ev_20_23 (stepUp ev_20_24 (stepUp ev_20_25 (stepUp ev_20_26 (stepUp ev_20_27 (stepUp ev_20_28 (stepUp ev_20_29 stepEnd)))))))))
theorem evr_21 : ∀ j : Nat, 21 ≤ j → j < 30 → evP 21 j = true := stepUp ev_21_21 (stepUp ev_21_22 (stepUp ev_21_23 (stepUp ev_21_24 (stepUp ev_21_25 (stepUp ev_21_26 (stepUp ev_21_27 (stepUp ev_21_28 (stepUp ev_21_29 stepEnd))))))))
theorem evr_22 : ∀ j : Nat, 22 ≤ j → j < 30 → evP 22 j = true := stepUp ev_22_22 (stepUp ev_22_23 (stepUp ev_22_24 (stepUp ev_22_25 (stepUp ev_22_26 (stepUp ev_22_27 (stepUp ev_22_28 (stepUp ev_22_29 stepEnd)))))))
theorem evr_23 : ∀ j : Nat, 23 ≤ j → j < 30 → evP 23 j = true := stepUp ev_23_23 (stepUp ev_23_24 (stepUp ev_23_25 (stepUp ev_23_26 (stepUp ev_23_27 (stepUp ev_23_28 (stepUp ev_23_29 stepEnd))))))
theorem evr_24 : ∀ j : Nat, 24 ≤ j → j < 30 → evP 24 j = true := stepUp ev_24_24 (stepUp ev_24_25 (stepUp ev_24_26 (stepUp ev_24_27 (stepUp ev_24_28 (stepUp ev_24_29 stepEnd)))))
theorem evr_25 : ∀ j : Nat, 25 ≤ j → j < 30 → evP 25 j = true := stepUp ev_25_25 (stepUp ev_25_26 (stepUp ev_25_27 (stepUp ev_25_28 (stepUp ev_25_29 stepEnd))))
theorem evr_26 : ∀ j : Nat, 26 ≤ j → j < 30 → evP 26 j = true := stepUp ev_26_26 (stepUp ev_26_27 (stepUp ev_26_28 (stepUp ev_26_29 stepEnd)))
theorem evr_27 : ∀ j : Nat, 27 ≤ j → j < 30 → evP 27 j = true := stepUp ev_27_27 (stepUp ev_27_28 (stepUp ev_27_29 stepEnd))
theorem evr_28 : ∀ j : Nat, 28 ≤ j → j < 30 → evP 28 j = true := stepUp ev_28_28 (stepUp ev_28_29 stepEnd)
theorem evr_29 : ∀ j : Nat, 29 ≤ j → j < 30 → evP 29 j = true := stepUp ev_29_29 stepEnd
theorem ev_all (i j : Nat) (h1 : i ≤ j) (h2 : j < 30) : evP i j = true :=
  (show ∀ i : Nat, 0 ≤ i → i < 30 → ∀ j : Nat, i ≤ j → j < 30 → evP i j = true from stepUp evr_0 (stepUp evr_1 (stepUp evr_2 (stepUp evr_3 (stepUp evr_4 (stepUp evr_5 (stepUp evr_6 (stepUp evr_7 (stepUp evr_8 (stepUp evr_9 (stepUp evr_10 (stepUp evr_11 (stepUp evr_12 (stepUp evr_13 (stepUp evr_14 (stepUp evr_15 (stepUp evr_16 (stepUp evr_17 (stepUp evr_18 (stepUp evr_19 (stepUp evr_20 (stepUp evr_21 (stepUp evr_22 (stepUp evr_23 (stepUp evr_24 (stepUp evr_25 (stepUp evr_26 (stepUp evr_27 (stepUp evr_28 (stepUp evr_29 stepEnd)))))))))))))))))))))))))))))) i (Nat.zero_le i) (by omega) j h1 h2
theorem pure_law (q0 q1 q2 : List Int) (h0 : isQuad q0) (h1 : isQuad q1) (h2 : isQuad q2) : LawOk q0 q1 q2 := lawOk_all ev_all q0 q1 q2 h0 h1 h2
end
section
theorem base_of {w : World} {B : Heap} {p : Program} {loose : List Str} {mean : ExcName → Option Value} {mg mb : Str → Option Value} (X : (KW w.params).In B) (T : Top p loose mean mg mb B) (c : CodeHd B 128 124) : Base w B :=
  ⟨X, T.nolimit, ⟨mg, mb, T.g, T.b, T.builtins⟩, ⟨p, loose, mean, mg, mb, T⟩, c⟩
theorem st_of {B : Heap} {L sc : Addr} {s : Shared} {m : Str → Option Value} {o1 o2 o3 : Obj} (F : Fr B L s.heap m) (N : News B L s.heap [(L + 1 + 1 + 1, o3), (L + 1 + 1, o2), (L + 1, o1), (124, tabObj #[])]) (hL : 124 < L)
    (hm : m "script" = some (.ref sc)) (e3 : o3.data = .cell none) (e2 : o2.data = .cell none) (e1 : o1.data = .cell none) :
    St s B ((L, LocC [("script", .ref sc)]) :: (L + 1, CellC none) :: (L + 1 + 1, CellC none) :: (L + 1 + 1 + 1, CellC none) :: (124, TabC #[]) :: []) s := by
  have n1 := N (L + 1, o1) (.tail _ (.tail _ (.head _)))
  have n2 := N (L + 1 + 1, o2) (.tail _ (.head _))
  have n3 := N (L + 1 + 1 + 1, o3) (.head _)
  have n4 := N (124, tabObj #[]) (.tail _ (.tail _ (.tail _ (.head _))))
  refine ⟨⟨rfl, rfl, rfl⟩, F.keep, fun p hp => ?_, fun p hp => ?_, ?_⟩
  · rcases List.mem_cons.mp hp with rfl | hp
    · obtain ⟨o, ho, hn⟩ := ns_iff.mp F.ns
      exact ⟨o, ho, m, hn, fun p hp => by rw [List.mem_singleton.mp hp]; exact hm⟩
    rcases List.mem_cons.mp hp with rfl | hp
    · exact ⟨_, n1.1, e1⟩
    rcases List.mem_cons.mp hp with rfl | hp
    · exact ⟨_, n2.1, e2⟩
    rcases List.mem_cons.mp hp with rfl | hp
    · exact ⟨_, n3.1, e3⟩
    · rw [List.mem_singleton.mp hp]
      exact ⟨_, n4.1, rfl⟩
  · rcases List.mem_cons.mp hp with rfl | hp
    · show B.get? L = none
      cases q : B.get? L with
      | none => rfl
      | some o => exact absurd (Heap.lt_size q) (Nat.not_lt.mpr F.above)
    rcases List.mem_cons.mp hp with rfl | hp
    · exact n1.2.2
    rcases List.mem_cons.mp hp with rfl | hp
    · exact n2.2.2
    rcases List.mem_cons.mp hp with rfl | hp
    · exact n3.2.2
    · rw [List.mem_singleton.mp hp]
      exact n4.2.2
  · simp only [List.map_cons, List.map_nil, List.nodup_cons, List.mem_cons, List.not_mem_nil, or_false, not_or]
    show (L ≠ L + 1 ∧ L ≠ L + 1 + 1 ∧ L ≠ L + 1 + 1 + 1 ∧ L ≠ 124) ∧ (L + 1 ≠ L + 1 + 1 ∧ L + 1 ≠ L + 1 + 1 + 1 ∧ L + 1 ≠ 124) ∧ (L + 1 + 1 ≠ L + 1 + 1 + 1 ∧ L + 1 + 1 ≠ 124) ∧ (¬ L + 1 + 1 + 1 = 124) ∧ _ ∧ _
    have hL' : (124 : Nat) < (L : Nat) := hL
    refine ⟨⟨?_, ?_, ?_, ?_⟩, ⟨?_, ?_, ?_⟩, ⟨?_, ?_⟩, ?_, not_false, .nil⟩ <;> (intro e; have e : (_ : Nat) = (_ : Nat) := e; omega)
theorem ok_law : ∀ env : Env, Ok (callerA.deeper env) 9 := fun env => Ok.deeper (n := 9) ⟨rfl, by decide, by decide⟩ env
theorem ws0 : Fast.tw9446332074065402090 PySem.Challenge.rw_wj0032_01 = true := by decide +kernel
set_option maxHeartbeats 8000000 in
theorem headT : PySem.Challenge.rw_wj0032_01.Holds := by
  refine holds_law (by rw [Fast.te9446332074065402090]; exact ws0) fun said => ?_
  refine PySem.W.holds_open (r := OL) (q := VW) (loose := LS) (Xt := Xt) (XP := XL VW []) (Yf := HK.obs) (Ya := HK.val) (YP := HK.says) (N := 4912) leftW HK.of HK.keeps (fun s e => xl_of s (Bool.and_eq_true_iff.mp e).1) XL.keeps (by rfl) (by rfl) (by rfl) (fun s e => recFacts_of (Bool.and_eq_true_iff.mp e).2) (by rfl) (by assumption) (by decide +kernel) ⟨rfl, rfl, rfl, rfl, rfl, by decide +kernel⟩ ?hw ?hc
  case hw => exact ⟨[WData.list []], by decide +kernel, by decide +kernel⟩
  case hc =>
    show WalkO VW LS (XL VW []) (kmHook KW AS as_ok [124]).says OL.toRowW _ _ _
    intro w s₀ s₁ mg mb G Y fa o pm cd doc dV kV ho hd hcd hD hmg hg args vals as hpre hlay hrd hwl hlo
    have X' := km_in_of Y
    have hT8 := km_tabs_of Y
    have X := (Ground.X G).1
    have V := (Ground.X G).2
    refine Ground.open G ?_
    intro T B D TE TW
    try (refine guard_noD D (by decide +kernel) ?_; clear D)
    have hT9 : TabsAt [(128, 124)] _ := List.forall_mem_cons.mpr ⟨⟨codeHd_of_K (c := 128) (P := 124) X' (by kernel_rfl), hT8 124 (by exact .head _)⟩, fun _ h => nomatch h⟩
    clear hmg
    wrow_args hpre hlay hrd hwl hlo
    first | refine callC_kw (enter_call ?_) | refine enter_call ?_
    w_top on
    kn_posts
    w_call any ho hd hcd hD T F
    clear hd
    kn_ghosts F T
    k_drop
    rename_i h₁ _ o3 o2 o1 e3 e2 e1 _ X9 T' K' F' N' l0
    refine c_lawBody (base_of X9 T' codeHd) (ok_law _) (by exact rfl) lifted (by assumption) (by omega) pure_law (st_of F' N' (by assumption) (by exact rfl) (by exact e3) (by exact e2) (by exact e1)) ?_
    intro s' D ps H hm
    refine ⟨⟨.inl ⟨.bool true, .bool true, [], rfl, fun _ => rfl, .bool true, ?_, unshared_nil⟩, H.keep, H.sh.2.2, H.sh.1.trans (by assumption)⟩, ?_, trivial⟩
    · first | wrow_post | kc_post
    · obtain ⟨o, ho, e⟩ := H.cell _ hm
      exact ⟨ps, by rw [ho, e]⟩
end
end Mine
theorem PySem.Challenge.cw_wj0032_01_holds : PySem.Challenge.rw_wj0032_01.Holds := by
  exact Mine.headT
