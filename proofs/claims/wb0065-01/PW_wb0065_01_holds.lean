import PyProof.Rows.All
import Wide.All
import OpenK.AllK
import Wide.FinOn
import PySem.Challenge.RW_wb0065_01
set_option Elab.async false
set_option linter.unusedVariables false
set_option compiler.extract_closed false
namespace Mine
section
open PySem PySem.W PyProof.Rows
def hd.pw : Program := PySem.Challenge.pw_wb0065_01
noncomputable def hd.view_39 : Program := view hd.pw ([1, 2, 3, 4, 5, 6, 7] ++ [9, 10, 11, 12] ++ (List.range 54).map (· + 14) ++ [69, 70, 71, 72, 73, 74, 75])
def hd.fd (i : Nat) : Option (Arguments × List Stmt × Scope × Pos) := match hd.pw.main.body[i]? with
  | some (.FunctionDef _ a b _ _ _ sc _ _ p) => some (a, b, sc, p)
  | _ => none
noncomputable def hd.heap_39 : Params → Frag := by
  refine (?f : (Params → Frag) → hd.fd 2 = some (?a2, ?b2, ?s2, ?p2) → hd.fd 3 = some (?a3, ?b3, ?s3, ?p3) → hd.fd 4 = some (?a4, ?b4, ?s4, ?p4) → hd.fd 5 = some (?a5, ?b5, ?s5, ?p5) → hd.fd 6 = some (?a6, ?b6, ?s6, ?p6) → hd.fd 7 = some (?a7, ?b7, ?s7, ?p7) → hd.fd 9 = some (?a9, ?b9, ?s9, ?p9) → hd.fd 10 = some (?a10, ?b10, ?s10, ?p10) → hd.fd 11 = some (?a11, ?b11, ?s11, ?p11) → hd.fd 12 = some (?a12, ?b12, ?s12, ?p12) → hd.fd 65 = some (?a65, ?b65, ?s65, ?p65) → hd.fd 66 = some (?a66, ?b66, ?s66, ?p66) → hd.fd 67 = some (?a67, ?b67, ?s67, ?p67) → hd.fd 69 = some (?a69, ?b69, ?s69, ?p69) → hd.fd 70 = some (?a70, ?b70, ?s70, ?p70) → hd.fd 71 = some (?a71, ?b71, ?s71, ?p71) → hd.fd 72 = some (?a72, ?b72, ?s72, ?p72) → hd.fd 73 = some (?a73, ?b73, ?s73, ?p73) → hd.fd 74 = some (?a74, ?b74, ?s74, ?p74) → hd.fd 75 = some (?a75, ?b75, ?s75, ?p75) → (Params → Frag)) (fun P =>
  (nat_lit 2, ⟨Value.none, none, .dict #[] 0, #[]⟩) ::
  (nat_lit 3, ⟨Value.type "dict", none, .dict #[⟨PyData.keyHash P (Str.ofString "__name__"), .str (Str.ofString "__name__") 165, Value.str (Str.ofString "law_wb0065_01") 522⟩,
    ⟨PyData.keyHash P (Str.ofString "__doc__"), .str (Str.ofString "__doc__") 166, Value.none⟩,
    ⟨PyData.keyHash P (Str.ofString "__package__"), .str (Str.ofString "__package__") 167, Value.none⟩,
    ⟨PyData.keyHash P (Str.ofString "__loader__"), .str (Str.ofString "__loader__") 168, Value.builtin "__main__.__loader__#opaque"⟩,
    ⟨PyData.keyHash P (Str.ofString "__spec__"), .str (Str.ofString "__spec__") 169, Value.none⟩,
    ⟨PyData.keyHash P (Str.ofString "__annotations__"), .str (Str.ofString "__annotations__") 170, Value.ref 6⟩,
    ⟨PyData.keyHash P (Str.ofString "__builtins__"), .str (Str.ofString "__builtins__") 171, Value.ref 4⟩,
    ⟨PyData.keyHash P (Str.ofString "__file__"), .str (Str.ofString "__file__") 173, Value.str (Str.ofString "/claim/cut.py") 172⟩,
    ⟨PyData.keyHash P (Str.ofString "__cached__"), .str (Str.ofString "__cached__") 174, Value.none⟩,
    ⟨PyData.keyHash P (Str.ofString "_DIV_LIMIT"), .str (Str.ofString "_DIV_LIMIT") 190, Value.int 4000 189⟩,
    ⟨PyData.keyHash P (Str.ofString "_div2n1n"), .str (Str.ofString "_div2n1n") 207, Value.ref 21⟩,
    ⟨PyData.keyHash P (Str.ofString "_div3n2n"), .str (Str.ofString "_div3n2n") 221, Value.ref 28⟩,
    ⟨PyData.keyHash P (Str.ofString "_int2digits"), .str (Str.ofString "_int2digits") 232, Value.ref 35⟩,
    ⟨PyData.keyHash P (Str.ofString "_digits2int"), .str (Str.ofString "_digits2int") 243, Value.ref 42⟩,
    ⟨PyData.keyHash P (Str.ofString "_divmod_pos"), .str (Str.ofString "_divmod_pos") 258, Value.ref 49⟩,
    ⟨PyData.keyHash P (Str.ofString "int_divmod"), .str (Str.ofString "int_divmod") 268, Value.ref 56⟩,
    ⟨PyData.keyHash P (Str.ofString "add"), .str (Str.ofString "add") 278, Value.ref 63⟩,
    ⟨PyData.keyHash P (Str.ofString "mul"), .str (Str.ofString "mul") 286, Value.ref 70⟩,
    ⟨PyData.keyHash P (Str.ofString "neg"), .str (Str.ofString "neg") 293, Value.ref 77⟩,
    ⟨PyData.keyHash P (Str.ofString "sub"), .str (Str.ofString "sub") 301, Value.ref 84⟩,
    ⟨PyData.keyHash P (Str.ofString "ENDMARKER"), .str (Str.ofString "ENDMARKER") 305, Value.int 0 304⟩,
    ⟨PyData.keyHash P (Str.ofString "LPAR"), .str (Str.ofString "LPAR") 307, Value.int 7 306⟩,
    ⟨PyData.keyHash P (Str.ofString "RPAR"), .str (Str.ofString "RPAR") 309, Value.int 8 308⟩,
    ⟨PyData.keyHash P (Str.ofString "LSQB"), .str (Str.ofString "LSQB") 311, Value.int 9 310⟩,
    ⟨PyData.keyHash P (Str.ofString "RSQB"), .str (Str.ofString "RSQB") 313, Value.int 10 312⟩,
    ⟨PyData.keyHash P (Str.ofString "COLON"), .str (Str.ofString "COLON") 315, Value.int 11 314⟩,
    ⟨PyData.keyHash P (Str.ofString "COMMA"), .str (Str.ofString "COMMA") 317, Value.int 12 316⟩,
    ⟨PyData.keyHash P (Str.ofString "SEMI"), .str (Str.ofString "SEMI") 319, Value.int 13 318⟩,
    ⟨PyData.keyHash P (Str.ofString "PLUS"), .str (Str.ofString "PLUS") 321, Value.int 14 320⟩,
    ⟨PyData.keyHash P (Str.ofString "MINUS"), .str (Str.ofString "MINUS") 323, Value.int 15 322⟩,
    ⟨PyData.keyHash P (Str.ofString "STAR"), .str (Str.ofString "STAR") 325, Value.int 16 324⟩,
    ⟨PyData.keyHash P (Str.ofString "SLASH"), .str (Str.ofString "SLASH") 327, Value.int 17 326⟩,
    ⟨PyData.keyHash P (Str.ofString "VBAR"), .str (Str.ofString "VBAR") 329, Value.int 18 328⟩,
    ⟨PyData.keyHash P (Str.ofString "AMPER"), .str (Str.ofString "AMPER") 331, Value.int 19 330⟩,
    ⟨PyData.keyHash P (Str.ofString "LESS"), .str (Str.ofString "LESS") 333, Value.int 20 332⟩,
    ⟨PyData.keyHash P (Str.ofString "GREATER"), .str (Str.ofString "GREATER") 335, Value.int 21 334⟩,
    ⟨PyData.keyHash P (Str.ofString "EQUAL"), .str (Str.ofString "EQUAL") 337, Value.int 22 336⟩,
    ⟨PyData.keyHash P (Str.ofString "DOT"), .str (Str.ofString "DOT") 339, Value.int 23 338⟩,
    ⟨PyData.keyHash P (Str.ofString "PERCENT"), .str (Str.ofString "PERCENT") 341, Value.int 24 340⟩,
    ⟨PyData.keyHash P (Str.ofString "LBRACE"), .str (Str.ofString "LBRACE") 343, Value.int 25 342⟩,
    ⟨PyData.keyHash P (Str.ofString "RBRACE"), .str (Str.ofString "RBRACE") 345, Value.int 26 344⟩,
    ⟨PyData.keyHash P (Str.ofString "EQEQUAL"), .str (Str.ofString "EQEQUAL") 347, Value.int 27 346⟩,
    ⟨PyData.keyHash P (Str.ofString "NOTEQUAL"), .str (Str.ofString "NOTEQUAL") 349, Value.int 28 348⟩,
    ⟨PyData.keyHash P (Str.ofString "LESSEQUAL"), .str (Str.ofString "LESSEQUAL") 351, Value.int 29 350⟩,
    ⟨PyData.keyHash P (Str.ofString "GREATEREQUAL"), .str (Str.ofString "GREATEREQUAL") 353, Value.int 30 352⟩,
    ⟨PyData.keyHash P (Str.ofString "TILDE"), .str (Str.ofString "TILDE") 355, Value.int 31 354⟩,
    ⟨PyData.keyHash P (Str.ofString "CIRCUMFLEX"), .str (Str.ofString "CIRCUMFLEX") 357, Value.int 32 356⟩,
    ⟨PyData.keyHash P (Str.ofString "LEFTSHIFT"), .str (Str.ofString "LEFTSHIFT") 359, Value.int 33 358⟩,
    ⟨PyData.keyHash P (Str.ofString "RIGHTSHIFT"), .str (Str.ofString "RIGHTSHIFT") 361, Value.int 34 360⟩,
    ⟨PyData.keyHash P (Str.ofString "DOUBLESTAR"), .str (Str.ofString "DOUBLESTAR") 363, Value.int 35 362⟩,
    ⟨PyData.keyHash P (Str.ofString "PLUSEQUAL"), .str (Str.ofString "PLUSEQUAL") 365, Value.int 36 364⟩,
    ⟨PyData.keyHash P (Str.ofString "MINEQUAL"), .str (Str.ofString "MINEQUAL") 367, Value.int 37 366⟩,
    ⟨PyData.keyHash P (Str.ofString "STAREQUAL"), .str (Str.ofString "STAREQUAL") 369, Value.int 38 368⟩,
    ⟨PyData.keyHash P (Str.ofString "SLASHEQUAL"), .str (Str.ofString "SLASHEQUAL") 371, Value.int 39 370⟩,
    ⟨PyData.keyHash P (Str.ofString "PERCENTEQUAL"), .str (Str.ofString "PERCENTEQUAL") 373, Value.int 40 372⟩,
    ⟨PyData.keyHash P (Str.ofString "AMPEREQUAL"), .str (Str.ofString "AMPEREQUAL") 375, Value.int 41 374⟩,
    ⟨PyData.keyHash P (Str.ofString "VBAREQUAL"), .str (Str.ofString "VBAREQUAL") 377, Value.int 42 376⟩,
    ⟨PyData.keyHash P (Str.ofString "CIRCUMFLEXEQUAL"), .str (Str.ofString "CIRCUMFLEXEQUAL") 379, Value.int 43 378⟩,
    ⟨PyData.keyHash P (Str.ofString "LEFTSHIFTEQUAL"), .str (Str.ofString "LEFTSHIFTEQUAL") 381, Value.int 44 380⟩,
    ⟨PyData.keyHash P (Str.ofString "RIGHTSHIFTEQUAL"), .str (Str.ofString "RIGHTSHIFTEQUAL") 383, Value.int 45 382⟩,
    ⟨PyData.keyHash P (Str.ofString "DOUBLESTAREQUAL"), .str (Str.ofString "DOUBLESTAREQUAL") 385, Value.int 46 384⟩,
    ⟨PyData.keyHash P (Str.ofString "DOUBLESLASH"), .str (Str.ofString "DOUBLESLASH") 387, Value.int 47 386⟩,
    ⟨PyData.keyHash P (Str.ofString "DOUBLESLASHEQUAL"), .str (Str.ofString "DOUBLESLASHEQUAL") 389, Value.int 48 388⟩,
    ⟨PyData.keyHash P (Str.ofString "AT"), .str (Str.ofString "AT") 391, Value.int 49 390⟩,
    ⟨PyData.keyHash P (Str.ofString "ATEQUAL"), .str (Str.ofString "ATEQUAL") 393, Value.int 50 392⟩,
    ⟨PyData.keyHash P (Str.ofString "RARROW"), .str (Str.ofString "RARROW") 395, Value.int 51 394⟩,
    ⟨PyData.keyHash P (Str.ofString "ELLIPSIS"), .str (Str.ofString "ELLIPSIS") 397, Value.int 52 396⟩,
    ⟨PyData.keyHash P (Str.ofString "COLONEQUAL"), .str (Str.ofString "COLONEQUAL") 399, Value.int 53 398⟩,
    ⟨PyData.keyHash P (Str.ofString "EXCLAMATION"), .str (Str.ofString "EXCLAMATION") 401, Value.int 54 400⟩,
    ⟨PyData.keyHash P (Str.ofString "NT_OFFSET"), .str (Str.ofString "NT_OFFSET") 403, Value.int 256 402⟩,
    ⟨PyData.keyHash P (Str.ofString "EXACT_TOKEN_TYPES"), .str (Str.ofString "EXACT_TOKEN_TYPES") 500, Value.ref 85⟩,
    ⟨PyData.keyHash P (Str.ofString "ISTERMINAL"), .str (Str.ofString "ISTERMINAL") 507, Value.ref 94⟩,
    ⟨PyData.keyHash P (Str.ofString "ISNONTERMINAL"), .str (Str.ofString "ISNONTERMINAL") 514, Value.ref 101⟩,
    ⟨PyData.keyHash P (Str.ofString "ISEOF"), .str (Str.ofString "ISEOF") 521, Value.ref 108⟩,
    ⟨PyData.keyHash P (Str.ofString "_law_symbols"), .str (Str.ofString "_law_symbols") 533, Value.ref 115⟩,
    ⟨PyData.keyHash P (Str.ofString "_law_rows"), .str (Str.ofString "_law_rows") 543, Value.ref 122⟩,
    ⟨PyData.keyHash P (Str.ofString "_law_worth"), .str (Str.ofString "_law_worth") 555, Value.ref 129⟩,
    ⟨PyData.keyHash P (Str.ofString "_law_code"), .str (Str.ofString "_law_code") 574, Value.ref 136⟩,
    ⟨PyData.keyHash P (Str.ofString "_law_left"), .str (Str.ofString "_law_left") 584, Value.ref 143⟩,
    ⟨PyData.keyHash P (Str.ofString "_law_tells"), .str (Str.ofString "_law_tells") 590, Value.ref 148⟩,
    ⟨PyData.keyHash P (Str.ofString "law"), .str (Str.ofString "law") 596, Value.ref 153⟩] 81, #[]⟩) ::
  (nat_lit 20, ⟨.type "code", none, .fields #[Value.str (Str.ofString "_div2n1n") 191, Value.str (Str.ofString "_div2n1n") 192, Value.str (Str.ofString "/claim/cut.py") 193, Value.int 3 0, Value.int 3 0, Value.int 0 0, Value.int 0 0, Value.int 3 0, Value.ref 15, Value.bool true, Value.int 181 0, Value.ref 16, Value.none, Value.ref 17, Value.ref 18, Value.ref 19, Value.int 205 0, Value.int 3 0, Value.str (Str.ofString "/claim/cut.py") 206], #[]⟩) ::
  (nat_lit 21, ⟨.type "function", none, .func { name := Str.ofString "_div2n1n", qualname := Str.ofString "_div2n1n", params := ?a2, body := .stmts ?b2, scope := ?s2, globals := 3, closure := [], defaults := .none, kwdefaults := .none, pyModule := .str (Str.ofString "cpy313._pylong") 187, code := .ref 20 }, #[]⟩) ::
  (nat_lit 27, ⟨.type "code", none, .fields #[Value.str (Str.ofString "_div3n2n") 208, Value.str (Str.ofString "_div3n2n") 209, Value.str (Str.ofString "/claim/cut.py") 210, Value.int 19 0, Value.int 6 0, Value.int 0 0, Value.int 0 0, Value.int 3 0, Value.ref 22, Value.bool true, Value.int 181 0, Value.ref 23, Value.none, Value.ref 24, Value.ref 25, Value.ref 26, Value.int 219 0, Value.int 19 0, Value.str (Str.ofString "/claim/cut.py") 220], #[]⟩) ::
  (nat_lit 28, ⟨.type "function", none, .func { name := Str.ofString "_div3n2n", qualname := Str.ofString "_div3n2n", params := ?a3, body := .stmts ?b3, scope := ?s3, globals := 3, closure := [], defaults := .none, kwdefaults := .none, pyModule := .str (Str.ofString "cpy313._pylong") 187, code := .ref 27 }, #[]⟩) ::
  (nat_lit 34, ⟨.type "code", none, .fields #[Value.str (Str.ofString "_int2digits") 222, Value.str (Str.ofString "_int2digits") 223, Value.str (Str.ofString "/claim/cut.py") 224, Value.int 29 0, Value.int 2 0, Value.int 0 0, Value.int 0 0, Value.int 3 0, Value.ref 29, Value.bool true, Value.int 181 0, Value.ref 30, Value.none, Value.ref 31, Value.ref 32, Value.ref 33, Value.int 230 0, Value.int 29 0, Value.str (Str.ofString "/claim/cut.py") 231], #[]⟩) ::
  (nat_lit 35, ⟨.type "function", none, .func { name := Str.ofString "_int2digits", qualname := Str.ofString "_int2digits", params := ?a4, body := .stmts ?b4, scope := ?s4, globals := 3, closure := [], defaults := .none, kwdefaults := .none, pyModule := .str (Str.ofString "cpy313._pylong") 187, code := .ref 34 }, #[]⟩) ::
  (nat_lit 41, ⟨.type "code", none, .fields #[Value.str (Str.ofString "_digits2int") 233, Value.str (Str.ofString "_digits2int") 234, Value.str (Str.ofString "/claim/cut.py") 235, Value.int 45 0, Value.int 2 0, Value.int 0 0, Value.int 0 0, Value.int 3 0, Value.ref 36, Value.bool true, Value.int 181 0, Value.ref 37, Value.none, Value.ref 38, Value.ref 39, Value.ref 40, Value.int 241 0, Value.int 45 0, Value.str (Str.ofString "/claim/cut.py") 242], #[]⟩) ::
  (nat_lit 42, ⟨.type "function", none, .func { name := Str.ofString "_digits2int", qualname := Str.ofString "_digits2int", params := ?a5, body := .stmts ?b5, scope := ?s5, globals := 3, closure := [], defaults := .none, kwdefaults := .none, pyModule := .str (Str.ofString "cpy313._pylong") 187, code := .ref 41 }, #[]⟩) ::
  (nat_lit 48, ⟨.type "code", none, .fields #[Value.str (Str.ofString "_divmod_pos") 244, Value.str (Str.ofString "_divmod_pos") 245, Value.str (Str.ofString "/claim/cut.py") 246, Value.int 54 0, Value.int 2 0, Value.int 0 0, Value.int 0 0, Value.int 3 0, Value.ref 43, Value.bool true, Value.int 181 0, Value.ref 44, Value.none, Value.ref 45, Value.ref 46, Value.ref 47, Value.int 256 0, Value.int 54 0, Value.str (Str.ofString "/claim/cut.py") 257], #[]⟩) ::
  (nat_lit 49, ⟨.type "function", none, .func { name := Str.ofString "_divmod_pos", qualname := Str.ofString "_divmod_pos", params := ?a6, body := .stmts ?b6, scope := ?s6, globals := 3, closure := [], defaults := .none, kwdefaults := .none, pyModule := .str (Str.ofString "cpy313._pylong") 187, code := .ref 48 }, #[]⟩) ::
  (nat_lit 55, ⟨.type "code", none, .fields #[Value.str (Str.ofString "int_divmod") 259, Value.str (Str.ofString "int_divmod") 260, Value.str (Str.ofString "/claim/cut.py") 261, Value.int 65 0, Value.int 2 0, Value.int 0 0, Value.int 0 0, Value.int 3 0, Value.ref 50, Value.bool true, Value.int 181 0, Value.ref 51, Value.none, Value.ref 52, Value.ref 53, Value.ref 54, Value.int 266 0, Value.int 65 0, Value.str (Str.ofString "/claim/cut.py") 267], #[]⟩) ::
  (nat_lit 56, ⟨.type "function", none, .func { name := Str.ofString "int_divmod", qualname := Str.ofString "int_divmod", params := ?a7, body := .stmts ?b7, scope := ?s7, globals := 3, closure := [], defaults := .none, kwdefaults := .none, pyModule := .str (Str.ofString "cpy313._pylong") 187, code := .ref 55 }, #[]⟩) ::
  (nat_lit 62, ⟨.type "code", none, .fields #[Value.str (Str.ofString "add") 271, Value.str (Str.ofString "add") 272, Value.str (Str.ofString "/claim/cut.py") 273, Value.int 77 0, Value.int 2 0, Value.int 0 0, Value.int 0 0, Value.int 3 0, Value.ref 57, Value.bool true, Value.int 181 0, Value.ref 58, Value.none, Value.ref 59, Value.ref 60, Value.ref 61, Value.int 276 0, Value.int 77 0, Value.str (Str.ofString "/claim/cut.py") 277], #[]⟩) ::
  (nat_lit 63, ⟨.type "function", none, .func { name := Str.ofString "add", qualname := Str.ofString "add", params := ?a9, body := .stmts ?b9, scope := ?s9, globals := 3, closure := [], defaults := .none, kwdefaults := .none, pyModule := .str (Str.ofString "cpy313.operator") 269, code := .ref 62 }, #[]⟩) ::
  (nat_lit 69, ⟨.type "code", none, .fields #[Value.str (Str.ofString "mul") 279, Value.str (Str.ofString "mul") 280, Value.str (Str.ofString "/claim/cut.py") 281, Value.int 79 0, Value.int 2 0, Value.int 0 0, Value.int 0 0, Value.int 3 0, Value.ref 64, Value.bool true, Value.int 181 0, Value.ref 65, Value.none, Value.ref 66, Value.ref 67, Value.ref 68, Value.int 284 0, Value.int 79 0, Value.str (Str.ofString "/claim/cut.py") 285], #[]⟩) ::
  (nat_lit 70, ⟨.type "function", none, .func { name := Str.ofString "mul", qualname := Str.ofString "mul", params := ?a10, body := .stmts ?b10, scope := ?s10, globals := 3, closure := [], defaults := .none, kwdefaults := .none, pyModule := .str (Str.ofString "cpy313.operator") 269, code := .ref 69 }, #[]⟩) ::
  (nat_lit 76, ⟨.type "code", none, .fields #[Value.str (Str.ofString "neg") 287, Value.str (Str.ofString "neg") 288, Value.str (Str.ofString "/claim/cut.py") 289, Value.int 81 0, Value.int 1 0, Value.int 0 0, Value.int 0 0, Value.int 3 0, Value.ref 71, Value.bool true, Value.int 181 0, Value.ref 72, Value.none, Value.ref 73, Value.ref 74, Value.ref 75, Value.int 291 0, Value.int 81 0, Value.str (Str.ofString "/claim/cut.py") 292], #[]⟩) ::
  (nat_lit 77, ⟨.type "function", none, .func { name := Str.ofString "neg", qualname := Str.ofString "neg", params := ?a11, body := .stmts ?b11, scope := ?s11, globals := 3, closure := [], defaults := .none, kwdefaults := .none, pyModule := .str (Str.ofString "cpy313.operator") 269, code := .ref 76 }, #[]⟩) ::
  (nat_lit 83, ⟨.type "code", none, .fields #[Value.str (Str.ofString "sub") 294, Value.str (Str.ofString "sub") 295, Value.str (Str.ofString "/claim/cut.py") 296, Value.int 83 0, Value.int 2 0, Value.int 0 0, Value.int 0 0, Value.int 3 0, Value.ref 78, Value.bool true, Value.int 181 0, Value.ref 79, Value.none, Value.ref 80, Value.ref 81, Value.ref 82, Value.int 299 0, Value.int 83 0, Value.str (Str.ofString "/claim/cut.py") 300], #[]⟩) ::
  (nat_lit 84, ⟨.type "function", none, .func { name := Str.ofString "sub", qualname := Str.ofString "sub", params := ?a12, body := .stmts ?b12, scope := ?s12, globals := 3, closure := [], defaults := .none, kwdefaults := .none, pyModule := .str (Str.ofString "cpy313.operator") 269, code := .ref 83 }, #[]⟩) ::
  (nat_lit 85, ⟨Value.type "dict", none, .dict #[⟨PyData.keyHash P (Str.ofString "!"), .str (Str.ofString "!") 404, Value.int 54 400⟩,
    ⟨PyData.keyHash P (Str.ofString "!="), .str (Str.ofString "!=") 406, Value.int 28 348⟩,
    ⟨PyData.keyHash P (Str.ofString "%"), .str (Str.ofString "%") 408, Value.int 24 340⟩,
    ⟨PyData.keyHash P (Str.ofString "%="), .str (Str.ofString "%=") 410, Value.int 40 372⟩,
    ⟨PyData.keyHash P (Str.ofString "&"), .str (Str.ofString "&") 412, Value.int 19 330⟩,
    ⟨PyData.keyHash P (Str.ofString "&="), .str (Str.ofString "&=") 414, Value.int 41 374⟩,
    ⟨PyData.keyHash P (Str.ofString "("), .str (Str.ofString "(") 416, Value.int 7 306⟩,
    ⟨PyData.keyHash P (Str.ofString ")"), .str (Str.ofString ")") 418, Value.int 8 308⟩,
    ⟨PyData.keyHash P (Str.ofString "*"), .str (Str.ofString "*") 420, Value.int 16 324⟩,
    ⟨PyData.keyHash P (Str.ofString "**"), .str (Str.ofString "**") 422, Value.int 35 362⟩,
    ⟨PyData.keyHash P (Str.ofString "**="), .str (Str.ofString "**=") 424, Value.int 46 384⟩,
    ⟨PyData.keyHash P (Str.ofString "*="), .str (Str.ofString "*=") 426, Value.int 38 368⟩,
    ⟨PyData.keyHash P (Str.ofString "+"), .str (Str.ofString "+") 428, Value.int 14 320⟩,
    ⟨PyData.keyHash P (Str.ofString "+="), .str (Str.ofString "+=") 430, Value.int 36 364⟩,
    ⟨PyData.keyHash P (Str.ofString ","), .str (Str.ofString ",") 432, Value.int 12 316⟩,
    ⟨PyData.keyHash P (Str.ofString "-"), .str (Str.ofString "-") 434, Value.int 15 322⟩,
    ⟨PyData.keyHash P (Str.ofString "-="), .str (Str.ofString "-=") 436, Value.int 37 366⟩,
    ⟨PyData.keyHash P (Str.ofString "->"), .str (Str.ofString "->") 438, Value.int 51 394⟩,
    ⟨PyData.keyHash P (Str.ofString "."), .str (Str.ofString ".") 440, Value.int 23 338⟩,
    ⟨PyData.keyHash P (Str.ofString "..."), .str (Str.ofString "...") 442, Value.int 52 396⟩,
    ⟨PyData.keyHash P (Str.ofString "/"), .str (Str.ofString "/") 444, Value.int 17 326⟩,
    ⟨PyData.keyHash P (Str.ofString "//"), .str (Str.ofString "//") 446, Value.int 47 386⟩,
    ⟨PyData.keyHash P (Str.ofString "//="), .str (Str.ofString "//=") 448, Value.int 48 388⟩,
    ⟨PyData.keyHash P (Str.ofString "/="), .str (Str.ofString "/=") 450, Value.int 39 370⟩,
    ⟨PyData.keyHash P (Str.ofString ":"), .str (Str.ofString ":") 452, Value.int 11 314⟩,
    ⟨PyData.keyHash P (Str.ofString ":="), .str (Str.ofString ":=") 454, Value.int 53 398⟩,
    ⟨PyData.keyHash P (Str.ofString ";"), .str (Str.ofString ";") 456, Value.int 13 318⟩,
    ⟨PyData.keyHash P (Str.ofString "<"), .str (Str.ofString "<") 458, Value.int 20 332⟩,
    ⟨PyData.keyHash P (Str.ofString "<<"), .str (Str.ofString "<<") 460, Value.int 33 358⟩,
    ⟨PyData.keyHash P (Str.ofString "<<="), .str (Str.ofString "<<=") 462, Value.int 44 380⟩,
    ⟨PyData.keyHash P (Str.ofString "<="), .str (Str.ofString "<=") 464, Value.int 29 350⟩,
    ⟨PyData.keyHash P (Str.ofString "="), .str (Str.ofString "=") 466, Value.int 22 336⟩,
    ⟨PyData.keyHash P (Str.ofString "=="), .str (Str.ofString "==") 468, Value.int 27 346⟩,
    ⟨PyData.keyHash P (Str.ofString ">"), .str (Str.ofString ">") 470, Value.int 21 334⟩,
    ⟨PyData.keyHash P (Str.ofString ">="), .str (Str.ofString ">=") 472, Value.int 30 352⟩,
    ⟨PyData.keyHash P (Str.ofString ">>"), .str (Str.ofString ">>") 473, Value.int 34 360⟩,
    ⟨PyData.keyHash P (Str.ofString ">>="), .str (Str.ofString ">>=") 474, Value.int 45 382⟩,
    ⟨PyData.keyHash P (Str.ofString "@"), .str (Str.ofString "@") 475, Value.int 49 390⟩,
    ⟨PyData.keyHash P (Str.ofString "@="), .str (Str.ofString "@=") 476, Value.int 50 392⟩,
    ⟨PyData.keyHash P (Str.ofString "["), .str (Str.ofString "[") 477, Value.int 9 310⟩,
    ⟨PyData.keyHash P (Str.ofString "]"), .str (Str.ofString "]") 478, Value.int 10 312⟩,
    ⟨PyData.keyHash P (Str.ofString "^"), .str (Str.ofString "^") 479, Value.int 32 356⟩,
    ⟨PyData.keyHash P (Str.ofString "^="), .str (Str.ofString "^=") 480, Value.int 43 378⟩,
    ⟨PyData.keyHash P (Str.ofString "{"), .str (Str.ofString "{") 481, Value.int 25 342⟩,
    ⟨PyData.keyHash P (Str.ofString "|"), .str (Str.ofString "|") 482, Value.int 18 328⟩,
    ⟨PyData.keyHash P (Str.ofString "|="), .str (Str.ofString "|=") 483, Value.int 42 376⟩,
    ⟨PyData.keyHash P (Str.ofString "}"), .str (Str.ofString "}") 484, Value.int 26 344⟩,
    ⟨PyData.keyHash P (Str.ofString "~"), .str (Str.ofString "~") 485, Value.int 31 354⟩] 48, #[]⟩) ::
  (nat_lit 93, ⟨.type "code", none, .fields #[Value.str (Str.ofString "ISTERMINAL") 501, Value.str (Str.ofString "ISTERMINAL") 502, Value.str (Str.ofString "/claim/cut.py") 503, Value.int 137 0, Value.int 1 0, Value.int 0 0, Value.int 0 0, Value.int 3 0, Value.ref 88, Value.bool true, Value.int 181 0, Value.ref 89, Value.none, Value.ref 90, Value.ref 91, Value.ref 92, Value.int 505 0, Value.int 137 0, Value.str (Str.ofString "/claim/cut.py") 506], #[]⟩) ::
  (nat_lit 94, ⟨.type "function", none, .func { name := Str.ofString "ISTERMINAL", qualname := Str.ofString "ISTERMINAL", params := ?a65, body := .stmts ?b65, scope := ?s65, globals := 3, closure := [], defaults := .none, kwdefaults := .none, pyModule := .str (Str.ofString "cpy313.token") 302, code := .ref 93 }, #[]⟩) ::
  (nat_lit 100, ⟨.type "code", none, .fields #[Value.str (Str.ofString "ISNONTERMINAL") 508, Value.str (Str.ofString "ISNONTERMINAL") 509, Value.str (Str.ofString "/claim/cut.py") 510, Value.int 139 0, Value.int 1 0, Value.int 0 0, Value.int 0 0, Value.int 3 0, Value.ref 95, Value.bool true, Value.int 181 0, Value.ref 96, Value.none, Value.ref 97, Value.ref 98, Value.ref 99, Value.int 512 0, Value.int 139 0, Value.str (Str.ofString "/claim/cut.py") 513], #[]⟩) ::
  (nat_lit 101, ⟨.type "function", none, .func { name := Str.ofString "ISNONTERMINAL", qualname := Str.ofString "ISNONTERMINAL", params := ?a66, body := .stmts ?b66, scope := ?s66, globals := 3, closure := [], defaults := .none, kwdefaults := .none, pyModule := .str (Str.ofString "cpy313.token") 302, code := .ref 100 }, #[]⟩) ::
  (nat_lit 107, ⟨.type "code", none, .fields #[Value.str (Str.ofString "ISEOF") 515, Value.str (Str.ofString "ISEOF") 516, Value.str (Str.ofString "/claim/cut.py") 517, Value.int 141 0, Value.int 1 0, Value.int 0 0, Value.int 0 0, Value.int 3 0, Value.ref 102, Value.bool true, Value.int 181 0, Value.ref 103, Value.none, Value.ref 104, Value.ref 105, Value.ref 106, Value.int 519 0, Value.int 141 0, Value.str (Str.ofString "/claim/cut.py") 520], #[]⟩) ::
  (nat_lit 108, ⟨.type "function", none, .func { name := Str.ofString "ISEOF", qualname := Str.ofString "ISEOF", params := ?a67, body := .stmts ?b67, scope := ?s67, globals := 3, closure := [], defaults := .none, kwdefaults := .none, pyModule := .str (Str.ofString "cpy313.token") 302, code := .ref 107 }, #[]⟩) ::
  (nat_lit 114, ⟨.type "code", none, .fields #[Value.str (Str.ofString "_law_symbols") 524, Value.str (Str.ofString "_law_symbols") 525, Value.str (Str.ofString "/claim/cut.py") 526, Value.int 144 0, Value.int 1 0, Value.int 0 0, Value.int 0 0, Value.int 3 0, Value.ref 109, Value.bool true, Value.int 181 0, Value.ref 110, Value.none, Value.ref 111, Value.ref 112, Value.ref 113, Value.int 531 0, Value.int 144 0, Value.str (Str.ofString "/claim/cut.py") 532], #[]⟩) ::
  (nat_lit 115, ⟨.type "function", none, .func { name := Str.ofString "_law_symbols", qualname := Str.ofString "_law_symbols", params := ?a69, body := .stmts ?b69, scope := ?s69, globals := 3, closure := [], defaults := .none, kwdefaults := .none, pyModule := .str (Str.ofString "law_wb0065_01") 522, code := .ref 114 }, #[]⟩) ::
  (nat_lit 121, ⟨.type "code", none, .fields #[Value.str (Str.ofString "_law_rows") 534, Value.str (Str.ofString "_law_rows") 535, Value.str (Str.ofString "/claim/cut.py") 536, Value.int 151 0, Value.int 1 0, Value.int 0 0, Value.int 0 0, Value.int 3 0, Value.ref 116, Value.bool true, Value.int 181 0, Value.ref 117, Value.none, Value.ref 118, Value.ref 119, Value.ref 120, Value.int 541 0, Value.int 151 0, Value.str (Str.ofString "/claim/cut.py") 542], #[]⟩) ::
  (nat_lit 122, ⟨.type "function", none, .func { name := Str.ofString "_law_rows", qualname := Str.ofString "_law_rows", params := ?a70, body := .stmts ?b70, scope := ?s70, globals := 3, closure := [], defaults := .none, kwdefaults := .none, pyModule := .str (Str.ofString "law_wb0065_01") 522, code := .ref 121 }, #[]⟩) ::
  (nat_lit 128, ⟨.type "code", none, .fields #[Value.str (Str.ofString "_law_worth") 544, Value.str (Str.ofString "_law_worth") 545, Value.str (Str.ofString "/claim/cut.py") 546, Value.int 160 0, Value.int 2 0, Value.int 0 0, Value.int 0 0, Value.int 3 0, Value.ref 123, Value.bool true, Value.int 181 0, Value.ref 124, Value.none, Value.ref 125, Value.ref 126, Value.ref 127, Value.int 553 0, Value.int 160 0, Value.str (Str.ofString "/claim/cut.py") 554], #[]⟩) ::
  (nat_lit 129, ⟨.type "function", none, .func { name := Str.ofString "_law_worth", qualname := Str.ofString "_law_worth", params := ?a71, body := .stmts ?b71, scope := ?s71, globals := 3, closure := [], defaults := .none, kwdefaults := .none, pyModule := .str (Str.ofString "law_wb0065_01") 522, code := .ref 128 }, #[]⟩) ::
  (nat_lit 135, ⟨.type "code", none, .fields #[Value.str (Str.ofString "_law_code") 556, Value.str (Str.ofString "_law_code") 557, Value.str (Str.ofString "/claim/cut.py") 558, Value.int 169 0, Value.int 4 0, Value.int 0 0, Value.int 0 0, Value.int 3 0, Value.ref 130, Value.bool true, Value.int 181 0, Value.ref 131, Value.none, Value.ref 132, Value.ref 133, Value.ref 134, Value.int 572 0, Value.int 169 0, Value.str (Str.ofString "/claim/cut.py") 573], #[]⟩) ::
  (nat_lit 136, ⟨.type "function", none, .func { name := Str.ofString "_law_code", qualname := Str.ofString "_law_code", params := ?a72, body := .stmts ?b72, scope := ?s72, globals := 3, closure := [], defaults := .none, kwdefaults := .none, pyModule := .str (Str.ofString "law_wb0065_01") 522, code := .ref 135 }, #[]⟩) ::
  (nat_lit 142, ⟨.type "code", none, .fields #[Value.str (Str.ofString "_law_left") 575, Value.str (Str.ofString "_law_left") 576, Value.str (Str.ofString "/claim/cut.py") 577, Value.int 178 0, Value.int 2 0, Value.int 0 0, Value.int 0 0, Value.int 3 0, Value.ref 137, Value.bool true, Value.int 181 0, Value.ref 138, Value.none, Value.ref 139, Value.ref 140, Value.ref 141, Value.int 582 0, Value.int 178 0, Value.str (Str.ofString "/claim/cut.py") 583], #[]⟩) ::
  (nat_lit 143, ⟨.type "function", none, .func { name := Str.ofString "_law_left", qualname := Str.ofString "_law_left", params := ?a73, body := .stmts ?b73, scope := ?s73, globals := 3, closure := [], defaults := .none, kwdefaults := .none, pyModule := .str (Str.ofString "law_wb0065_01") 522, code := .ref 142 }, #[]⟩) ::
  (nat_lit 147, ⟨.type "code", none, .fields #[Value.str (Str.ofString "_law_tells") 585, Value.str (Str.ofString "_law_tells") 586, Value.str (Str.ofString "/claim/cut.py") 587, Value.int 183 0, Value.int 4 0, Value.int 0 0, Value.int 0 0, Value.int 3 0, Value.ref 144, Value.bool true, Value.int 181 0, Value.ref 145, Value.none, Value.none, Value.none, Value.ref 146, Value.int 588 0, Value.int 183 0, Value.str (Str.ofString "/claim/cut.py") 589], #[]⟩) ::
  (nat_lit 148, ⟨.type "function", none, .func { name := Str.ofString "_law_tells", qualname := Str.ofString "_law_tells", params := ?a74, body := .stmts ?b74, scope := ?s74, globals := 3, closure := [], defaults := .none, kwdefaults := .none, pyModule := .str (Str.ofString "law_wb0065_01") 522, code := .ref 147 }, #[]⟩) ::
  (nat_lit 152, ⟨.type "code", none, .fields #[Value.str (Str.ofString "law") 591, Value.str (Str.ofString "law") 592, Value.str (Str.ofString "/claim/cut.py") 593, Value.int 191 0, Value.int 1 0, Value.int 0 0, Value.int 0 0, Value.int 3 0, Value.ref 149, Value.bool true, Value.int 181 0, Value.ref 150, Value.none, Value.none, Value.none, Value.ref 151, Value.int 594 0, Value.int 191 0, Value.str (Str.ofString "/claim/cut.py") 595], #[]⟩) ::
  (nat_lit 153, ⟨.type "function", none, .func { name := Str.ofString "law", qualname := Str.ofString "law", params := ?a75, body := .stmts ?b75, scope := ?s75, globals := 3, closure := [], defaults := .none, kwdefaults := .none, pyModule := .str (Str.ofString "law_wb0065_01") 522, code := .ref 152 }, #[]⟩) :: []) ?h2 ?h3 ?h4 ?h5 ?h6 ?h7 ?h9 ?h10 ?h11 ?h12 ?h65 ?h66 ?h67 ?h69 ?h70 ?h71 ?h72 ?h73 ?h74 ?h75
  case h2 => exact rfl
  case h3 => exact rfl
  case h4 => exact rfl
  case h5 => exact rfl
  case h6 => exact rfl
  case h7 => exact rfl
  case h9 => exact rfl
  case h10 => exact rfl
  case h11 => exact rfl
  case h12 => exact rfl
  case h65 => exact rfl
  case h66 => exact rfl
  case h67 => exact rfl
  case h69 => exact rfl
  case h70 => exact rfl
  case h71 => exact rfl
  case h72 => exact rfl
  case h73 => exact rfl
  case h74 => exact rfl
  case h75 => exact rfl
  exact fun y _ _ _ _ _ _ _ _ _ _ _ _ _ _ _ _ _ _ _ _ => y
noncomputable def hd.keys : List Addr := [2, 3, 20, 21, 27, 28, 34, 35, 41, 42, 48, 49, 55, 56, 62, 63, 69, 70, 76, 77, 83, 84, 85, 93, 94, 100, 101, 107, 108, 114, 115, 121, 122, 128, 129, 135, 136, 142, 143, 147, 148, 152, 153]
theorem frz {G : Prop} (h : ∀ H : Prop, (G → H) → H) : G := h G fun x => x
def ZSub {α : Type} (l B : List α) : Prop := ∀ p ∈ l, p ∈ B
theorem ZSub.go {α : Type} {l B : List α} (h : ZSub l B) : ∀ p ∈ l, p ∈ B := h
theorem ZSub.nil {α : Type} {B : List α} : ZSub [] B := fun _ h => nomatch h
theorem ZSub.self {α : Type} {l : List α} : ZSub l l := fun _ h => h
theorem ZSub.cons {α : Type} {a : α} {l B : List α} (h : a ∈ B) (t : ZSub l B) : ZSub (a :: l) B := List.forall_mem_cons.mpr ⟨h, t⟩
theorem ZSub.tl {α : Type} {b : α} {l B : List α} (t : ZSub l B) : ZSub l (b :: B) := fun p h => .tail _ (t p h)
theorem mm0 {α : Type} {a : α} {l : List α} : a ∈ a :: l := .head _
theorem mm1 {α : Type} {x0 a : α} {l : List α} : a ∈ x0 :: a :: l := .tail _ (.head _)
theorem mm2 {α : Type} {x0 x1 a : α} {l : List α} : a ∈ x0 :: x1 :: a :: l := .tail _ (.tail _ (.head _))
theorem mm3 {α : Type} {x0 x1 x2 a : α} {l : List α} : a ∈ x0 :: x1 :: x2 :: a :: l := .tail _ (.tail _ (.tail _ (.head _)))
theorem execsA {M : Model} {A : Around} {E : Value → Shared → Prop} {s : Shared} {env : Env} {a : List Expr} {b : Expr} {c : Pos} {rest : List Stmt} {Q : Flow → Shared → Prop}
    (h : ∀ Q' : Flow → Shared → Prop, (∀ s', wpAny M A (execs rest env) Q E s' → Q' .next s') → wpAny M A (exec (.Assign a b c) env) Q' E s) : wpAny M A (execs (.Assign a b c :: rest) env) Q E s :=
  wpAny_execs_cons (h _ fun _ x => x)
theorem execsG {M : Model} {A : Around} {E : Value → Shared → Prop} {s : Shared} {env : Env} {a : Expr} {o : Operator} {b : Expr} {c : Pos} {rest : List Stmt} {Q : Flow → Shared → Prop}
    (h : ∀ Q' : Flow → Shared → Prop, (∀ s', wpAny M A (execs rest env) Q E s' → Q' .next s') → wpAny M A (exec (.AugAssign a o b c) env) Q' E s) : wpAny M A (execs (.AugAssign a o b c :: rest) env) Q E s :=
  wpAny_execs_cons (h _ fun _ x => x)
theorem execsE {M : Model} {A : Around} {E : Value → Shared → Prop} {s : Shared} {env : Env} {b : Expr} {c : Pos} {rest : List Stmt} {Q : Flow → Shared → Prop}
    (h : ∀ Q' : Flow → Shared → Prop, (∀ s', wpAny M A (execs rest env) Q E s' → Q' .next s') → wpAny M A (exec (.Expr b c) env) Q' E s) : wpAny M A (execs (.Expr b c :: rest) env) Q E s :=
  wpAny_execs_cons (h _ fun _ x => x)
theorem thaw {R : Shared → Prop} {Q : Flow → Shared → Prop} (h : ∀ s', R s' → Q .next s') {s : Shared} (x : R s) : Q .next s := h s x
theorem mt4 {α : Type} {x0 x1 x2 x3 a : α} {l : List α} (h : a ∈ l) : a ∈ x0 :: x1 :: x2 :: x3 :: l := .tail _ (.tail _ (.tail _ (.tail _ h)))
theorem room0 {a c R : Nat} (h : a + c < R) : a < R := Nat.lt_of_le_of_lt (Nat.le_add_right a c) h
theorem room1 {a b c R : Nat} (h : a + c < R) (e : Nat.ble b c = true) : a + b < R := Nat.lt_of_le_of_lt (Nat.add_le_add_left (Nat.le_of_ble_eq_true e) a) h
theorem room2 {a k b c R : Nat} (h : a + c < R) (e : Nat.ble (k + b) c = true) : a + k + b < R := Nat.add_assoc a k b ▸ room1 h e
inductive Ex3 {α β γ : Type} (P : α → β → γ → Prop) : Prop
  | intro (a : α) (b : β) (c : γ) (h : P a b c) : Ex3 P
inductive Ex6 {α β γ δ ε ζ : Type} (P : α → β → γ → δ → ε → ζ → Prop) : Prop
  | intro (a : α) (b : β) (c : γ) (d : δ) (e : ε) (f : ζ) (h : P a b c d e f) : Ex6 P
inductive An4 (A B C D : Prop) : Prop
  | intro (a : A) (b : B) (c : C) (d : D) : An4 A B C D
theorem execsI {M : Model} {A : Around} {E : Value → Shared → Prop} {s : Shared} {env : Env} {a : Expr} {b d : List Stmt} {c : Pos} {rest : List Stmt} {Q : Flow → Shared → Prop}
    (h : ∀ Q' : Flow → Shared → Prop, (∀ f s', (match f with | .next => wpAny M A (execs rest env) Q E s' | f => Q f s') → Q' f s') → wpAny M A (exec (.If a b d c) env) Q' E s) : wpAny M A (execs (.If a b d c :: rest) env) Q E s :=
  wpAny_execs_cons (h _ fun _ _ x => x)
theorem thawG {R : Flow → Shared → Prop} {Q : Flow → Shared → Prop} (h : ∀ f s', R f s' → Q f s') {f : Flow} {s : Shared} (x : R f s) : Q f s := h f s x
theorem pk1 {a b : Prop} (h : a ∧ b) : a := h.1
theorem pk2 {x1 a b : Prop} (h : x1 ∧ a ∧ b) : a := h.2.1
theorem pk3 {x1 x2 a b : Prop} (h : x1 ∧ x2 ∧ a ∧ b) : a := h.2.2.1
theorem pk4 {x1 x2 x3 a b : Prop} (h : x1 ∧ x2 ∧ x3 ∧ a ∧ b) : a := h.2.2.2.1
theorem pk5 {x1 x2 x3 x4 a b : Prop} (h : x1 ∧ x2 ∧ x3 ∧ x4 ∧ a ∧ b) : a := h.2.2.2.2.1
theorem pk6 {x1 x2 x3 x4 x5 a b : Prop} (h : x1 ∧ x2 ∧ x3 ∧ x4 ∧ x5 ∧ a ∧ b) : a := h.2.2.2.2.2.1
theorem pk7 {x1 x2 x3 x4 x5 x6 a b : Prop} (h : x1 ∧ x2 ∧ x3 ∧ x4 ∧ x5 ∧ x6 ∧ a ∧ b) : a := h.2.2.2.2.2.2.1
theorem pk8 {x1 x2 x3 x4 x5 x6 x7 a b : Prop} (h : x1 ∧ x2 ∧ x3 ∧ x4 ∧ x5 ∧ x6 ∧ x7 ∧ a ∧ b) : a := h.2.2.2.2.2.2.2.1
theorem pk9 {x1 x2 x3 x4 x5 x6 x7 x8 a b : Prop} (h : x1 ∧ x2 ∧ x3 ∧ x4 ∧ x5 ∧ x6 ∧ x7 ∧ x8 ∧ a ∧ b) : a := h.2.2.2.2.2.2.2.2.1
theorem binF {M : Model} {A : Around} {E : Value → Shared → Prop} {s : Shared} {env : Env} {l : Expr} {op : Operator} {r : Expr} {pos : Pos} {Q : Value → Shared → Prop}
    (h : ∀ Q' : Value → Shared → Prop, (∀ v s', Q v s' → Q' v s') → wpAny M A (eval l env) (fun a s₁ => wpAny M A (eval r env) (fun b s₂ => wpAny M A (binaryOp op a b) Q' E s₂) E s₁) E s) : wpAny M A (eval (.BinOp l op r pos) env) Q E s :=
  wpAny_BinOp (h Q fun _ _ x => x)
theorem thawV {R Q : Value → Shared → Prop} (h : ∀ v s', R v s' → Q v s') {v : Value} {s : Shared} (x : R v s) : Q v s := h v s x
end
section
open PySem PySem.W PyProof.Rows
set_option maxRecDepth 100000
theorem hd.keys_eq : ∀ P, hd.keys = (hd.heap_39 P).map (·.1) := fun _ => by kernel_rfl
noncomputable def hd.H : Hook := kmHook hd.heap_39 hd.keys hd.keys_eq [37, 30]
noncomputable def hd.Xt : Shared → Bool := fun s => xlAt hd.view_39 [] s && recOk (RowW.records (OpenRow.toRowW PySem.Challenge.rw_wb0065_01.row)) s
def hd.Half (b : Bool) (w : World) : Prop := (openEnds treeTable hd.pw (w.withFollow "special-get-raises" b) 4350).map (fun s => (openSeen hd.view_39 [Str.ofString "EXACT_TOKEN_TYPES"] (importedModules hd.pw.main.body) hd.Xt true s, hd.H.obs s)) = some (openGood hd.view_39 [Str.ofString "EXACT_TOKEN_TYPES"], hd.H.val (w.withFollow "special-get-raises" b))
set_option maxHeartbeats 8000000 in
theorem hd.half_f (w : World) : hd.Half false w := by
  unfold hd.Half openEnds fencedOpening topFrom
  rw [PySem.W.Fast.te14364793385576792824, PySem.W.Fast.te10274390034422433532, PySem.W.Fast.te14082659384304107361, PySem.W.Fast.te4187177175401517315, PySem.W.Fast.te14289696077712309145]
  kernel_rfl
set_option maxHeartbeats 8000000 in
theorem hd.half_t (w : World) : hd.Half true w := by
  unfold hd.Half openEnds fencedOpening topFrom
  rw [PySem.W.Fast.te14364793385576792824, PySem.W.Fast.te10274390034422433532, PySem.W.Fast.te14082659384304107361, PySem.W.Fast.te4187177175401517315, PySem.W.Fast.te14289696077712309145]
  kernel_rfl
theorem hd.left : LeftO hd.pw hd.view_39 [Str.ofString "EXACT_TOKEN_TYPES"] hd.Xt hd.H.obs hd.H.val 4350 := fun w => byRow2 (P := fun w => (openEnds treeTable hd.pw w 4350).map (fun s => (openSeen hd.view_39 [Str.ofString "EXACT_TOKEN_TYPES"] (importedModules hd.pw.main.body) hd.Xt true s, hd.H.obs s)) = some (openGood hd.view_39 [Str.ofString "EXACT_TOKEN_TYPES"], hd.H.val w)) "special-get-raises" hd.half_f hd.half_t w
theorem hd.looks : PySem.Challenge.rw_wb0065_01.wellSaid = true := by kernel_rfl
def hd.d : DefRec := match hd.fd 75 with
  | some (a, b, sc, p) => ⟨"law", a, b, sc, p⟩
  | none => ⟨"law", ⟨[], [], none, [], [], none, []⟩, [], default, ⟨0, 0, 0, 0⟩⟩
theorem hd.isD : defOf hd.view_39 PySem.Challenge.rw_wb0065_01.row.name = some (hd.d, []) := by kernel_rfl
theorem hd.theD : PySem.Challenge.rw_wb0065_01.row.prog.theDef PySem.Challenge.rw_wb0065_01.row.name = some (hd.d.params, hd.d.body, hd.d.scope) := by kernel_rfl
theorem hd.kwD : kwWritten? hd.d.params.kwonlyargs hd.d.params.kw_defaults = some [] := by kernel_rfl
set_option maxHeartbeats 8000000 in
theorem hd (walk : WalkO hd.view_39 [Str.ofString "EXACT_TOKEN_TYPES"] (XL hd.view_39 []) (kmHook hd.heap_39 hd.keys hd.keys_eq [37, 30]).says (OpenRow.toRowW PySem.Challenge.rw_wb0065_01.row) hd.d [] fun f vs => PySem.call f vs) : PySem.Challenge.rw_wb0065_01.Holds := by
  refine holds_law hd.looks fun said => ?_
  refine holds_open (q := hd.view_39) (loose := [Str.ofString "EXACT_TOKEN_TYPES"]) (Xt := hd.Xt) (XP := XL hd.view_39 []) (Yf := hd.H.obs) (Ya := hd.H.val) (YP := hd.H.says) (N := 4350) hd.left (Hook.of hd.H) (Hook.keeps hd.H) (fun s e => xl_of s (Bool.and_eq_true_iff.mp e).1) XL.keeps hd.isD hd.theD hd.kwD (fun s e => recFacts_of (Bool.and_eq_true_iff.mp e).2) (by kernel_rfl) said ?h1 ⟨rfl, rfl, rfl, rfl, rfl, ?h2⟩ ?hw walk
  case h1 => kernel_rfl
  case h2 => decide +kernel
  case hw => w_witness2
end
section
open PySem PySem.W
theorem p2pos (k : Nat) : (0 : Int) < 2 ^ k := kbt_pos k
theorem p2succ (k : Nat) : (2 : Int) ^ (k + 1) = 2 * 2 ^ k := by rw [Int.pow_succ]; omega
theorem p2add (j k : Nat) : (2 : Int) ^ (j + k) = 2 ^ j * 2 ^ k := Int.pow_add 2 j k
theorem p2le {j k : Nat} (h : j ≤ k) : (2 : Int) ^ j ≤ 2 ^ k := by
  obtain ⟨d, rfl⟩ := Nat.exists_eq_add_of_le h
  rw [p2add]
  have h1 := p2pos j
  have h2 : (1 : Int) ≤ 2 ^ d := p2pos d
  have := Int.mul_le_mul_of_nonneg_left h2 (Int.le_of_lt h1)
  omega
/-- size of a nonnegative int below a power -/
theorem bits_le {x : Int} {k : Nat} (h0 : 0 ≤ x) (h : x < 2 ^ k) : Builtin.Int.intBits x ≤ k := by
  rw [intBits_le_iff]
  have : ((x.natAbs : Nat) : Int) < ((2 ^ k : Nat) : Int) := by rw [kbt_cast]; omega
  exact Int.ofNat_lt.mp this
theorem lt_of_bits {x : Int} {k : Nat} (h0 : 0 ≤ x) (h : Builtin.Int.intBits x ≤ k) : x < 2 ^ k := by
  rw [intBits_le_iff] at h
  have : ((x.natAbs : Nat) : Int) < ((2 ^ k : Nat) : Int) := Int.ofNat_lt.mpr h
  rw [kbt_cast] at this; omega
/-- the bit length of b with 2^(n-1) ≤ b < 2^n -/
theorem bits_eq {b : Int} {n : Nat} (hn : 1 ≤ n) (h1 : (2 : Int) ^ (n - 1) ≤ b) (h2 : b < 2 ^ n) : Builtin.Int.intBits b = n := by
  have hb : 0 ≤ b := Int.le_trans (Int.le_of_lt (p2pos _)) h1
  have h3 := bits_le hb h2
  by_cases h : Builtin.Int.intBits b ≤ n - 1
  · have := lt_of_bits hb h; omega
  · omega
theorem bits_spec {b : Int} (hb : 0 < b) : 1 ≤ Builtin.Int.intBits b ∧ (2 : Int) ^ (Builtin.Int.intBits b - 1) ≤ b ∧ b < 2 ^ Builtin.Int.intBits b := by
  have h2 := lt_of_bits (Int.le_of_lt hb) (Nat.le_refl (Builtin.Int.intBits b))
  have h1 : 1 ≤ Builtin.Int.intBits b := by
    apply Classical.byContradiction
    intro h
    have : Builtin.Int.intBits b = 0 := by omega
    rw [this] at h2
    simp at h2; omega
  refine ⟨h1, ?_, h2⟩
  apply Classical.byContradiction
  intro h
  have := bits_le (Int.le_of_lt hb) (show b < 2 ^ (Builtin.Int.intBits b - 1) by omega)
  omega
theorem log2_of_bits {x : Int} (h : x ≠ 0) : x.natAbs.log2 + 1 = Builtin.Int.intBits x := by
  unfold Builtin.Int.intBits
  rw [if_neg (by simpa using h)]
/-- no _pylong where a has at most 4000 bits more than b -/
theorem noPylong_diff {x y : Int} {k : Nat} (hx : Builtin.Int.intBits x ≤ Builtin.Int.intBits y + k) (hk : k ≤ 4000) (hy : y ≠ 0) : Builtin.divisionGoesByPylong x y = false := by
  have ly := log2_of_bits hy
  have hyb : (y == 0) = false := by simpa using hy
  unfold Builtin.divisionGoesByPylong
  simp only [hyb, Bool.false_eq_true, if_false]
  by_cases hx0 : x = 0
  · subst hx0
    simp
  · have lx := log2_of_bits hx0
    have hxb : (x == 0) = false := by simpa using hx0
    simp only [hxb, Bool.false_eq_true, if_false, Bool.and_eq_false_iff, decide_eq_false_iff_not]
    right
    omega
theorem bitNot_eq (x : Int) : Builtin.bitNot x = -x - 1 := rfl
/-- an or of apart bits is a sum -/
theorem or_add {x y : Int} {k : Nat} (h0 : 0 ≤ y) (h1 : y < 2 ^ k) : Builtin.bitOr (x * 2 ^ k) y = x * 2 ^ k + y := by
  have hx := PyProof.Rows.bitXor_and (x * 2 ^ k) y
  unfold Builtin.bitXor at hx
  have ha : Builtin.bitAnd (x * 2 ^ k) y = 0 := by
    clear hx
    induction k generalizing y with
    | zero =>
      have : y = 0 := by simp at h1; omega
      subst this
      simp [Builtin.bitAnd]
      split <;> simp_all [Builtin.bitNot]
    | succ k ih =>
      rw [kbt_halves]
      have e1 : (x * 2 ^ (k + 1)) / 2 = x * 2 ^ k := by rw [p2succ, Int.mul_left_comm]; omega
      have e2 : (x * 2 ^ (k + 1)) % 2 = 0 := by rw [p2succ, Int.mul_left_comm]; omega
      rw [e1, e2, ih (by omega) (by rw [p2succ] at h1; omega)]
      simp
  omega
theorem mask_mod (x : Int) (k : Nat) : Builtin.bitAnd x (2 ^ k - 1) = x % 2 ^ k := kbt_mask x k
theorem shr_div (x : Int) (k : Nat) : x.fdiv (2 ^ k) = x / 2 ^ k := Int.fdiv_eq_ediv_of_nonneg _ (Int.le_of_lt (p2pos k))
theorem fdiv_pos {x y : Int} (h : 0 < y) : x.fdiv y = x / y := Int.fdiv_eq_ediv_of_nonneg _ (Int.le_of_lt h)
theorem fmod_pos {x y : Int} (h : 0 < y) : x.fmod y = x % y := Int.fmod_eq_emod_of_nonneg _ (Int.le_of_lt h)
theorem divmod_unique {a b q r : Int} (h : q * b + r = a) (h0 : 0 ≤ r) (h1 : r < b) : a / b = q ∧ a % b = r := by
  have hb : 0 < b := by omega
  refine (Int.ediv_emod_unique hb).mpr ⟨?_, h0, h1⟩
  rw [Int.mul_comm b q]; omega
def Pre2 (a b : Int) (n : Nat) : Prop := 1 ≤ n ∧ n ≤ 40000 ∧ 0 ≤ a ∧ (2:Int) ^ (n - 1) ≤ b ∧ b < 2 ^ n ∧ a < b * 2 ^ n
def Pre3 (a12 a3 b b1 b2 : Int) (n : Nat) : Prop := 1 ≤ n ∧ n ≤ 40000 ∧ b = b1 * 2 ^ n + b2 ∧ 0 ≤ b2 ∧ b2 < 2 ^ n ∧ (2:Int) ^ (n - 1) ≤ b1 ∧ b1 < 2 ^ n ∧ 0 ≤ a3 ∧ a3 < 2 ^ n ∧ 0 ≤ a12 ∧ a12 < b
theorem Pre2.bpos {a b : Int} {n : Nat} (h : Pre2 a b n) : 0 < b := Int.lt_of_lt_of_le (p2pos _) h.2.2.2.1
theorem Pre2.abits {a b : Int} {n : Nat} (h : Pre2 a b n) : Builtin.Int.intBits a ≤ n + n := by
  obtain ⟨h1, h2, h3, h4, h5, h6⟩ := h
  refine bits_le h3 ?_
  rw [p2add]
  have := Int.mul_le_mul_of_nonneg_right (Int.le_of_lt h5) (Int.le_of_lt (p2pos n))
  omega
theorem Pre2.bbits {a b : Int} {n : Nat} (h : Pre2 a b n) : Builtin.Int.intBits b = n := bits_eq h.1 h.2.2.2.1 h.2.2.2.2.1
/-- padding by one bit -/
theorem Pre2.pad {a b : Int} {n : Nat} (h : Pre2 a b n) (hn : n + 1 ≤ 40000) : Pre2 (a * 2) (b * 2) (n + 1) := by
  obtain ⟨h1, h2, h3, h4, h5, h6⟩ := h
  refine ⟨by omega, hn, by omega, ?_, ?_, ?_⟩
  · have : n + 1 - 1 = (n - 1) + 1 := by omega
    rw [this, p2succ]; omega
  · rw [p2succ]; omega
  · rw [p2succ]
    have e : b * 2 * (2 * 2 ^ n) = 4 * (b * 2 ^ n) := by grind
    rw [e]
    have h7 : 0 < b * 2 ^ n := by omega
    omega
/-- the first division by a half -/
theorem Pre2.first {a b : Int} {h : Nat} (hp : Pre2 a b (h + h)) (hh : 1 ≤ h) : Pre3 (a / 2 ^ (h + h)) (a / 2 ^ h % 2 ^ h) b (b / 2 ^ h) (b % 2 ^ h) h := by
  obtain ⟨h1, h2, h3, h4, h5, h6⟩ := hp
  have hk := p2pos h
  have hkk := p2pos (h + h)
  refine ⟨hh, by omega, ?_, Int.emod_nonneg _ (by omega), Int.emod_lt_of_pos _ hk, ?_, ?_, Int.emod_nonneg _ (by omega), Int.emod_lt_of_pos _ hk, Int.ediv_nonneg h3 (by omega), ?_⟩
  · have := Int.mul_ediv_add_emod b (2 ^ h); rw [Int.mul_comm] at this; omega
  · have e : h + h - 1 = (h - 1) + h := by omega
    rw [e, p2add] at h4
    exact Int.le_ediv_of_mul_le hk h4
  · rw [p2add] at h5
    exact Int.ediv_lt_of_lt_mul hk h5
  · exact Int.ediv_lt_of_lt_mul hkk h6
theorem chop (a : Int) (h : Nat) : a / 2 ^ (h + h) * 2 ^ h + a / 2 ^ h % 2 ^ h = a / 2 ^ h := by
  rw [p2add, ← Int.ediv_ediv_of_nonneg (Int.le_of_lt (p2pos h))]
  have := Int.mul_ediv_add_emod (a / 2 ^ h) (2 ^ h); rw [Int.mul_comm] at this; exact this
/-- the second one -/
theorem Pre2.second {a b : Int} {h : Nat} (hp : Pre2 a b (h + h)) (hh : 1 ≤ h) : Pre3 (a / 2 ^ h % b) (a % 2 ^ h) b (b / 2 ^ h) (b % 2 ^ h) h := by
  have f := hp.first hh
  obtain ⟨f1, f2, f3, f4, f5, f6, f7, f8, f9, f10, f11⟩ := f
  have hb := hp.bpos
  have hk := p2pos h
  exact ⟨f1, f2, f3, f4, f5, f6, f7, Int.emod_nonneg _ (by omega), Int.emod_lt_of_pos _ hk, Int.emod_nonneg _ (by omega), Int.emod_lt_of_pos _ hb⟩
/-- both quotients together -/
theorem Pre2.joined {a b : Int} {h : Nat} (hp : Pre2 a b (h + h)) :
    (a / 2 ^ h / b) * 2 ^ h + (a / 2 ^ h % b * 2 ^ h + a % 2 ^ h) / b = a / b ∧ (a / 2 ^ h % b * 2 ^ h + a % 2 ^ h) % b = a % b ∧
    0 ≤ (a / 2 ^ h % b * 2 ^ h + a % 2 ^ h) / b ∧ (a / 2 ^ h % b * 2 ^ h + a % 2 ^ h) / b < 2 ^ h := by
  have hb := hp.bpos
  have hk := p2pos h
  have r0 := Int.emod_nonneg (a / 2 ^ h) (show b ≠ 0 by omega)
  have r1 := Int.emod_lt_of_pos (a / 2 ^ h) hb
  have m0 := Int.emod_nonneg a (show (2:Int) ^ h ≠ 0 by omega)
  have m1 := Int.emod_lt_of_pos a hk
  have e1 := Int.mul_ediv_add_emod a (2 ^ h)
  have e2 := Int.mul_ediv_add_emod (a / 2 ^ h) b
  generalize a / 2 ^ h % b = r at *
  generalize a % 2 ^ h = m at *
  generalize a / 2 ^ h = c at *
  generalize (2 : Int) ^ h = k at *
  have e3 := Int.mul_ediv_add_emod (r * k + m) b
  have s0 := Int.emod_nonneg (r * k + m) (show b ≠ 0 by omega)
  have s1 := Int.emod_lt_of_pos (r * k + m) hb
  generalize c / b = q1 at *
  have hlo : 0 ≤ (r * k + m) / b := Int.ediv_nonneg (by have := Int.mul_nonneg r0 (Int.le_of_lt hk); omega) (by omega)
  have hhi : (r * k + m) / b < k := by
    refine Int.ediv_lt_of_lt_mul hb ?_
    have : r * k ≤ (b - 1) * k := Int.mul_le_mul_of_nonneg_right (by omega) (by omega)
    rw [Int.sub_mul, Int.one_mul, Int.mul_comm b k] at this
    omega
  generalize (r * k + m) / b = q2 at *
  generalize (r * k + m) % b = r2 at *
  have key : (q1 * k + q2) * b + r2 = a := by grind
  obtain ⟨u1, u2⟩ := divmod_unique key s0 s1
  exact ⟨u1.symm, u2.symm, hlo, hhi⟩
/-- padding undone -/
theorem pad_undo {a b : Int} (hb : 0 < b) : (a * 2) / (b * 2) = a / b ∧ (a * 2) % (b * 2) / 2 = a % b := by
  have h1 : (a * 2) / (b * 2) = a / b := by rw [Int.mul_ediv_mul_of_pos_left _ _ (by omega)]
  refine ⟨h1, ?_⟩
  rw [Int.mul_comm a 2, Int.mul_comm b 2, Int.mul_emod_mul_of_pos _ _ (by omega)]
  omega
/-- the quotient of three halves by two: the guess and what is put right -/
theorem Pre3.big {a12 a3 b b1 b2 : Int} {n : Nat} (hp : Pre3 a12 a3 b b1 b2 n) (he : a12 / 2 ^ n = b1) :
    ((2:Int) ^ n - 1) * b + ((a12 - b1 * 2 ^ n + b1) * 2 ^ n + a3 - (2 ^ n - 1) * b2) = a12 * 2 ^ n + a3 ∧ (a12 - b1 * 2 ^ n + b1) * 2 ^ n + a3 - (2 ^ n - 1) * b2 < b ∧ 0 ≤ a12 - b1 * 2 ^ n + b1 := by
  obtain ⟨h1, h2, h3, h4, h5, h6, h7, h8, h9, h10, h11⟩ := hp
  have hk := p2pos n
  have e := Int.mul_ediv_add_emod a12 (2 ^ n)
  have m0 := Int.emod_nonneg a12 (show (2:Int) ^ n ≠ 0 by omega)
  have m1 := Int.emod_lt_of_pos a12 hk
  have b0 := p2pos (n - 1)
  rw [he] at e
  generalize a12 % 2 ^ n = r at *
  generalize (2:Int) ^ n = k at *
  subst h3
  refine ⟨by grind, ?_, by rw [Int.mul_comm b1 k]; omega⟩
  have : a12 * k ≤ (b1 * k + b2 - 1) * k := Int.mul_le_mul_of_nonneg_right (by omega) (by omega)
  have e2 : (a12 - b1 * k + b1) * k + a3 - (k - 1) * b2 = a12 * k + a3 - (k - 1) * (b1 * k + b2) := by grind
  have e3 : (b1 * k + b2 - 1) * k = (k - 1) * (b1 * k + b2) + (b1 * k + b2) - k := by grind
  rw [e2]; omega
theorem Pre3.sub {a12 a3 b b1 b2 : Int} {n : Nat} (hp : Pre3 a12 a3 b b1 b2 n) (he : a12 / 2 ^ n ≠ b1) : Pre2 a12 b1 n := by
  obtain ⟨h1, h2, h3, h4, h5, h6, h7, h8, h9, h10, h11⟩ := hp
  have hk := p2pos n
  refine ⟨h1, h2, h10, h6, h7, ?_⟩
  have e := Int.mul_ediv_add_emod a12 (2 ^ n)
  have m0 := Int.emod_nonneg a12 (show (2:Int) ^ n ≠ 0 by omega)
  have m1 := Int.emod_lt_of_pos a12 hk
  have le : a12 / 2 ^ n ≤ b1 := by
    have : a12 / 2 ^ n < b1 + 1 := Int.ediv_lt_of_lt_mul hk (by rw [Int.add_mul, Int.one_mul]; omega)
    omega
  have lt : a12 / 2 ^ n + 1 ≤ b1 := by omega
  have := Int.mul_le_mul_of_nonneg_right lt (Int.le_of_lt hk)
  rw [Int.add_mul, Int.one_mul, Int.mul_comm (a12 / 2 ^ n)] at this
  omega
theorem Pre3.small {a12 a3 b b1 b2 : Int} {n : Nat} (hp : Pre3 a12 a3 b b1 b2 n) (he : a12 / 2 ^ n ≠ b1) :
    (a12 / b1) * b + (a12 % b1 * 2 ^ n + a3 - (a12 / b1) * b2) = a12 * 2 ^ n + a3 ∧ a12 % b1 * 2 ^ n + a3 - (a12 / b1) * b2 < b ∧ 0 ≤ a12 % b1 ∧ a12 % b1 < b1 ∧ 0 ≤ a12 / b1 ∧ a12 / b1 < 2 ^ n := by
  have h2 := hp.sub he
  obtain ⟨h1, h2', h3, h4, h5, h6, h7, h8, h9, h10, h11⟩ := hp
  have hb := h2.bpos
  have hk := p2pos n
  have e := Int.mul_ediv_add_emod a12 b1
  have m0 := Int.emod_nonneg a12 (show b1 ≠ 0 by omega)
  have m1 := Int.emod_lt_of_pos a12 hb
  have q0 : 0 ≤ a12 / b1 := Int.ediv_nonneg h10 (by omega)
  have q1 : a12 / b1 < 2 ^ n := Int.ediv_lt_of_lt_mul hb (by have := h2.2.2.2.2.2; rw [Int.mul_comm]; exact this)
  generalize a12 % b1 = r at *
  generalize a12 / b1 = q at *
  generalize (2:Int) ^ n = k at *
  subst h3
  refine ⟨by grind, ?_, m0, m1, q0, q1⟩
  have : r * k ≤ (b1 - 1) * k := Int.mul_le_mul_of_nonneg_right (by omega) (by omega)
  rw [Int.sub_mul, Int.one_mul] at this
  have := Int.mul_nonneg q0 h4
  omega
end
open PySem PySem.W PyProof.Rows PySem.Calls
theorem zs1 {x1 x2 x3 x4 x5 x6 x7 x8} (h : wpAny x1 x2 (binaryOp x3 x4 x5) x6 x7 x8) : wpAny x1 x2 (binaryOp x3 x4 x5) x6 x7 x8 := h
theorem zs2 {x1 x2 x3 x4 x5 x6 x7 x8} (h : wpAny x1 x2 (inplaceOp x3 x4 x5) x6 x7 x8) : wpAny x1 x2 (inplaceOp x3 x4 x5) x6 x7 x8 := h
theorem zs3 {x1 x2 x3 x4 x5 x6 x7} (h : wpAny x1 x2 (call (Value.ref x3) x4) x5 x6 x7) : wpAny x1 x2 (call (Value.ref x3) x4) x5 x6 x7 := h
theorem zs4 {x1 x2 x3 x4 x5 x6} (h : wpAny x1 x2 (call (Value.builtin "divmod") x3) x4 x5 x6) : wpAny x1 x2 (call (Value.builtin "divmod") x3) x4 x5 x6 := h
theorem zs5 {c a b : Prop} [Decidable c] (h : ite c a b) : ite c a b := h
theorem zs6 {x1 x2 x3 x4 x5 x6 x7 x8 x9 x10} (h : wpAny x1 x2 (exec (Stmt.While x3 x4 x5 x6) x7) x8 x9 x10) : wpAny x1 x2 (exec (Stmt.While x3 x4 x5 x6) x7) x8 x9 x10 := h
theorem zs7 {x1 x2 x3 x4 x5 x6 x7 x8 x9 x10 x11 x12 x13 x14 x15 x16} (h : wpAny x1 x2 (exec (Stmt.FunctionDef x3 x4 x5 x6 x7 x8 x9 x10 x11 x12) x13) x14 x15 x16) : wpAny x1 x2 (exec (Stmt.FunctionDef x3 x4 x5 x6 x7 x8 x9 x10 x11 x12) x13) x14 x15 x16 := h
theorem zs8 {x1 x2 x3 x4 x5 x6 x7 x8} (h : wpAny x1 x2 (setItem x3 x4 x5) x6 x7 x8) : wpAny x1 x2 (setItem x3 x4 x5) x6 x7 x8 := h
theorem zs9 {x1 x2 x3 x4 x5 x6 x7 x8 x9} (h : wpAny x1 x2 (subscriptTail x3 x4 (Value.ref x5) x6) x7 x8 x9) : wpAny x1 x2 (subscriptTail x3 x4 (Value.ref x5) x6) x7 x8 x9 := h
theorem zs10 {x1 x2 x3 x4 x5 x6} (h : wpAny x1 x2 (truthy (Value.ref x3)) x4 x5 x6) : wpAny x1 x2 (truthy (Value.ref x3)) x4 x5 x6 := h
theorem zs11 {x1 x2 x3 x4 x5 x6} (h : wpAny x1 x2 (call (Value.builtin "len") x3) x4 x5 x6) : wpAny x1 x2 (call (Value.builtin "len") x3) x4 x5 x6 := h
theorem zs12 {x1 x2 x3 x4 x5 x6 x7 x8 x9 x10 x11} (h : wpAny x1 x2 (exec (Stmt.For x3 x4 x5 x6 x7) x8) x9 x10 x11) : wpAny x1 x2 (exec (Stmt.For x3 x4 x5 x6 x7) x8) x9 x10 x11 := h
theorem zs13 {x1 x2 x3 x4 x5 x6} (h : wpAny x1 x2 (pyIter (Value.ref x3)) x4 x5 x6) : wpAny x1 x2 (pyIter (Value.ref x3)) x4 x5 x6 := h
theorem zs14 {x1 x2 x3 x4 x5 x6} (h : wpAny x1 x2 (call (Value.builtin "list.append") x3) x4 x5 x6) : wpAny x1 x2 (call (Value.builtin "list.append") x3) x4 x5 x6 := h
theorem zs15 {x1 x2 x3 x4 x5 x6} (h : wpAny x1 x2 (call (Value.type "reversed") x3) x4 x5 x6) : wpAny x1 x2 (call (Value.type "reversed") x3) x4 x5 x6 := h
theorem zs16 {x1 x2 x3 x4 x5 x6} (h : wpAny x1 x2 (call (Value.builtin "list.reverse") x3) x4 x5 x6) : wpAny x1 x2 (call (Value.builtin "list.reverse") x3) x4 x5 x6 := h
theorem zs17 {x1 x2 x3 x4 x5 x6} (h : wpAny x1 x2 (newList x3) x4 x5 x6) : wpAny x1 x2 (newList x3) x4 x5 x6 := h
theorem zs18 {x1 x2 x3 x4 x5 x6 x7 x8 x9} (h : UnrPost x1 x2 x3 x4 x5 x6 x7 x8 x9) : UnrPost x1 x2 x3 x4 x5 x6 x7 x8 x9 := h
theorem zs19 {x1 x2 x3 x4 x5 x6 x7} (h : wpAny x1 x2 (unaryOp x3 x4) x5 x6 x7) : wpAny x1 x2 (unaryOp x3 x4) x5 x6 x7 := h
theorem zs20 {x1 x2 x3 x4 x5 x6 x7} (h : LeaveK x1 x2 x3 x4 x5 x6 x7) : LeaveK x1 x2 x3 x4 x5 x6 x7 := h
theorem zs21 {x1 x2 x3 x4 x5 x6} (h : wpAny x1 x2 (call (Value.type "enumerate") x3) x4 x5 x6) : wpAny x1 x2 (call (Value.type "enumerate") x3) x4 x5 x6 := h
theorem zs22 {x1 x2 x3 x4 x5 x6} (h : wpAny x1 x2 (pyIter x3) x4 x5 x6) : wpAny x1 x2 (pyIter x3) x4 x5 x6 := h
theorem zs23 {x1 x2 x3 x4 x5 x6 x7 x8} (h : wpAny x1 x2 (compareOp x3 (Value.ref x4) (Value.ref x5)) x6 x7 x8) : wpAny x1 x2 (compareOp x3 (Value.ref x4) (Value.ref x5)) x6 x7 x8 := h
theorem zs24 {x1 x2 x3 x4 x5 x6 x7 x8 x9} (h : wpAny x1 x2 (subscriptTail x3 x4 x5 x6) x7 x8 x9) : wpAny x1 x2 (subscriptTail x3 x4 x5 x6) x7 x8 x9 := h
theorem zs25 {x1 x2 x3 x4 x5 x6 x7} (h : wpAny x1 x2 (compareOp CmpOp.In x3 x4) x5 x6 x7) : wpAny x1 x2 (compareOp CmpOp.In x3 x4) x5 x6 x7 := h
theorem zs26 {x1 x2 x3 x4 x5 x6} (h : wpAny x1 x2 (call (Value.builtin "str.index") x3) x4 x5 x6) : wpAny x1 x2 (call (Value.builtin "str.index") x3) x4 x5 x6 := h
theorem zs27 {x1 x2 x3 x4 x5 x6 x7 x8} (h : wpAny x1 x2 (binaryOp x3 (Value.ref x4) (Value.ref x5)) x6 x7 x8) : wpAny x1 x2 (binaryOp x3 (Value.ref x4) (Value.ref x5)) x6 x7 x8 := h
theorem zs28 {α : Type} {p : α → Prop} (h : Exists p) : Exists p := h
theorem zs29 {x1 x2 x3 x4 x5 x6} (h : wpAny x1 x2 (call (Value.builtin "sum") x3) x4 x5 x6) : wpAny x1 x2 (call (Value.builtin "sum") x3) x4 x5 x6 := h
theorem zs30 {x1 x2 x3 x4 x5 x6 x7} (h : wpAny x1 x2 (binaryOp Operator.Mod x3 x4) x5 x6 x7) : wpAny x1 x2 (binaryOp Operator.Mod x3 x4) x5 x6 x7 := h
theorem zs31 {x1 x2 x3 x4 x5 x6 x7 x8 x9 x10 x11 x12 x13} (h : wpAny x1 x2 (subscriptTail (Expr.Name x3 x4) (Expr.Slice x5 x6 (some x7) x8) x9 x10) x11 x12 x13) : wpAny x1 x2 (subscriptTail (Expr.Name x3 x4) (Expr.Slice x5 x6 (some x7) x8) x9 x10) x11 x12 x13 := h
theorem zs32 {x1 x2 x3 x4 x5 x6 x7 x8 x9 x10} (h : wpAny x1 x2 (eval (Expr.ListComp x3 x4 x5 x6) x7) x8 x9 x10) : wpAny x1 x2 (eval (Expr.ListComp x3 x4 x5 x6) x7) x8 x9 x10 := h
theorem zs33 {x1 x2 x3 x4 x5 x6 x7 x8 x9 x10 x11 x12} (h : wpAny x1 x2 (exec (Stmt.Assign x3 (Expr.ListComp x4 x5 x6 x7) x8) x9) x10 x11 x12) : wpAny x1 x2 (exec (Stmt.Assign x3 (Expr.ListComp x4 x5 x6 x7) x8) x9) x10 x11 x12 := h
theorem zs34 {x1 x2 x3 x4 x5 x6 x7 x8} (h : wpAny x1 x2 (storeName x3 x4 x5) x6 x7 x8) : wpAny x1 x2 (storeName x3 x4 x5) x6 x7 x8 := h
theorem zs35 {x1 x2 x3 x4 x5 x6 x7 x8 x9 x10 x11 x12 x13 x14 x15 x16 x17} (h : RangeRest x1 x2 x3 x4 x5 x6 x7 x8 x9 x10 x11 x12 x13 x14 x15 x16 x17) : RangeRest x1 x2 x3 x4 x5 x6 x7 x8 x9 x10 x11 x12 x13 x14 x15 x16 x17 := h
theorem zs36 {x1 x2 x3 x4 x5 x6 x7} (h : wpAny x1 x2 (binaryOp Operator.Mult x3 x4) x5 x6 x7) : wpAny x1 x2 (binaryOp Operator.Mult x3 x4) x5 x6 x7 := h
theorem zs37 {x1 x2 x3 x4 x5 x6 x7} (h : UnrEnd x1 x2 x3 x4 x5 x6 x7) : UnrEnd x1 x2 x3 x4 x5 x6 x7 := h
theorem zs38 {x1 x2 x3 x4 x5 x6 x7 x8 x9 x10} (h : wpAny x1 x2 (assign (Expr.Tuple x3 x4 x5) x6 x7) x8 x9 x10) : wpAny x1 x2 (assign (Expr.Tuple x3 x4 x5) x6 x7) x8 x9 x10 := h
theorem zs39 {x1 x2 x3 x4 x5 x6 x7} (h : wpAny x1 x2 (assignInOrder x3 x4) x5 x6 x7) : wpAny x1 x2 (assignInOrder x3 x4) x5 x6 x7 := h
theorem zs40 {x1 x2 x3 x4 x5 x6} (h : wpAny x1 x2 (call (Value.builtin "str.join") x3) x4 x5 x6) : wpAny x1 x2 (call (Value.builtin "str.join") x3) x4 x5 x6 := h
theorem zs41 {x1 x2 x3 x4 x5 x6} (h : wpAny x1 x2 (call (Value.type "str") x3) x4 x5 x6) : wpAny x1 x2 (call (Value.type "str") x3) x4 x5 x6 := h
theorem zs42 {x1 x2 x3 x4 x5 x6 x7 x8 x9 x10} (h : wpAny x1 x2 (subscriptTail x3 x4 (Value.ref x5) (Value.int x6 x7)) x8 x9 x10) : wpAny x1 x2 (subscriptTail x3 x4 (Value.ref x5) (Value.int x6 x7)) x8 x9 x10 := h
theorem zs43 {x1 x2 x3 x4 x5 x6 x7 x8 x9 x10 x11 x12 x13} (h : wpAny x1 x2 (subscriptTail (Expr.Name x3 x4) (Expr.Slice x5 x6 x7 x8) x9 x10) x11 x12 x13) : wpAny x1 x2 (subscriptTail (Expr.Name x3 x4) (Expr.Slice x5 x6 x7 x8) x9 x10) x11 x12 x13 := h
local macro_rules | `(tactic| wtm_at "zb0") => `(tactic| ((fail_if_success any_goals with_reducible (first | refine zs3 ?_ | refine zs5 ?_))))
local macro_rules | `(tactic| wtm_at "zb4") => `(tactic| ((wtm_at "zb0"); (fail_if_success any_goals with_reducible (first | refine zs1 ?_ | refine zs2 ?_))))
local macro_rules | `(tactic| wtm_at "zb2") => `(tactic| ((wtm_at "zb0"); (fail_if_success any_goals with_reducible refine zs20 ?_)))
local macro_rules | `(tactic| wtm_at "zb1") => `(tactic| ((wtm_at "zb2"); (fail_if_success any_goals with_reducible (first | refine zs21 ?_ | refine zs22 ?_ | refine zs28 ?_ | refine zs29 ?_ | refine zs30 ?_ | refine zs31 ?_ | refine zs32 ?_ | refine zs33 ?_))))
local macro_rules | `(tactic| wtm_at "zbL") => `(tactic| ((wtm_at "zb1"); (fail_if_success any_goals with_reducible (first | refine zs12 ?_ | refine zs14 ?_ | refine zs40 ?_ | refine zs41 ?_))))
local macro_rules | `(tactic| wtm_at "z34") => `(tactic| ((fail_if_success any_goals with_reducible refine zs34 ?_)))
local macro_rules | `(tactic| wtm_at "zw1") => `(tactic| (first | (k_unfold; (try dsimp only)) | walk1 | wtm_at "zthaw" | (dsimp only; walk1)))
local macro_rules | `(tactic| wtm_at "zw2") => `(tactic| (first | walk1 | wtm_at "zthaw" | (dsimp only; walk1)))
local macro_rules | `(tactic| wtm_at "zw3") => `(tactic| (first | walk1 | (dsimp only; walk1)))
local macro_rules | `(tactic| wtm_at "zw4") => `(tactic| (first | (k_unfold; (try dsimp only)) | walk1 | (dsimp only; walk1)))
local macro_rules | `(tactic| wtm_at "zmk") => `(tactic| repeat (first | exact mm0 | exact mm1 | exact mm2 | exact mm3 | refine mt4 ?_))
local macro_rules | `(tactic| wtm_at "zmem") => `(tactic| first | with_reducible (wtm_at "zmk"; done) | (wtm_at "zmk"; done))
local macro_rules | `(tactic| wtm_at "zmm") => `(tactic| first | with_reducible assumption | with_reducible (wtm_at "zmk"; done) | (repeat (first | with_reducible assumption | with_reducible exact List.mem_cons_self | with_reducible refine List.mem_cons_of_mem _ ?_)))
local macro_rules | `(tactic| wtm_at "zsub") => `(tactic| (repeat (first | with_reducible exact ZSub.nil | ((with_reducible refine ZSub.cons ?_ ?_); focus wtm_at "zmem") | with_reducible exact ZSub.self | with_reducible refine ZSub.tl ?_)))
local macro_rules | `(tactic| wtm_at "zthaw") => `(tactic| with_reducible refine thaw (by with_reducible assumption) ?_)
local macro_rules | `(tactic| wtm_at "zfz") => `(tactic| (first | with_reducible refine execsA ?_ | with_reducible refine execsG ?_ | with_reducible refine execsE ?_); intro _ _)
local macro_rules | `(tactic| wtm_at "zpk") => `(tactic| with_reducible (first | exact pk1 (by with_reducible assumption) | exact pk2 (by with_reducible assumption) | exact pk3 (by with_reducible assumption) | exact pk4 (by with_reducible assumption) | exact pk5 (by with_reducible assumption) | exact pk6 (by with_reducible assumption) | exact pk7 (by with_reducible assumption) | exact pk8 (by with_reducible assumption) | exact pk9 (by with_reducible assumption)))
local macro_rules | `(tactic| omega) => `(tactic| first | exact room2 (by with_reducible assumption) (by decide) | exact room1 (by with_reducible assumption) (by decide) | exact room0 (by with_reducible assumption) | (refine Nat.ne_of_gt ?_; wtm_at "zpk") | (refine Nat.ne_of_lt ?_; wtm_at "zpk") | with_reducible exact Int.natCast_nonneg _)
local macro_rules | `(tactic| wtm_at "zy1") => `(tactic| (k_dflt (refine' nameX_L ?F ?v ?_ ?a ?b; (case a => rfl); (case b => rfl); (case F => with_reducible assumption); (case v => first | exact rfl | assumption))))
local macro_rules | `(tactic| wtm_at "zy6") => `(tactic| ((with_reducible show wpAny _ _ (eval (Expr.Name _ _) (envX _ _ _ _ _ _)) _ _ _); (rename News _ _ _ _ => uN); k_dflt (refine' nameX_C uN ?c ?m ?d ?_ ?a ?b; (case a => rfl); (case b => rfl); (case c => rfl); (case m => wtm_at "zmm"); (case d => with_reducible assumption))))
local macro_rules | `(tactic| wtm_at "zy7") => `(tactic| ((with_reducible show wpAny _ _ (callWith _ (Value.builtin "list.append") _ _ _) _ _ _); refine callWith_method1 ?_))
local macro_rules | `(tactic| wtm_at "zy8") => `(tactic| repeat ((wtm_at "zbL"); (fail_if_success any_goals with_reducible refine zs42 ?_); (wtm_at "zw1")))
local macro_rules | `(tactic| wtm_at "zy9") => `(tactic| repeat ((wtm_at "z34"); (wtm_at "zbL"); (fail_if_success any_goals with_reducible refine zs42 ?_); (wtm_at "zw1")))
section
local macro_rules | `(tactic| walk_at "none here") => `(tactic| fail)
open PySem PySem.W PyProof.Rows PySem.Calls
abbrev tup2 (u v : Value) : Obj := { cls := .type "tuple", data := .seq [u, v].toArray }
def CallsPair (w : World) (f : Addr) (vs : List Value) (dep : Nat) (x y : Int) : Prop :=
  ∀ (p : Program) (loose : List Str) (mean : ExcName → Option Value) (mg mb : Str → Option Value) (dp un : Nat) (gd : Option (List Code)) (cn : Str) (cs : Scope) (a : Addr) (ccd : Value) (cl : List (Str × Addr)) (outer : List Env) (A₀ : Around) (base h₀ : Heap) (L : Addr) (m : Str → Option Value) (news : List (Addr × Obj)) (s : Shared)
    (Q E : Value → Shared → Prop),
    Below A₀ base outer h₀ → Fr h₀ L s.heap m → (hd.heap_39 w.params).In h₀ → News h₀ L s.heap news → Top p loose mean mg mb h₀ → cs.kind = .function → dp + dep < recursionLimit → un + 8 * dep < cLine →
    (∀ q t1 t2 h' tk', Fr h₀ L h' m → News h₀ L h' ((q, tup2 (.int x t1) (.int y t2)) :: news) → (∀ p ∈ news, p.1 < q) → Q (.ref q) { s with heap := h', toks := tk' }) →
    wpAny (model PySem.Challenge.rw_wb0065_01.row.prog w) (ktrTop dp un gd cn cs L a ccd cl outer) (call (.ref f) vs) Q E s
theorem sz_one {k : Nat} (h : k ≤ 40001) : (Builtin.Int.intBits 1 : Int) + (k : Int) ≤ 2 ^ 27 := by
  have : Builtin.Int.intBits 1 = 1 := by decide +kernel
  rw [this]; omega
theorem sz_of {x : Int} {j k : Nat} (hj : Builtin.Int.intBits x ≤ j) (h : j + k ≤ 1000000) : (Builtin.Int.intBits x : Int) + (k : Int) ≤ 2 ^ 27 := by omega
theorem q1_bits {a b : Int} {h : Nat} (hp : Pre2 a b (h + h)) : Builtin.Int.intBits (a / 2 ^ h / b) ≤ 80000 := by
  have h1 := hp.abits
  have h2 := hp.2.1
  have h3 := hp.2.2.1
  have h4 := hp.bpos
  have h5 : a / 2 ^ h ≤ a := Int.ediv_le_self _ h3
  have h6 : 0 ≤ a / 2 ^ h := Int.ediv_nonneg h3 (Int.le_of_lt (p2pos h))
  have h7 : a / 2 ^ h / b ≤ a / 2 ^ h := Int.ediv_le_self _ h6
  have h8 : 0 ≤ a / 2 ^ h / b := Int.ediv_nonneg h6 (by omega)
  exact intBits_le_of_natAbs (y := a) (by omega) (by omega)
theorem news_skip {h₀ h : Heap} {L : Addr} {x y : Addr × Obj} {r : List (Addr × Obj)} (N : News h₀ L h (x :: y :: r)) : News h₀ L h (x :: r) :=
  fun p hp => N p (by rcases List.mem_cons.mp hp with hp | hp; exact hp ▸ .head _; exact .tail _ (.tail _ hp))
theorem sz_lit {x : Int} {j : Nat} (hj : Builtin.Int.intBits x ≤ j) (h : j ≤ 1000000) : (Builtin.Int.intBits x : Int) + 1 ≤ 2 ^ 27 := by omega
theorem CallsPair.use {w : World} {f : Addr} {vs : List Value} {dep : Nat} {x y : Int} {A : Around} {p : Program} {loose : List Str} {mean : ExcName → Option Value} {mg mb : Str → Option Value} {dp un : Nat} {gd : Option (List Code)} {cn : Str} {cs : Scope} {a : Addr} {ccd : Value} {cl : List (Str × Addr)} {outer : List Env} {A₀ : Around} {base h₀ : Heap} {L : Addr} {m : Str → Option Value} {news : List (Addr × Obj)} {s : Shared}
    {Q E : Value → Shared → Prop} (C : CallsPair w f vs dep x y) (hA : A = ktrTop dp un gd cn cs L a ccd cl outer) (B : Below A₀ base outer h₀) (F : Fr h₀ L s.heap m) (X : (hd.heap_39 w.params).In h₀) (N : News h₀ L s.heap news) (T : Top p loose mean mg mb h₀) (hk : cs.kind = .function)
    (h1 : dp + dep < recursionLimit) (h2 : un + 8 * dep < cLine)
    (h : ∀ q t1 t2 h' tk', Fr h₀ L h' m → News h₀ L h' ((q, tup2 (.int x t1) (.int y t2)) :: news) → (∀ p ∈ news, p.1 < q) → Q (.ref q) { s with heap := h', toks := tk' }) :
    wpAny (model PySem.Challenge.rw_wb0065_01.row.prog w) A (call (.ref f) vs) Q E s := by
  subst hA
  exact C p loose mean mg mb dp un gd cn cs a ccd cl outer A₀ base h₀ L m news s Q E B F X N T hk h1 h2 h
section
variable {prog : Program} {w : World} {A : Around} {E : Value → Shared → Prop} {s : Shared} {a b n : Int} {t u : Tok} {Q : Value → Shared → Prop}
theorem op_shr (r : Int) (hn : 0 ≤ n) (hr : a.fdiv (2 ^ n.toNat) = r) (h : ∀ t tk, Q (.int r t) { s with toks := tk }) : wpAny (model prog w) A (binaryOp .RShift (.int a t) (.int n u)) Q E s := by
  with_reducible exact rshift_int hn (by rw [hr]; exact h _ _)
theorem op_ishr (r : Int) (hn : 0 ≤ n) (hr : a.fdiv (2 ^ n.toNat) = r) (h : ∀ t tk, Q (.int r t) { s with toks := tk }) : wpAny (model prog w) A (inplaceOp .RShift (.int a t) (.int n u)) Q E s := by
  with_reducible exact irshift_int hn (by rw [hr]; exact h _ _)
theorem op_shl (r : Int) (hn : 0 ≤ n) (hsz : (Builtin.Int.intBits a : Int) + n ≤ 2 ^ 27) (hr : a * 2 ^ n.toNat = r) (h : ∀ t tk, Q (.int r t) { s with toks := tk }) : wpAny (model prog w) A (binaryOp .LShift (.int a t) (.int n u)) Q E s := by
  with_reducible exact lshift_int hn hsz (by rw [hr]; exact h _ _)
theorem op_ishl (r : Int) (hn : 0 ≤ n) (hsz : (Builtin.Int.intBits a : Int) + n ≤ 2 ^ 27) (hr : a * 2 ^ n.toNat = r) (h : ∀ t tk, Q (.int r t) { s with toks := tk }) : wpAny (model prog w) A (inplaceOp .LShift (.int a t) (.int n u)) Q E s := by
  with_reducible exact ilshift_int hn hsz (by rw [hr]; exact h _ _)
theorem op_and (r : Int) (hr : Builtin.bitAnd a b = r) (h : ∀ t tk, Q (.int r t) { s with toks := tk }) : wpAny (model prog w) A (binaryOp .BitAnd (.int a t) (.int b u)) Q E s := by
  with_reducible exact and_int (by rw [hr]; exact h _ _)
theorem op_or (r : Int) (hr : Builtin.bitOr a b = r) (h : ∀ t tk, Q (.int r t) { s with toks := tk }) : wpAny (model prog w) A (binaryOp .BitOr (.int a t) (.int b u)) Q E s := by
  with_reducible exact or_int (by rw [hr]; exact h _ _)
theorem op_add (r : Int) (hr : a + b = r) (h : ∀ t tk, Q (.int r t) { s with toks := tk }) : wpAny (model prog w) A (binaryOp .Add (.int a t) (.int b u)) Q E s := by
  with_reducible exact PyProof.Rows.add_int (by rw [hr]; exact h _ _)
theorem op_iadd (r : Int) (hr : a + b = r) (h : ∀ t tk, Q (.int r t) { s with toks := tk }) : wpAny (model prog w) A (inplaceOp .Add (.int a t) (.int b u)) Q E s := by
  with_reducible exact PyProof.Rows.iadd_int (by rw [hr]; exact h _ _)
theorem op_sub (r : Int) (hr : a - b = r) (h : ∀ t tk, Q (.int r t) { s with toks := tk }) : wpAny (model prog w) A (binaryOp .Sub (.int a t) (.int b u)) Q E s := by
  with_reducible exact PyProof.Rows.sub_int (by rw [hr]; exact h _ _)
theorem op_isub (r : Int) (hr : a - b = r) (h : ∀ t tk, Q (.int r t) { s with toks := tk }) : wpAny (model prog w) A (inplaceOp .Sub (.int a t) (.int b u)) Q E s := by
  with_reducible exact PyProof.Rows.isub_int (by rw [hr]; exact h _ _)
theorem op_mul (r : Int) (hm : IntMulOk a b) (hr : a * b = r) (h : ∀ t tk, Q (.int r t) { s with toks := tk }) : wpAny (model prog w) A (binaryOp .Mult (.int a t) (.int b u)) Q E s := by
  with_reducible exact PyProof.Rows.mul_int (by rw [hr]; exact h _ _) hm
end
local macro_rules | `(tactic| ktr_unf) => `(tactic| repeat ((wtm_at "zb4"); (fail_if_success any_goals with_reducible refine zs4 ?_); (wtm_at "zw3")))
set_option maxRecDepth 100000 in
set_option maxHeartbeats 8000000 in
theorem step2 (w : World) (d : Nat) (IH : ∀ d', d = d' + 1 → ∀ (a12 a3 b b1 b2 : Int) (n : Nat) (t1 t2 t3 t4 t5 t6 : Tok), Pre3 a12 a3 b b1 b2 n → n ≤ 4000 * 2 ^ d' → CallsPair w 28 [.int a12 t1, .int a3 t2, .int b t3, .int b1 t4, .int b2 t5, .int (n : Int) t6] (2 * d' + 2) ((a12 * 2 ^ n + a3) / b) ((a12 * 2 ^ n + a3) % b))
    (a b : Int) (n : Nat) (ta tb tn : Tok) (hp : Pre2 a b n) (hn : n ≤ 4000 * 2 ^ d) : CallsPair w 21 [.int a ta, .int b tb, .int (n : Int) tn] (2 * d + 1) (a / b) (a % b) := by
  unfold CallsPair
  k_fill
  intro p loose mean mg mb dp un gd cn cs ca ccd cl outer A₀ base h₀ L m news s Q E B F X N T hk hd' hu hret
  refine wpAny_call ?_
  k_dflt (refine' code_def (binds := [(Str.ofString "a", .int a ta), (Str.ofString "b", .int b tb), (Str.ofString "n", .int (n : Int) tn)]) ?k1 ?k2 ?k3 ?k4 ?k5 ?kA ?kF ?kK ?k6 ?k7 ?k8 ?k9 ?kB ?_ ?c2 ?c3 ?c4 ?c5; (case kA => exact rfl); (case kF => exact rfl); (case kK => exact hk); (case k1 => exact B); (case k2 => exact F); (case k3 => exact X); (case k4 => exact N); (case k5 => exact T); (case k6 => k_is); (case k7 => k_is); (case k8 => show dp < recursionLimit; omega); (case k9 => exact BindsTo.of_eq rfl); (case c5 => decide); (case kB => exact locs rfl); (case c2 => exact rfl); (case c3 => exact rfl); (case c4 => exact rfl); intro g L' h' FG F' N' B' X' T')
  try dsimp only
  with_reducible refine wpAny_noRaise ?_
  clear B F X N T
  ktr_unf
  with_reducible refine op_sub _ rfl (fun t tk => ?_)
  ktr_unf
  have hbp := hp.bpos
  by_cases hc : (Builtin.Int.intBits a : Int) - n ≤ 4000
  · with_reducible refine ite_pos (decide_eq_true hc) ?_
    ktr_unf
    with_reducible refine divmod_N F' N' (by omega) ?_ (Or.inl (noPylong_diff (k := 4000) (by rw [hp.bbits]; omega) (by omega) (by omega)))
    intro h2 F2 N2
    rw [fdiv_pos hbp, fmod_pos hbp] at N2
    ktr_unf
    with_reducible refine leaveK_ F2 N2 ?_
    intro kF kN
    exact hret _ _ _ _ _ kF kN (fun p hp => Heap.lt_size (N' p hp).1)
  · with_reducible refine ite_neg (by simpa using hc) ?_
    have hab := hp.abits
    refine frz fun Gz fz => ?_
    obtain ⟨hn1, hn4, ha0, hb1, hb2, hab2⟩ := id hp
    refine fz ?_
    clear fz Gz
    ktr_unf
    rcases Nat.mod_two_eq_zero_or_one n with hn2 | hn2
    · obtain ⟨h, rfl⟩ : ∃ h, n = h + h := ⟨n / 2, by omega⟩
      have hd0 : d ≠ 0 := by
        intro q
        subst q
        omega
      obtain ⟨d', rfl⟩ : ∃ d', d = d' + 1 := ⟨d - 1, by omega⟩
      have hh : 1 ≤ h := by omega
      have hhd : h ≤ 4000 * 2 ^ d' := by rw [Nat.pow_succ] at hn; omega
      with_reducible refine op_and 0 (by rw [PyProof.Rows.bitAnd_m1]; omega) (fun t tk => ?_)
      ktr_unf
      with_reducible refine ite_neg (by decide) ?_
      have hq := hp
      ktr_unf
      with_reducible refine op_shr ((h : Nat) : Int) (by omega) (by rw [show (1:Int).toNat = 1 from rfl, Int.fdiv_eq_ediv_of_nonneg _ (by decide)]; omega) (fun t tk => ?_)
      ktr_unf
      with_reducible refine op_shl ((2:Int) ^ (h)) (by omega) (sz_one (by omega)) (by rw [Int.toNat_natCast, Int.one_mul]) (fun t tk => ?_)
      ktr_unf
      with_reducible refine op_sub ((2:Int) ^ (h) - 1) rfl (fun t tk => ?_)
      ktr_unf
      with_reducible refine op_shr (b / 2 ^ (h)) (by omega) (by rw [Int.toNat_natCast, shr_div]) (fun t tk => ?_)
      ktr_unf
      with_reducible refine op_and (b % 2 ^ (h)) (mask_mod _ _) (fun t tk => ?_)
      ktr_unf
      with_reducible refine op_shr (a / 2 ^ (h + h)) (by omega) (by rw [Int.toNat_natCast, shr_div]) (fun t tk => ?_)
      ktr_unf
      with_reducible refine op_shr (a / 2 ^ (h)) (by omega) (by rw [Int.toNat_natCast, shr_div]) (fun t tk => ?_)
      ktr_unf
      with_reducible refine op_and (a / 2 ^ (h) % 2 ^ (h)) (mask_mod _ _) (fun t tk => ?_)
      ktr_unf
      rename Fr _ _ _ _ => F9
      rename News _ _ _ _ => N9
      with_reducible refine' CallsPair.use (IH d' rfl _ _ _ _ _ _ _ _ _ _ _ _ (hq.first hh) hhd) ?hA B' F9 X' N9 T' ?hk ?h1 ?h2 ?_
      case hA => exact rfl
      case hk => exact rfl
      case h1 => (show dp + 1 + _ < recursionLimit; omega)
      case h2 => (show un + 3 + 8 * _ < cLine; omega)
      rw [chop]
      clear F9 N9
      intro q1 t1 t2 h1 tk1 F' N' l1
      ktr_unf
      with_reducible refine op_and (a % 2 ^ (h)) (mask_mod _ _) (fun t tk => ?_)
      ktr_unf
      rename Fr _ _ _ _ => F9
      rename News _ _ _ _ => N9
      with_reducible refine' CallsPair.use (IH d' rfl _ _ _ _ _ _ _ _ _ _ _ _ (hq.second hh) hhd) ?hA B' F9 X' N9 T' ?hk ?h1 ?h2 ?_
      case hA => exact rfl
      case hk => exact rfl
      case h1 => (show dp + 1 + _ < recursionLimit; omega)
      case h2 => (show un + 3 + 8 * _ < cLine; omega)
      clear F9 N9
      intro q2 t3 t4 h2 tk2 F' N' l2
      ktr_unf
      with_reducible refine ite_neg (by decide) ?_
      ktr_unf
      refine frz fun Gz fz => ?_
      obtain ⟨j1, j2, j3, j4⟩ := hq.joined
      refine fz ?_
      clear fz Gz
      with_reducible refine op_shl (a / 2 ^ (h) / (b) * 2 ^ (h)) (by omega) (sz_of (q1_bits hq) (by omega)) (by rw [Int.toNat_natCast]) (fun t tk => ?_)
      ktr_unf
      with_reducible refine op_or (a / b) (by rw [or_add j3 j4, j1]) (fun t tk => ?_)
      ktr_unf
      rename Fr _ _ _ _ => F9
      rename News _ _ _ _ => N9
      rw [j2] at N9
      with_reducible refine leaveK_ F9 N9 ?_
      intro kF kN
      with_reducible refine hret _ _ _ _ _ kF (news_skip (news_skip (news_skip kN))) ?_
      rename _ ∧ _ ∧ _ ∧ AllLt _ _ => l9
      exact ktn_ltOf l9.2.2.2
    · obtain ⟨h, rfl⟩ : ∃ h, n = h + h + 1 := ⟨n / 2, by omega⟩
      have hd0 : d ≠ 0 := by
        intro q
        subst q
        omega
      obtain ⟨d', rfl⟩ : ∃ d', d = d' + 1 := ⟨d - 1, by omega⟩
      have hh : 1 ≤ h + 1 := by omega
      have hhd : h + 1 ≤ 4000 * 2 ^ d' := by rw [Nat.pow_succ] at hn; omega
      have hq : Pre2 (a * 2) (b * 2) (h + 1 + (h + 1)) := by
        have := hp.pad (by omega)
        rw [show h + 1 + (h + 1) = h + h + 1 + 1 by omega]
        exact this
      with_reducible refine op_and 1 (by rw [PyProof.Rows.bitAnd_m1]; omega) (fun t tk => ?_)
      ktr_unf
      with_reducible refine ite_pos (by decide) ?_
      ktr_unf
      with_reducible refine op_ishl (a * 2) (by decide) (sz_lit hab (by omega)) rfl (fun t tk => ?_)
      ktr_unf
      with_reducible refine op_ishl (b * 2) (by decide) (sz_lit (Nat.le_of_eq hp.bbits) (by omega)) rfl (fun t tk => ?_)
      ktr_unf
      with_reducible refine op_iadd (((h + 1 + (h + 1)) : Nat) : Int) (by omega) (fun t tk => ?_)
      ktr_unf
      with_reducible refine op_shr (((h + 1) : Nat) : Int) (by omega) (by rw [show (1:Int).toNat = 1 from rfl, Int.fdiv_eq_ediv_of_nonneg _ (by decide)]; omega) (fun t tk => ?_)
      ktr_unf
      with_reducible refine op_shl ((2:Int) ^ ((h + 1))) (by omega) (sz_one (by omega)) (by rw [Int.toNat_natCast, Int.one_mul]) (fun t tk => ?_)
      ktr_unf
      with_reducible refine op_sub ((2:Int) ^ ((h + 1)) - 1) rfl (fun t tk => ?_)
      ktr_unf
      with_reducible refine op_shr ((b * 2) / 2 ^ ((h + 1))) (by omega) (by rw [Int.toNat_natCast, shr_div]) (fun t tk => ?_)
      ktr_unf
      with_reducible refine op_and ((b * 2) % 2 ^ ((h + 1))) (mask_mod _ _) (fun t tk => ?_)
      ktr_unf
      with_reducible refine op_shr ((a * 2) / 2 ^ ((h + 1) + (h + 1))) (by omega) (by rw [Int.toNat_natCast, shr_div]) (fun t tk => ?_)
      ktr_unf
      with_reducible refine op_shr ((a * 2) / 2 ^ ((h + 1))) (by omega) (by rw [Int.toNat_natCast, shr_div]) (fun t tk => ?_)
      ktr_unf
      with_reducible refine op_and ((a * 2) / 2 ^ ((h + 1)) % 2 ^ ((h + 1))) (mask_mod _ _) (fun t tk => ?_)
      ktr_unf
      rename Fr _ _ _ _ => F9
      rename News _ _ _ _ => N9
      with_reducible refine' CallsPair.use (IH d' rfl _ _ _ _ _ _ _ _ _ _ _ _ (hq.first hh) hhd) ?hA B' F9 X' N9 T' ?hk ?h1 ?h2 ?_
      case hA => exact rfl
      case hk => exact rfl
      case h1 => (show dp + 1 + _ < recursionLimit; omega)
      case h2 => (show un + 3 + 8 * _ < cLine; omega)
      rw [chop]
      clear F9 N9
      intro q1 t1 t2 h1 tk1 F' N' l1
      ktr_unf
      with_reducible refine op_and ((a * 2) % 2 ^ ((h + 1))) (mask_mod _ _) (fun t tk => ?_)
      ktr_unf
      rename Fr _ _ _ _ => F9
      rename News _ _ _ _ => N9
      with_reducible refine' CallsPair.use (IH d' rfl _ _ _ _ _ _ _ _ _ _ _ _ (hq.second hh) hhd) ?hA B' F9 X' N9 T' ?hk ?h1 ?h2 ?_
      case hA => exact rfl
      case hk => exact rfl
      case h1 => (show dp + 1 + _ < recursionLimit; omega)
      case h2 => (show un + 3 + 8 * _ < cLine; omega)
      clear F9 N9
      intro q2 t3 t4 h2 tk2 F' N' l2
      ktr_unf
      with_reducible refine ite_pos (by decide) ?_
      ktr_unf
      with_reducible refine op_ishr (((a * 2) / 2 ^ ((h + 1)) % ((b * 2)) * 2 ^ ((h + 1)) + (a * 2) % 2 ^ ((h + 1))) % ((b * 2)) / 2) (by omega) (by rw [show (1:Int).toNat = 1 from rfl, shr_div, show (2:Int) ^ 1 = 2 from by decide]) (fun t tk => ?_)
      ktr_unf
      refine frz fun Gz fz => ?_
      obtain ⟨j1, j2, j3, j4⟩ := hq.joined
      refine fz ?_
      clear fz Gz
      with_reducible refine op_shl ((a * 2) / 2 ^ ((h + 1)) / ((b * 2)) * 2 ^ ((h + 1))) (by omega) (sz_of (q1_bits hq) (by omega)) (by rw [Int.toNat_natCast]) (fun t tk => ?_)
      ktr_unf
      with_reducible refine op_or ((a * 2) / (b * 2)) (by rw [or_add j3 j4, j1]) (fun t tk => ?_)
      ktr_unf
      rename Fr _ _ _ _ => F9
      rename News _ _ _ _ => N9
      rw [j2, (pad_undo hbp).1, (pad_undo (a := a) hbp).2] at N9
      with_reducible refine leaveK_ F9 N9 ?_
      intro kF kN
      with_reducible refine hret _ _ _ _ _ kF (news_skip (news_skip (news_skip kN))) ?_
      rename _ ∧ _ ∧ _ ∧ AllLt _ _ => l9
      exact ktn_ltOf l9.2.2.2
end
section
open PySem PySem.W PyProof.Rows PySem.Calls
local macro_rules | `(tactic| ktr_unf) => `(tactic| repeat ((wtm_at "zb4"); (fail_if_success any_goals with_reducible (first | refine zs4 ?_ | refine zs6 ?_)); (wtm_at "zw3")))
theorem r_bits {x y z : Int} {n k : Nat} (h0 : 0 ≤ x) (h1 : x < y) (hy : y ≤ z * 2 ^ n) (hz : z < 2 ^ k) : Builtin.Int.intBits x ≤ k + n := by
  refine bits_le h0 ?_
  rw [p2add]
  have := Int.mul_le_mul_of_nonneg_right (Int.le_of_lt hz) (Int.le_of_lt (p2pos n))
  omega
def Mid3 (g : Heap) (L' : Addr) (m0 : Str → Option Value) (news : List (Addr × Obj)) (s : Shared) (T b b2 : Int) (n : Nat) (a3 : Int) (f : Flow) (s' : Shared) : Prop :=
  f = .next ∧ (Ex6 fun (q : Int) (r : Int) (tq : Tok) (tr : Tok) (h' : Heap) (tk : Nat) => ∃ (news' : List (Addr × Obj)), An4 (s' = { s with heap := h', toks := tk }) (Fr g L' h' (fun y => if y = Str.ofString "r" then some (.int r tr) else if y = Str.ofString "q" then some (.int q tq) else m0 y)) (News g L' h' news') (An4 ((∀ p ∈ news, p ∈ news')) (0 ≤ q) (q < 2 ^ n) (An4 (0 ≤ r) (r < 2 ^ (2 * n + 2)) (q * b + (r * 2 ^ n + a3 - q * b2) = T) (r * 2 ^ n + a3 - q * b2 < b))))
theorem Fr.to {g h : Heap} {L : Addr} {m m' : Str → Option Value} (F : Fr g L h m) (e : ∀ y, m y = m' y) : Fr g L h m' := by
  rwa [show m' = m from funext fun y => (e y).symm]
theorem Mid3.intro {g : Heap} {L' : Addr} {m0 : Str → Option Value} {news : List (Addr × Obj)} {s : Shared} {T b b2 : Int} {n : Nat} {a3 : Int} {q r : Int} {tq tr : Tok} {h' : Heap} {tk : Nat} {news' : List (Addr × Obj)}
    (F : Fr g L' h' (fun y => if y = Str.ofString "r" then some (.int r tr) else if y = Str.ofString "q" then some (.int q tq) else m0 y)) (N : News g L' h' news') (hs : ∀ p ∈ news, p ∈ news')
    (c1 : 0 ≤ q) (c2 : q < 2 ^ n) (c3 : 0 ≤ r) (c4 : r < 2 ^ (2 * n + 2)) (c5 : q * b + (r * 2 ^ n + a3 - q * b2) = T) (c6 : r * 2 ^ n + a3 - q * b2 < b) : Mid3 g L' m0 news s T b b2 n a3 .next { s with heap := h', toks := tk } :=
  ⟨rfl, q, r, tq, tr, h', tk, news', rfl, F, N, hs, c1, c2, c3, c4, c5, c6⟩
theorem Fr.over {g h : Heap} {L : Addr} {m : Str → Option Value} {x z : Str} {u u' v : Option Value} (F : Fr g L h (fun y => if y = x then u else if y = x then u' else if y = z then v else m y)) : Fr g L h (fun y => if y = x then u else if y = z then v else m y) := by
  refine Fr.to F fun y => ?_
  by_cases h1 : y = x
  · simp only [if_pos h1]
  · simp only [if_neg h1]
theorem Fr.over2 {g h : Heap} {L : Addr} {m : Str → Option Value} {x z : Str} {u u' v v' : Option Value} (F : Fr g L h (fun y => if y = x then u else if y = z then v else if y = x then u' else if y = z then v' else m y)) : Fr g L h (fun y => if y = x then u else if y = z then v else m y) := by
  refine Fr.to F fun y => ?_
  by_cases h1 : y = x
  · simp only [if_pos h1]
  · by_cases h2 : y = z
    · simp only [if_neg h1, if_pos h2]
    · simp only [if_neg h1, if_neg h2]
theorem news_mono {h₀ h : Heap} {L : Addr} {x : Addr × Obj} {r r' : List (Addr × Obj)} (N : News h₀ L h (x :: r')) (hs : ∀ p ∈ r, p ∈ r') : News h₀ L h (x :: r) :=
  fun p hp => N p (by rcases List.mem_cons.mp hp with hp | hp; exact hp ▸ .head _; exact .tail _ (hs p hp))
theorem Fr.swap {g h : Heap} {L : Addr} {m : Str → Option Value} {x z : Str} {u v : Option Value} (hxz : x ≠ z) (F : Fr g L h (fun y => if y = x then u else if y = z then v else m y)) : Fr g L h (fun y => if y = z then v else if y = x then u else m y) := by
  refine Fr.to F fun y => ?_
  by_cases h1 : y = x
  · subst h1; simp [hxz]
  · by_cases h2 : y = z
    · subst h2; simp [h1]
    · simp only [if_neg h1, if_neg h2]
theorem big_bits {a12 a3 b b1 b2 : Int} {n : Nat} (hp : Pre3 a12 a3 b b1 b2 n) (he : a12 / 2 ^ n = b1) : a12 - b1 * 2 ^ n + b1 < 2 ^ (2 * n + 2) := by
  refine frz fun Gz fz => ?_
  obtain ⟨p1, p2, p3, p4, p5, p6, p7, p8, p9, p10, p11⟩ := hp
  refine fz ?_
  clear fz Gz
  have hk := p2pos n
  have e := Int.mul_ediv_add_emod a12 (2 ^ n)
  have m1 := Int.emod_lt_of_pos a12 hk
  rw [he, Int.mul_comm] at e
  have h1 : (2:Int) ^ (n + 1) ≤ 2 ^ (2 * n + 2) := p2le (by omega)
  rw [p2succ] at h1
  omega
set_option maxRecDepth 100000 in
set_option maxHeartbeats 8000000 in
theorem step3 (w : World) (d : Nat) (IH : ∀ (a b : Int) (n : Nat) (ta tb tn : Tok), Pre2 a b n → n ≤ 4000 * 2 ^ d → CallsPair w 21 [.int a ta, .int b tb, .int (n : Int) tn] (2 * d + 1) (a / b) (a % b))
    (a12 a3 b b1 b2 : Int) (n : Nat) (t1 t2 t3 t4 t5 t6 : Tok) (hp : Pre3 a12 a3 b b1 b2 n) (hn : n ≤ 4000 * 2 ^ d) :
    CallsPair w 28 [.int a12 t1, .int a3 t2, .int b t3, .int b1 t4, .int b2 t5, .int (n : Int) t6] (2 * d + 2) ((a12 * 2 ^ n + a3) / b) ((a12 * 2 ^ n + a3) % b) := by
  unfold CallsPair
  k_fill
  intro p loose mean mg mb dp un gd cn cs ca ccd cl outer A₀ base h₀ L m news s Q E B F X N T hk hd' hu hret
  refine wpAny_call ?_
  k_dflt (refine' code_def (binds := [(Str.ofString "a12", .int a12 t1), (Str.ofString "a3", .int a3 t2), (Str.ofString "b", .int b t3), (Str.ofString "b1", .int b1 t4), (Str.ofString "b2", .int b2 t5), (Str.ofString "n", .int (n : Int) t6)]) ?k1 ?k2 ?k3 ?k4 ?k5 ?kA ?kF ?kK ?k6 ?k7 ?k8 ?k9 ?kB ?_ ?c2 ?c3 ?c4 ?c5; (case kA => exact rfl); (case kF => exact rfl); (case kK => exact hk); (case k1 => exact B); (case k2 => exact F); (case k3 => exact X); (case k4 => exact N); (case k5 => exact T); (case k6 => k_is); (case k7 => k_is); (case k8 => show dp < recursionLimit; omega); (case k9 => exact BindsTo.of_eq rfl); (case c5 => decide); (case kB => exact locs rfl); (case c2 => exact rfl); (case c3 => exact rfl); (case c4 => exact rfl); intro g L' h' FG F' N' B' X' T')
  try dsimp only
  with_reducible refine wpAny_noRaise ?_
  clear B F X N T
  refine frz fun Gz fz => ?_
  obtain ⟨p1, p2, p3, p4, p5, p6, p7, p8, p9, p10, p11⟩ := id hp
  refine fz ?_
  clear fz Gz
  iterate 2 walk1
  with_reducible refine wpAny_mono (Q := Mid3 g L' (fun y => List.lookup y [(Str.ofString "a12", Value.int a12 t1), (Str.ofString "a3", Value.int a3 t2), (Str.ofString "b", Value.int b t3), (Str.ofString "b1", Value.int b1 t4), (Str.ofString "b2", Value.int b2 t5), (Str.ofString "n", Value.int (n : Int) t6)].reverse) news s (a12 * 2 ^ n + a3) b b2 n a3) ?_ ?_ (fun _ _ x => x)
  · ktr_unf
    with_reducible refine op_shr (a12 / 2 ^ n) (by omega) (by rw [Int.toNat_natCast, shr_div]) (fun t tk => ?_)
    ktr_unf
    by_cases he : a12 / 2 ^ n = b1
    · with_reducible refine ite_pos (by simpa using he) ?_
      obtain ⟨e1, e2, e3⟩ := hp.big he
      ktr_unf
      with_reducible refine op_shl ((2:Int) ^ n) (by omega) (sz_one (by omega)) (by rw [Int.toNat_natCast, Int.one_mul]) (fun t tk => ?_)
      ktr_unf
      with_reducible refine op_sub ((2:Int) ^ n - 1) rfl (fun t tk => ?_)
      ktr_unf
      with_reducible refine op_shl (b1 * (2:Int) ^ n) (by omega) (sz_of (bits_le (by have := p2pos (n - 1); omega) p7) (by omega)) (by rw [Int.toNat_natCast]) (fun t tk => ?_)
      ktr_unf
      with_reducible refine op_sub _ rfl (fun t tk => ?_)
      ktr_unf
      with_reducible refine op_add _ rfl (fun t tk => ?_)
      ktr_unf
      rename Fr _ _ _ _ => F9
      rename News _ _ _ _ => N9
      have pb := p2pos n
      exact Mid3.intro (Fr.swap (by decide) F9) N9 (fun _ hp => List.mem_cons_of_mem _ hp) (by omega) (by omega) e3 (big_bits hp he) e1 e2
    · with_reducible refine ite_neg (by simpa using he) ?_
      refine frz fun Gz fz => ?_
      obtain ⟨e1, e2, e3, e4, e5, e6⟩ := hp.small he
      refine fz ?_
      clear fz Gz
      ktr_unf
      with_reducible refine' CallsPair.use (IH _ _ _ _ _ _ (hp.sub he) hn) ?hA B' F' X' N' T' ?hk ?h1 ?h2 ?_
      case hA => exact rfl
      case hk => exact rfl
      case h1 => (show dp + 1 + _ < recursionLimit; omega)
      case h2 => (show un + 3 + 8 * _ < cLine; omega)
      clear F' N'
      intro q1 t1 t2 h1 tk1 F' N' l1
      ktr_unf
      rename Fr _ _ _ _ => F9
      rename News _ _ _ _ => N9
      have pb := p2le (show n ≤ 2 * n + 2 by omega)
      exact Mid3.intro F9 N9 (fun _ hp => List.mem_cons_of_mem _ hp) e5 e6 e3 (by omega) e1 e2
  · intro f s' z9
    refine frz fun Gz fz => ?_
    obtain ⟨rfl, q, r, tq, tr, h9, tk9, news9, rfl, F9, N9, hsub, q0, q1, r0, r1, e1, e2⟩ := z9
    refine fz ?_
    clear fz Gz
    clear F' N'
    dsimp only
    ktr_unf
    with_reducible refine op_shl (r * (2:Int) ^ n) (by omega) (sz_of (bits_le r0 r1) (by omega)) (by rw [Int.toNat_natCast]) (fun t tk => ?_)
    ktr_unf
    with_reducible refine op_or (r * (2:Int) ^ n + a3) (or_add p8 p9) (fun t tk => ?_)
    ktr_unf
    with_reducible refine op_mul (q * b2) (IntMulOk.of_le (bits_le q0 q1) (bits_le p4 p5) (by omega)) rfl (fun t tk => ?_)
    ktr_unf
    with_reducible refine op_sub _ rfl (fun t tk => ?_)
    ktr_unf
    rename Fr _ _ _ _ => F9
    rename News _ _ _ _ => N9
    have F10 := Fr.over F9
    have hb : 0 < b := by omega
    clear F9
    with_reducible refine While_inv (fun k m₁ news₁ => Ex3 fun (q : Int) (r : Int) (tq : Tok) => ∃ (tr : Tok), An4 (news₁ = news9) (m₁ = (fun y => if y = Str.ofString "r" then some (.int r tr) else if y = Str.ofString "q" then some (.int q tq) else List.lookup y [(Str.ofString "a12", Value.int a12 t1), (Str.ofString "a3", Value.int a3 t2), (Str.ofString "b", Value.int b t3), (Str.ofString "b1", Value.int b1 t4), (Str.ofString "b2", Value.int b2 t5), (Str.ofString "n", Value.int (n : Int) t6)].reverse)) (q * b + r = a12 * 2 ^ n + a3) (r < b ∧ k = (-r).toNat)) F10 N9 ⟨_, _, _, _, rfl, rfl, e1, e2, rfl⟩ ?_ PassesOwn.never
    clear F10 N9
    intro k m₁ news₁ h₁ tk₁ F9 N9 z9
    refine frz fun Gz fz => ?_
    obtain ⟨q', r', tq', tr', rfl, rfl, i1, i2, rfl⟩ := z9
    refine fz ?_
    clear fz Gz
    ktr_unf
    by_cases hr : r' < 0
    · with_reducible refine ite_pos (decide_eq_true hr) ?_
      ktr_unf
      with_reducible refine op_isub _ rfl (fun t tk => ?_)
      ktr_unf
      with_reducible refine op_iadd _ rfl (fun t tk => ?_)
      ktr_unf
      rename Fr _ _ _ _ => F9
      rename News _ _ _ _ => N9
      exact WhileStep.intro (Fr.over2 F9) N9 (show (-(r' + b)).toNat < (-r').toNat by omega) ⟨_, _, _, _, rfl, rfl, by grind, by omega, rfl⟩
    · with_reducible refine ite_neg (by simpa using hr) ?_
      ktr_unf
      rename Fr _ _ _ _ => F9
      rename News _ _ _ _ => N9
      obtain ⟨u1, u2⟩ := divmod_unique i1 (by omega) i2
      with_reducible refine leaveK_ F9 N9 ?_
      intro kF kN
      rename ∀ p ∈ news₁, _ => l9
      rw [u1, u2] at hret
      exact hret _ _ _ _ _ kF (news_mono kN hsub) (fun p hp => l9 p (hsub p hp))
/-- both divisions, by induction on how often n may be halved -/
theorem ct_div (w : World) (d : Nat) : (∀ (a b : Int) (n : Nat) (ta tb tn : Tok), Pre2 a b n → n ≤ 4000 * 2 ^ d → CallsPair w 21 [.int a ta, .int b tb, .int (n : Int) tn] (2 * d + 1) (a / b) (a % b)) := by
  induction d with
  | zero => exact fun a b n ta tb tn => step2 w 0 (fun d' h => absurd h (by omega)) a b n ta tb tn
  | succ d ih =>
    refine fun a b n ta tb tn => step2 w (d + 1) (fun d' h => ?_) a b n ta tb tn
    obtain rfl : d = d' := by omega
    exact fun a12 a3 b b1 b2 n t1 t2 t3 t4 t5 t6 => step3 w d ih a12 a3 b b1 b2 n t1 t2 t3 t4 t5 t6
theorem ct_2n1n (w : World) (a b : Int) (n : Nat) (ta tb tn : Tok) (hp : Pre2 a b n) : CallsPair w 21 [.int a ta, .int b tb, .int (n : Int) tn] 9 (a / b) (a % b) :=
  ct_div w 4 a b n ta tb tn hp (by have := hp.2.1; omega)
end
section
open PySem PySem.W
/-- the k lowest digits of x in base 2^n, lowest first -/
def digs (n : Nat) : Nat → Int → List Int
  | 0, _ => []
  | k + 1, x => x % 2 ^ n :: digs n k (x / 2 ^ n)
theorem digs_len (n : Nat) : ∀ (k : Nat) (x : Int), (digs n k x).length = k
  | 0, _ => rfl
  | k + 1, x => by rw [digs, List.length_cons, digs_len n k]
theorem div_div (x : Int) (j k : Nat) : x / 2 ^ j / 2 ^ k = x / 2 ^ (j + k) := by
  rw [p2add, Int.ediv_ediv_of_nonneg (Int.le_of_lt (p2pos j))]
theorem digs_add (n : Nat) : ∀ (j k : Nat) (x : Int), digs n (j + k) x = digs n j x ++ digs n k (x / 2 ^ (n * j))
  | 0, k, x => by simp [digs]
  | j + 1, k, x => by
    rw [show j + 1 + k = (j + k) + 1 by omega, digs, digs, digs_add n j k, div_div, List.cons_append, show n + n * j = n * (j + 1) by rw [Nat.mul_add]; omega]
theorem mod_mod (x : Int) (j k : Nat) : x % 2 ^ (j + k) % 2 ^ j = x % 2 ^ j := by
  rw [p2add]
  exact Int.emod_emod_of_dvd _ ⟨2 ^ k, rfl⟩
theorem mod_div (x : Int) (j k : Nat) : x % 2 ^ (j + k) / 2 ^ j = x / 2 ^ j % 2 ^ k := by
  have hj := p2pos j
  have hk := p2pos k
  have e1 := Int.mul_ediv_add_emod x (2 ^ j)
  have e2 := Int.mul_ediv_add_emod (x / 2 ^ j) (2 ^ k)
  have r0 := Int.emod_nonneg x (show (2:Int) ^ j ≠ 0 by omega)
  have r1 := Int.emod_lt_of_pos x hj
  have s0 := Int.emod_nonneg (x / 2 ^ j) (show (2:Int) ^ k ≠ 0 by omega)
  have s1 := Int.emod_lt_of_pos (x / 2 ^ j) hk
  have hm : x % 2 ^ (j + k) = x / 2 ^ j % 2 ^ k * 2 ^ j + x % 2 ^ j := by
    rw [p2add]
    generalize x / 2 ^ j % 2 ^ k = s at *
    generalize x % 2 ^ j = r at *
    generalize x / 2 ^ j / 2 ^ k = q at *
    generalize x / 2 ^ j = y at *
    generalize (2:Int) ^ j = J at *
    generalize (2:Int) ^ k = K at *
    have h0 : 0 ≤ s * J + r := by have := Int.mul_nonneg s0 (Int.le_of_lt hj); omega
    have h1 : s * J + r < J * K := by
      have : s * J ≤ (K - 1) * J := Int.mul_le_mul_of_nonneg_right (by omega) (by omega)
      rw [Int.sub_mul, Int.one_mul, Int.mul_comm K] at this; omega
    exact (divmod_unique (q := q) (b := J * K) (by grind) h0 h1).2
  rw [hm]
  exact (divmod_unique (b := 2 ^ j) rfl r0 r1).1
theorem digs_mod (n : Nat) : ∀ (j : Nat) (x : Int), digs n j (x % 2 ^ (n * j)) = digs n j x
  | 0, x => rfl
  | j + 1, x => by
    rw [digs, digs, show n * (j + 1) = n + n * j by rw [Nat.mul_add]; omega, mod_mod, mod_div, digs_mod n j]
/-- the number of a digit list, lowest first -/
def numOf (n : Nat) : List Int → Int
  | [] => 0
  | d :: r => d + numOf n r * 2 ^ n
theorem numOf_append (n : Nat) : ∀ (xs ys : List Int), numOf n (xs ++ ys) = numOf n ys * 2 ^ (n * xs.length) + numOf n xs
  | [], ys => by simp [numOf]
  | d :: r, ys => by
    rw [List.cons_append, numOf, numOf, numOf_append n r ys, List.length_cons, show n * (r.length + 1) = n * r.length + n by rw [Nat.mul_add]; omega, p2add]
    grind
theorem numOf_digs (n : Nat) : ∀ (k : Nat) (x : Int), 0 ≤ x → x < 2 ^ (n * k) → numOf n (digs n k x) = x
  | 0, x, h0, h1 => by simp at h1; simp [digs, numOf]; omega
  | k + 1, x, h0, h1 => by
    have hn := p2pos n
    have e := Int.mul_ediv_add_emod x (2 ^ n)
    rw [digs, numOf, numOf_digs n k (x / 2 ^ n) (Int.ediv_nonneg h0 (Int.le_of_lt hn)) (Int.ediv_lt_of_lt_mul hn (by rw [← p2add, show n * k + n = n * (k + 1) by rw [Nat.mul_add]; omega]; exact h1)), Int.mul_comm]
    omega
theorem digs_range (n : Nat) : ∀ (k : Nat) (x : Int), ∀ d ∈ digs n k x, 0 ≤ d ∧ d < 2 ^ n
  | 0, _, _, h => (nomatch h)
  | k + 1, x, d, h => by
    have hn := p2pos n
    rcases List.mem_cons.mp h with rfl | h
    · exact ⟨Int.emod_nonneg _ (by omega), Int.emod_lt_of_pos _ hn⟩
    · exact digs_range n k _ d h
/-- the lower half by a xor -/
theorem xor_low (x : Int) (s : Nat) : Builtin.bitXor x (x / 2 ^ s * 2 ^ s) = x % 2 ^ s := by
  have ha : ∀ (s : Nat) (x : Int), Builtin.bitAnd x (x / 2 ^ s * 2 ^ s) = x / 2 ^ s * 2 ^ s := by
    intro s
    induction s with
    | zero => intro x; simp [PyProof.Rows.bitAnd_self]
    | succ s ih =>
      intro x
      rw [kbt_halves]
      have e0 : x / 2 ^ (s + 1) = x / 2 / 2 ^ s := by
        rw [show s + 1 = 1 + s by omega, p2add, show (2:Int) ^ 1 = 2 by decide, Int.ediv_ediv_of_nonneg (by decide)]
      have e3 : x / 2 ^ (s + 1) * 2 ^ (s + 1) = 2 * (x / 2 / 2 ^ s * 2 ^ s) := by rw [e0, p2succ, Int.mul_left_comm]
      have e1 : (x / 2 ^ (s + 1) * 2 ^ (s + 1)) / 2 = x / 2 / 2 ^ s * 2 ^ s := by rw [e3]; omega
      have e2 : (x / 2 ^ (s + 1) * 2 ^ (s + 1)) % 2 = 0 := by rw [e3]; omega
      rw [e1, e2, ih (x / 2), e3]
      simp
  have h := ha s x
  have e := Int.mul_ediv_add_emod x (2 ^ s)
  rw [Int.mul_comm] at e
  rw [PyProof.Rows.bitXor_and, h]
  omega
/-- what the loop of _divmod_pos makes of the digits, highest first: the quotient's digits and the rest -/
def divs (n : Nat) (b : Int) : List Int → Int → List Int × Int
  | [], r => ([], r)
  | d :: ds, r => let p := divs n b ds ((r * 2 ^ n + d) % b); ((r * 2 ^ n + d) / b :: p.1, p.2)
theorem divs_app (n : Nat) (b : Int) : ∀ (xs ys : List Int) (r : Int), divs n b (xs ++ ys) r = ((divs n b xs r).1 ++ (divs n b ys (divs n b xs r).2).1, (divs n b ys (divs n b xs r).2).2)
  | [], ys, r => by simp [divs]
  | d :: ds, ys, r => by simp only [List.cons_append, divs, divs_app n b ds ys]
theorem divs_len (n : Nat) (b : Int) : ∀ (xs : List Int) (r : Int), (divs n b xs r).1.length = xs.length
  | [], r => rfl
  | d :: ds, r => by simp only [divs, List.length_cons, divs_len n b ds]
theorem divs_spec (n : Nat) {b : Int} (hb : 0 < b) : ∀ (xs : List Int) (r : Int), 0 ≤ r → r < b → (∀ d ∈ xs, 0 ≤ d ∧ d < 2 ^ n) →
    numOf n (divs n b xs r).1.reverse * b + (divs n b xs r).2 = r * 2 ^ (n * xs.length) + numOf n xs.reverse ∧ 0 ≤ (divs n b xs r).2 ∧ (divs n b xs r).2 < b ∧ ∀ d ∈ (divs n b xs r).1, 0 ≤ d ∧ d < 2 ^ n
  | [], r, h0, h1, _ => by simp [divs, numOf]; omega
  | d :: ds, r, h0, h1, hd => by
    have hn := p2pos n
    obtain ⟨d0, d1⟩ := hd d (.head _)
    have e := Int.mul_ediv_add_emod (r * 2 ^ n + d) b
    have m0 := Int.emod_nonneg (r * 2 ^ n + d) (show b ≠ 0 by omega)
    have m1 := Int.emod_lt_of_pos (r * 2 ^ n + d) hb
    obtain ⟨i1, i2, i3, i4⟩ := divs_spec n hb ds ((r * 2 ^ n + d) % b) m0 m1 fun x hx => hd x (.tail _ hx)
    have q0 : 0 ≤ (r * 2 ^ n + d) / b := Int.ediv_nonneg (by have := Int.mul_nonneg h0 (Int.le_of_lt hn); omega) (by omega)
    have q1 : (r * 2 ^ n + d) / b < 2 ^ n := by
      refine Int.ediv_lt_of_lt_mul hb ?_
      have : r * 2 ^ n ≤ (b - 1) * 2 ^ n := Int.mul_le_mul_of_nonneg_right (by omega) (by omega)
      rw [Int.sub_mul, Int.one_mul, Int.mul_comm b] at this; omega
    refine ⟨?_, i2, i3, fun x hx => ?_⟩
    · simp only [divs, List.reverse_cons, numOf_append, List.length_reverse, divs_len, List.length_cons]
      rw [show n * (ds.length + 1) = n * ds.length + n by rw [Nat.mul_add]; omega, p2add]
      simp only [numOf]
      generalize (divs n b ds ((r * 2 ^ n + d) % b)).2 = R at *
      generalize numOf n (divs n b ds ((r * 2 ^ n + d) % b)).1.reverse = Q at *
      generalize (r * 2 ^ n + d) / b = q at *
      generalize (r * 2 ^ n + d) % b = t at *
      generalize numOf n ds.reverse = D at *
      generalize (2:Int) ^ (n * ds.length) = P at *
      generalize (2:Int) ^ n = K at *
      grind
    · simp only [divs] at hx
      rcases List.mem_cons.mp hx with rfl | hx
      · exact ⟨q0, q1⟩
      · exact i4 x hx
/-- the number of digits is enough -/
theorem digits_fit {a : Int} {n : Nat} (hn : 1 ≤ n) (h0 : 0 ≤ a) : a < 2 ^ (n * ((Builtin.Int.intBits a + n - 1) / n)) := by
  refine Int.lt_of_lt_of_le (lt_of_bits h0 (Nat.le_refl _)) (p2le ?_)
  have e := Nat.div_add_mod (Builtin.Int.intBits a + n - 1) n
  have l := Nat.mod_lt (Builtin.Int.intBits a + n - 1) (show n > 0 by omega)
  omega
end
section
open PySem PySem.W
/-- ns with the stretch from l on in ys' place -/
def splice (ns : List Int) (l : Nat) (ys : List Int) : List Int := ns.take l ++ ys ++ ns.drop (l + ys.length)
theorem splice_len {ns : List Int} {l : Nat} {ys : List Int} (h : l + ys.length ≤ ns.length) : (splice ns l ys).length = ns.length := by
  simp only [splice, List.length_append, List.length_take, List.length_drop]; omega
theorem splice_one {ns : List Int} {l : Nat} {x : Int} (h : l < ns.length) : ns.set l x = splice ns l [x] := by
  simp only [splice, List.length_singleton]
  rw [List.set_eq_take_append_cons_drop, if_pos h, List.append_assoc]; rfl
theorem splice_two {ns : List Int} {l : Nat} {xs ys : List Int} (h : l + xs.length + ys.length ≤ ns.length) : splice (splice ns l xs) (l + xs.length) ys = splice ns l (xs ++ ys) := by
  have h1 : (ns.take l).length = l := by rw [List.length_take]; omega
  have h2 : (ns.take l ++ xs).length = l + xs.length := by rw [List.length_append, h1]
  simp only [splice]
  rw [List.take_left' h2, List.drop_append, List.drop_eq_nil_of_le (by rw [h2]; omega), h2, List.drop_drop, List.length_append]
  simp only [List.nil_append, List.append_assoc]
  rw [show l + xs.length + (l + xs.length + ys.length - (l + xs.length)) = l + (xs.length + ys.length) by omega]
theorem splice_all {ns ys : List Int} (h : ys.length = ns.length) : splice ns 0 ys = ys := by
  simp [splice, h]
theorem splice_digs {ns : List Int} {n l j k : Nat} {x : Int} (h : l + (j + k) ≤ ns.length) :
    splice (splice ns l (digs n j (x % 2 ^ (n * j)))) (l + j) (digs n k (x / 2 ^ (n * j))) = splice ns l (digs n (j + k) x) := by
  rw [digs_mod, digs_add]
  have e := splice_two (ns := ns) (l := l) (xs := digs n j x) (ys := digs n k (x / 2 ^ (n * j))) (by rw [digs_len, digs_len]; omega)
  rw [digs_len] at e
  exact e
/-- a half's numbers, all at once -/
theorem mids {l r k N dp un R C : Nat} (h1 : l < r) (h2 : r ≤ N) (h3 : r - l ≤ k) (h4 : N ≤ 20) (h5 : ¬r = l + 1) (h6 : dp + (k + 1) < R) (h7 : un + 8 * (k + 1) < C) :
    (l + r) / 2 - l ≤ 20 ∧ (((l + r) / 2 : Nat) : Int) - (l : Int) = (((l + r) / 2 - l : Nat) : Int) ∧ r - l ≤ 20 ∧ (l + r) / 2 - l < k ∧ l < (l + r) / 2 ∧ (l + r) / 2 ≤ N ∧ dp + 1 + ((l + r) / 2 - l + 1) < R ∧ un + 3 + 8 * ((l + r) / 2 - l + 1) < C ∧
    r - (l + r) / 2 < k ∧ (l + r) / 2 < r ∧ dp + 1 + (r - (l + r) / 2 + 1) < R ∧ un + 3 + 8 * (r - (l + r) / 2 + 1) < C ∧ r - (l + r) / 2 + ((l + r) / 2 - l) = r - l ∧ (l + r) / 2 - l + (r - (l + r) / 2) = r - l ∧ l + ((l + r) / 2 - l) = (l + r) / 2 ∧
    l + ((l + r) / 2 - l + (r - (l + r) / 2)) ≤ N ∧ (l + r) / 2 ≤ r ∧ l ≤ (l + r) / 2 := by
  obtain ⟨j, q, rfl, hj, hq, hm⟩ : ∃ j q, r = l + (j + q) ∧ 1 ≤ j ∧ 1 ≤ q ∧ (l + r) / 2 = l + j := by
    clear h2 h3 h4 h6 h7
    exact ⟨(l + r) / 2 - l, r - (l + r) / 2, by omega, by omega, by omega, by omega⟩
  rw [hm]
  clear hm h5 h1
  have e1 : l + j - l = j := Nat.add_sub_cancel_left _ _
  have e3 : l + (j + q) - l = j + q := Nat.add_sub_cancel_left _ _
  have e2 : l + (j + q) - (l + j) = q := by rw [← Nat.add_assoc]; exact Nat.add_sub_cancel_left _ _
  rw [e1, e2, e3]
  rw [e3] at h3
  clear e1 e2 e3
  have g : j + q ≤ 20 := by omega
  have gj : j < k := by omega
  have gq : q < k := by omega
  have g2 : l + j < l + (j + q) := by omega
  have g3 : l + (j + q) ≤ N := h2
  have g4 : l < l + j := by omega
  clear h2 h4
  have c1 : j + 1 ≤ k := gj
  have c2 : q + 1 ≤ k := gq
  have d : ∀ x, x + 1 ≤ k → dp + 1 + (x + 1) < R ∧ un + 3 + 8 * (x + 1) < C := by
    clear h3 g gj gq g2 g3 g4 c1 c2
    exact fun x hx => ⟨by omega, by omega⟩
  refine ⟨Nat.le_trans (Nat.le_add_right _ _) g, (by rw [Int.natCast_add, Int.add_comm]; exact Int.add_sub_cancel _ _), g, gj, g4, Nat.le_trans (Nat.le_of_lt g2) g3, (d j c1).1, (d j c1).2, gq, g2, (d q c2).1, (d q c2).2, Nat.add_comm _ _, rfl, rfl, g3, Nat.le_of_lt g2, Nat.le_of_lt g4⟩
end
section
open PySem PySem.W PyProof.Rows PySem.Calls
local macro_rules | `(tactic| omega) => `(tactic| with_reducible assumption)
local macro_rules | `(tactic| ktr_unf) => `(tactic| repeat ((wtm_at "zb4"); (fail_if_success any_goals with_reducible (first | refine zs7 ?_ | refine zs4 ?_ | refine zs6 ?_ | refine zs8 ?_)); (wtm_at "zw3")))
theorem ne_of_allLt {d e : Addr} : ∀ {l : List (Addr × Obj)}, AllLt d l → @LE.le Nat _ d e → ∀ p ∈ l, p.1 ≠ e
  | [], _, _, _, h => (nomatch h)
  | q :: r, h, hde, p, hp => by
    rcases List.mem_cons.mp hp with rfl | hp
    · exact Nat.ne_of_lt (Nat.lt_of_lt_of_le h.1 hde)
    · exact ne_of_allLt h.2 hde p hp
local macro_rules | `(tactic| walk_at "eval Name") => `(tactic| (kc_free; k_dflt (refine' nameX_F ?N ?c ?m ?d ?_ ?a ?b; (case a => rfl); (case b => rfl); (case c => rfl); (case N => with_reducible assumption); (case m => first | (with_reducible assumption) | (exact List.mem_cons_of_mem _ (by with_reducible assumption))); (case d => with_reducible assumption))))
local macro_rules | `(tactic| walk_at "callWith ref") => `(tactic| (k_dflt (refine' callWith_F ?k1 ?_; (case k1 => exact FnAt.of (by with_reducible assumption) (List.mem_cons_of_mem _ (by with_reducible assumption))))))
local macro_rules | `(tactic| walk_at "FnAt") => `(tactic| (k_dflt (exact FnAt.of (by with_reducible assumption) (List.mem_cons_of_mem _ (by with_reducible assumption)))))
local macro_rules | `(tactic| k_all) => `(tactic| exact ne_of_allLt (by with_reducible assumption) (by omega))
def TabOk (P : Addr) (line col : Nat) (qual : Str) (ps : Array Value) (c : Addr) (o : Obj) : Prop :=
  (ps = #[] ∧ c = P ∧ o = tabObj #[]) ∨ (ps = #[rawInt line, rawInt col, .ref c] ∧ ∃ vs t, o.data = .fields vs ∧ vs[1]? = some (.str qual t))
section
variable {M : Model} {A : Around} {E : Value → Shared → Prop} {s : Shared} {h₀ : Heap} {L a c P : Addr} {m mg mb : Str → Option Value} {cn : Str} {cs : Scope} {ccd : Value} {cl : List (Str × Addr)}
  {p : Program} {loose : List Str} {mean : ExcName → Option Value} {name qual qual' : Str} {params : Arguments} {body : List Stmt} {scope : Scope} {ps : Array Value} {pos : Pos} {firstLine : Nat} {clos : List (Str × Addr)} {rest : List (Addr × Obj)} {c0 : Addr} {o0 : Obj}
/-- a def within a def, made the first time or again -/
theorem nestTab {Q : Value → Shared → Prop} (hq : qual' = qual) (F : Fr h₀ L s.heap m) (N : News h₀ L s.heap ((P, tabObj ps) :: (c0, o0) :: rest)) (T : Top p loose mean mg mb h₀) (C : CodeHd h₀ c P) (hcd : ccd = .ref c)
    (ht : TabOk P pos.line pos.col qual ps c0 o0) (hr : ∀ q ∈ rest, q.1 ≠ P) (hcl : closureFor scope (envX cn cs L a ccd cl) = pure clos)
    (h : ∀ f c' oc ctv doc h' tk, Fr h₀ L h' m →
      News h₀ L h' ((f, fnMade name qual params body scope clos doc ((mg "__name__").getD .none) c' ctv) :: (P, tabObj #[rawInt pos.line, rawInt pos.col, .ref c']) :: (c', oc) :: rest) →
      (∃ vs t, oc.data = .fields vs ∧ vs[1]? = some (.str qual t)) → ((c' = c0 ∧ ps ≠ #[]) ∨ ((∀ q ∈ rest, q.1 < c') ∧ P < c')) → (∀ q ∈ (P, tabObj ps) :: (c', oc) :: rest, q.1 < f) → Q (.ref f) { s with heap := h', toks := tk }) :
    wpAny M A (makeFunction name qual' params (.stmts body) scope (envX cn cs L a ccd cl) [] [] [] pos firstLine) Q E s := by
  subst hq
  rcases ht with ⟨rfl, rfl, rfl⟩ | ⟨rfl, vs, t, hd, hv⟩
  · have N1 : News h₀ L s.heap ((c0, tabObj #[]) :: rest) := fun q hq => N q (by rcases List.mem_cons.mp hq with hq | hq; exact hq ▸ .head _; exact .tail _ (.tail _ hq))
    refine nest_K F N1 T C hcd (.head hr) trivial rfl hcl fun f c' oc vs t ctv doc h' tk F' N' d1 d2 l1 l2 => ?_
    simp only [Array.empty_append] at N'
    refine h f c' oc ctv doc h' tk F' (fun q hq => N' q ?_) ⟨vs, t, d1, d2⟩ (.inr ⟨fun q hq => l1 q (.tail _ hq), l1 (c0, tabObj #[]) (.head _)⟩) (fun q hq => ?_)
    · simp only [List.mem_cons] at hq ⊢
      rcases hq with hq | hq | hq | hq
      · exact .inl hq
      · exact .inr (.inr (.inl hq))
      · exact .inr (.inl hq)
      · exact .inr (.inr (.inr hq))
    · simp only [List.mem_cons] at hq
      rcases hq with rfl | rfl | hq
      · exact Nat.lt_trans (l1 (c0, tabObj #[]) (.head _)) l2
      · exact l2
      · exact Nat.lt_trans (l1 q (.tail _ hq)) l2
  · refine nestHit_K (c' := c0) F N T C hcd (.head _) (by simp [TriplesOk, rawInt]) (by simp [codeAmong, rawInt]) hcl fun f ctv doc h' tk F' N' l1 => ?_
    exact h f c0 o0 ctv doc h' tk F' N' ⟨vs, t, hd, hv⟩ (.inl ⟨rfl, by simp⟩) l1
end
section
variable {prog : Program} {w : World} {A : Around} {E : Value → Shared → Prop} {s : Shared} {h₀ : Heap} {L l : Addr} {m : Str → Option Value} {news : List (Addr × Obj)} {v : Value} {ep : Nat} {u : Tok} {k : Nat}
theorem rep_one (k : Nat) (v : Value) : List.foldl (fun x1 x2 => x1 ++ x2) (#[] : Array Value) (List.replicate k #[v]) = (List.replicate k v).toArray := by
  have : ∀ (k : Nat) (acc : Array Value), List.foldl (fun x1 x2 => x1 ++ x2) acc (List.replicate k #[v]) = acc ++ (List.replicate k v).toArray := by
    intro k
    induction k with
    | zero => intro acc; simp
    | succ k ih => intro acc; rw [List.replicate_succ, List.foldl_cons, ih, List.replicate_succ]; apply Array.toList_inj.mp; simp
  rw [this]; simp
theorem op_rep {Q : Value → Shared → Prop} (F : Fr h₀ L s.heap m) (N : News h₀ L s.heap news) (hm : (l, W.listOf #[v] ep) ∈ news) (hk : k ≤ 1000000)
    (h : ∀ q h', Fr h₀ L h' m → News h₀ L h' ((q, W.listOf (List.replicate k v).toArray 0) :: news) → (∀ p ∈ news, p.1 < q) → Q (.ref q) { s with heap := h' }) : wpAny (model prog w) A (binaryOp .Mult (.ref l) (.int (k : Int) u)) Q E s := by
  refine mul_list F N (N _ hm).1 (by omega) (by omega) (by simp; omega) fun h' F' N' => ?_
  have e : (if (#[v] : Array Value).isEmpty = true then 0 else (k : Int).toNat) = k := by simp
  rw [e, rep_one] at N'
  exact h _ h' F' N' fun p hp => Heap.lt_size (N p hp).1
theorem op_len {vs : List Value} {Q : Value → Shared → Prop} (N : News h₀ L s.heap news) (hm : (l, W.listOf vs.toArray ep) ∈ news) (hsz : vs.length ≤ 1000000) (h : ∀ t tk, Q (.int ((vs.length : Nat) : Int) t) { s with toks := tk }) : wpAny (model prog w) A (call (.builtin "len") [.ref l]) Q E s := by
  refine PyProof.Rows.len_list (PySem.IsL.isList (n := ep) (N _ hm).1) (by rw [List.size_toArray]; omega) ?_
  rw [List.size_toArray]
  exact h _ _
theorem ints_rep (k : Nat) (i : Int) (t : Tok) : IntsAre (List.replicate k (.int i t)) (List.replicate k i) := by
  induction k with
  | zero => exact .nil
  | succ k ih => exact .cons i t ih
theorem op_fdiv {a b : Int} {t : Tok} {Q : Value → Shared → Prop} (r : Int) (hb : b ≠ 0) (hp : Builtin.divisionGoesByPylong a b = false) (hr : a.fdiv b = r) (h : ∀ t tk, Q (.int r t) { s with toks := tk }) : wpAny (model prog w) A (binaryOp .FloorDiv (.int a t) (.int b u)) Q E s := by
  with_reducible exact floordiv_int hb (by rw [hr]; exact h _ _) (Or.inl hp)
theorem op_xor {a b : Int} {t : Tok} {Q : Value → Shared → Prop} (r : Int) (hr : Builtin.bitXor a b = r) (h : ∀ t tk, Q (.int r t) { s with toks := tk }) : wpAny (model prog w) A (binaryOp .BitXor (.int a t) (.int b u)) Q E s := by
  with_reducible exact xor_int (by rw [hr]; exact h _ _)
end
theorem small_bits {n : Nat} (h : n ≤ 40000) : Builtin.Int.intBits (n : Int) ≤ 64 := bits_le (by omega) (Int.lt_of_le_of_lt (show (n : Int) ≤ 40000 by omega) (by decide))
theorem up_bits {x : Int} {j k : Nat} (h0 : 0 ≤ x) (h1 : x < 2 ^ k) (hj : j ≤ 800000) (hk : k ≤ 800000) : (Builtin.Int.intBits (x / 2 ^ j) : Int) + (j : Int) ≤ 2 ^ 27 := by
  have h3 := bits_le h0 h1
  have h4 : x / 2 ^ j ≤ x := Int.ediv_le_self _ h0
  have h5 : 0 ≤ x / 2 ^ j := Int.ediv_nonneg h0 (Int.le_of_lt (p2pos j))
  have h6 := intBits_le_of_natAbs (x := x / 2 ^ j) (y := x) (by omega) h3
  omega
def InnerSpec (w : World) (f ad ci ca cn c' : Addr) (fo oi oa on oc : Obj) (n k : Nat) : Prop :=
  ∀ (p : Program) (loose : List Str) (mean : ExcName → Option Value) (mg mb : Str → Option Value) (dp un : Nat) (gd : Option (List Code)) (cnm : Str) (cs : Scope) (a : Addr) (ccd : Value) (cl : List (Str × Addr)) (outer : List Env) (A₀ : Around) (base h₀ : Heap) (L : Addr) (m : Str → Option Value) (rest : List (Addr × Obj)) (s : Shared)
    (Q E : Value → Shared → Prop) (c₀ P₀ : Addr) (vs : List Value) (ns : List Int) (x : Int) (l r : Nat) (tx tl tr : Tok),
    Below A₀ base outer h₀ → Fr h₀ L s.heap m → (hd.heap_39 w.params).In h₀ → News h₀ L s.heap ((ad, W.listOf vs.toArray 0) :: rest) → Top p loose mean mg mb h₀ → cs.kind = .function → CodeHd h₀ c₀ P₀ →
    (f, fo) ∈ rest → (ci, oi) ∈ rest → (ca, oa) ∈ rest → (cn, on) ∈ rest → (c', oc) ∈ rest → (∀ q ∈ rest, q.1 ≠ ad) →
    IntsAre vs ns → l < r → r ≤ ns.length → r - l ≤ k → ns.length ≤ 20 → 0 ≤ x → x < 2 ^ (n * (r - l)) → dp + (k + 1) < recursionLimit → un + 8 * (k + 1) < cLine →
    (∀ vs' h' tk', Fr h₀ L h' m → News h₀ L h' ((ad, W.listOf vs'.toArray 0) :: rest) → IntsAre vs' (splice ns l (digs n (r - l) x)) → Q .none { s with heap := h', toks := tk' }) →
    wpAny (model PySem.Challenge.rw_wb0065_01.row.prog w) (ktrTop dp un gd cnm cs L a ccd cl outer) (call (.ref f) [.int x tx, .int (l : Int) tl, .int (r : Int) tr]) Q E s
theorem inner_all {w : World} {f ad ci ca cn c' : Addr} {fo oi oa on oc : Obj} {n : Nat} (step : ∀ k, (∀ k', k' < k → InnerSpec w f ad ci ca cn c' fo oi oa on oc n k') → InnerSpec w f ad ci ca cn c' fo oi oa on oc n k) : ∀ k, InnerSpec w f ad ci ca cn c' fo oi oa on oc n k := fun k => by
  induction k using Nat.strongRecOn with
  | ind k ih => exact step k ih
theorem InnerSpec.use0 {w : World} {f ad ci ca cn c' : Addr} {fo oi oa on oc : Obj} {n k : Nat} {A : Around} {p : Program} {loose : List Str} {mean : ExcName → Option Value} {mg mb : Str → Option Value} {dp un : Nat} {gd : Option (List Code)} {cnm : Str} {cs : Scope} {a : Addr} {ccd : Value} {cl : List (Str × Addr)} {outer : List Env} {A₀ : Around} {base h₀ : Heap} {L : Addr} {m : Str → Option Value} {rest : List (Addr × Obj)} {s : Shared}
    {Q E : Value → Shared → Prop} {c₀ P₀ : Addr} {vs : List Value} {ns : List Int} {x : Int} {r : Nat} {tx tl tr : Tok}
    (m1 : (f, fo) ∈ rest) (C : InnerSpec w f ad ci ca cn c' fo oi oa on oc n k) (hA : A = ktrTop dp un gd cnm cs L a ccd cl outer) (B : Below A₀ base outer h₀) (F : Fr h₀ L s.heap m) (X : (hd.heap_39 w.params).In h₀) (N : News h₀ L s.heap ((ad, W.listOf vs.toArray 0) :: rest)) (T : Top p loose mean mg mb h₀) (hk : cs.kind = .function) (hC : CodeHd h₀ c₀ P₀)
    (m2 : (ci, oi) ∈ rest) (m3 : (ca, oa) ∈ rest) (m4 : (cn, on) ∈ rest) (m5 : (c', oc) ∈ rest) (hr : ∀ q ∈ rest, q.1 ≠ ad)
    (hi : IntsAre vs ns) (i1 : 0 < r) (i2 : r ≤ ns.length) (i3 : r ≤ k) (i4 : ns.length ≤ 20) (i5 : 0 ≤ x) (i6 : x < 2 ^ (n * r)) (h1 : dp + (k + 1) < recursionLimit) (h2 : un + 8 * (k + 1) < cLine)
    (h : ∀ vs' h' tk', Fr h₀ L h' m → News h₀ L h' ((ad, W.listOf vs'.toArray 0) :: rest) → IntsAre vs' (splice ns 0 (digs n r x)) → Q .none { s with heap := h', toks := tk' }) :
    wpAny (model PySem.Challenge.rw_wb0065_01.row.prog w) A (call (.ref f) [.int x tx, .int 0 tl, .int (r : Int) tr]) Q E s := by
  subst hA
  exact C p loose mean mg mb dp un gd cnm cs a ccd cl outer A₀ base h₀ L m rest s Q E c₀ P₀ vs ns x 0 r tx tl tr B F X N T hk hC m1 m2 m3 m4 m5 hr hi i1 i2 i3 i4 i5 i6 h1 h2 h
theorem InnerSpec.use {w : World} {f ad ci ca cn c' : Addr} {fo oi oa on oc : Obj} {n k : Nat} {A : Around} {p : Program} {loose : List Str} {mean : ExcName → Option Value} {mg mb : Str → Option Value} {dp un : Nat} {gd : Option (List Code)} {cnm : Str} {cs : Scope} {a : Addr} {ccd : Value} {cl : List (Str × Addr)} {outer : List Env} {A₀ : Around} {base h₀ : Heap} {L : Addr} {m : Str → Option Value} {rest : List (Addr × Obj)} {s : Shared}
    {Q E : Value → Shared → Prop} {c₀ P₀ : Addr} {vs : List Value} {ns : List Int} {x : Int} {l r : Nat} {tx tl tr : Tok}
    (C : InnerSpec w f ad ci ca cn c' fo oi oa on oc n k) (hA : A = ktrTop dp un gd cnm cs L a ccd cl outer) (B : Below A₀ base outer h₀) (F : Fr h₀ L s.heap m) (X : (hd.heap_39 w.params).In h₀) (N : News h₀ L s.heap ((ad, W.listOf vs.toArray 0) :: rest)) (T : Top p loose mean mg mb h₀) (hk : cs.kind = .function) (hC : CodeHd h₀ c₀ P₀)
    (m1 : (f, fo) ∈ rest) (m2 : (ci, oi) ∈ rest) (m3 : (ca, oa) ∈ rest) (m4 : (cn, on) ∈ rest) (m5 : (c', oc) ∈ rest) (hr : ∀ q ∈ rest, q.1 ≠ ad)
    (hi : IntsAre vs ns) (i1 : l < r) (i2 : r ≤ ns.length) (i3 : r - l ≤ k) (i4 : ns.length ≤ 20) (i5 : 0 ≤ x) (i6 : x < 2 ^ (n * (r - l))) (h1 : dp + (k + 1) < recursionLimit) (h2 : un + 8 * (k + 1) < cLine)
    (h : ∀ vs' h' tk', Fr h₀ L h' m → News h₀ L h' ((ad, W.listOf vs'.toArray 0) :: rest) → IntsAre vs' (splice ns l (digs n (r - l) x)) → Q .none { s with heap := h', toks := tk' }) :
    wpAny (model PySem.Challenge.rw_wb0065_01.row.prog w) A (call (.ref f) [.int x tx, .int (l : Int) tl, .int (r : Int) tr]) Q E s := by
  subst hA
  exact C p loose mean mg mb dp un gd cnm cs a ccd cl outer A₀ base h₀ L m rest s Q E c₀ P₀ vs ns x l r tx tl tr B F X N T hk hC m1 m2 m3 m4 m5 hr hi i1 i2 i3 i4 i5 i6 h1 h2 h
set_option maxRecDepth 100000 in
set_option maxHeartbeats 8000000 in
theorem ct_i2d (w : World) (a : Int) (n : Nat) (ta tn : Tok) (p : Program) (loose : List Str) (mean : ExcName → Option Value) (mg mb : Str → Option Value) (dp un : Nat) (gd : Option (List Code)) (cn : Str) (cs : Scope) (ca : Addr) (ccd : Value) (cl : List (Str × Addr)) (outer : List Env) (A₀ : Around) (base h₀ : Heap) (L : Addr) (m : Str → Option Value) (rest : List (Addr × Obj)) (s : Shared)
    (Q E : Value → Shared → Prop) (ps : Array Value) (c : Addr) (o : Obj) (hn1 : 1 ≤ n) (hn2 : n ≤ 40000) (ha : 0 ≤ a) (hab : Builtin.Int.intBits a ≤ 80000) (hna : (Builtin.Int.intBits a + n - 1) / n ≤ 20) (hr30 : ∀ p ∈ rest, p.1 ≠ 30) (hT : TabOk 30 32 4 (Str.ofString "_int2digits.<locals>.inner") ps c o)
    (B : Below A₀ base outer h₀) (F : Fr h₀ L s.heap m) (X : (hd.heap_39 w.params).In h₀) (N : News h₀ L s.heap ((30, tabObj ps) :: (c, o) :: rest)) (T : Top p loose mean mg mb h₀) (hk : cs.kind = .function) (hC : CodeHd h₀ 34 30) (hd' : dp + 50 < recursionLimit) (hu : un + 8 * 50 < cLine)
    (hret : ∀ ad vs c' oc h' tk', Fr h₀ L h' m → News h₀ L h' ((ad, W.listOf vs.toArray 0) :: (30, tabObj #[rawInt 32, rawInt 4, .ref c']) :: (c', oc) :: rest) → IntsAre vs (digs n ((Builtin.Int.intBits a + n - 1) / n) a) → (∃ vs t, oc.data = .fields vs ∧ vs[1]? = some (.str (Str.ofString "_int2digits.<locals>.inner") t)) →
      ((c' = c ∧ ps ≠ #[]) ∨ ((∀ q ∈ rest, q.1 < c') ∧ @LT.lt Nat _ 30 c')) → (∀ q ∈ (30, tabObj ps) :: (c, o) :: rest, q.1 < ad) → @Ne Nat c' ad → Q (.ref ad) { s with heap := h', toks := tk' }) :
    wpAny (model PySem.Challenge.rw_wb0065_01.row.prog w) (ktrTop dp un gd cn cs L ca ccd cl outer) (call (.ref 35) [.int a ta, .int (n : Int) tn]) Q E s := by
  revert X; k_fill; intro X
  refine wpAny_call ?_
  k_dflt (refine' code_defC (binds := [(Str.ofString "a", .int a ta), (Str.ofString "n", .int (n : Int) tn)]) ?k1 ?k2 ?k3 ?k4 ?k5 ?kA ?kF ?kK ?k6 ?k7 ?k8 ?k9 ?kB ?kD ?_ ?c2 ?c3 ?c4; (case kA => exact rfl); (case kF => exact rfl); (case kK => exact hk); (case k1 => exact B); (case k2 => exact F); (case k3 => exact X); (case k4 => exact N); (case k5 => exact T); (case k6 => k_is); (case k7 => k_is); (case k8 => show dp < recursionLimit; omega); (case k9 => exact BindsTo.of_eq rfl); (case kB => exact rfl); (case kD => decide +kernel); (case c2 => exact rfl); (case c3 => exact rfl); (case c4 => exact rfl); intro g' L' h' tk' cells' FG' F' N' Y' B' X' T' l1)
  refine frz fun Gz fz => ?_
  obtain ⟨o1, o2, o3, hE, d1, d2, d3⟩ := CellsAre.three Y'
  refine fz ?_
  clear fz Gz
  subst hE
  replace d1 : o1.data = .cell none := d1
  replace d2 : o2.data = .cell none := d2
  replace d3 : o3.data = .cell (some (.int (n : Int) tn)) := d3
  clear Y'
  have hL : AllLt L' rest := allLt_of fun p hp => l1 p (.tail _ (.tail _ hp))
  have hc30 : @LT.lt Nat _ 30 L' := l1 _ (.head _)
  have hcc : @LT.lt Nat _ c L' := l1 _ (.tail _ (.head _))
  clear l1
  simp only [List.cons_append, List.nil_append] at N'
  with_reducible refine wpAny_noRaise ?_
  clear B F X N T
  ktr_unf
  with_reducible refine op_add (((Builtin.Int.intBits a + n : Nat)) : Int) (by omega) (fun t tk => ?_)
  ktr_unf
  with_reducible refine op_sub (((Builtin.Int.intBits a + n - 1 : Nat)) : Int) (by omega) (fun t tk => ?_)
  ktr_unf
  with_reducible refine op_fdiv (((Builtin.Int.intBits a + n - 1) / n : Nat) : Int) (by omega) (PyProof.noPylong_small (by omega)) (by rw [fdiv_pos (by omega)]; omega) (fun t tk => ?_)
  ktr_unf
  rename Fr _ _ _ _ => F9
  rename News _ _ _ _ => N9
  have hnd : (Builtin.Int.intBits a + n - 1) / n ≤ 120000 := Nat.le_trans (Nat.div_le_self _ _) (by omega)
  with_reducible refine op_rep F9 N9 (List.Mem.head _) (by omega) (fun ad h' F' N' l2 => ?_)
  clear F9 N9
  k_lt l2
  ktr_unf
  with_reducible refine nestDef_K rfl rfl rfl ?_
  rename Fr _ _ _ _ => F9
  rename News _ _ _ _ => N9
  have N8 : News g' L' _ ((30, tabObj ps) :: (c, o) :: (ad, _) :: (L' + 1 + 1 + 1, o1) :: (L' + 1 + 1, _) :: (L' + 1, o3) :: rest) := fun p hp => N9 p (by
    refine ZSub.go ?_ p hp; wtm_at "zsub")
  clear N9
  k_dflt (refine' nestTab (c0 := c) (o0 := o) ?hq F9 N8 T' ?C ?cd hT ?r ?cl ?_; (case hq => kernel_rfl); (case C => exact CodeHd.keeps hC (FG'.keep)); (case cd => exact rfl); (case r => repeat' (first | exact hr30 | (refine List.forall_mem_cons.mpr ⟨by k_ne, ?_⟩))); (case cl => exact rfl))
  clear F9 N8
  intro f c' oc ctv doc h' tk F' N' hoc hc' l3
  have hc2 : @LT.lt Nat _ c' L' ∨ @LT.lt Nat _ ad c' := by
    rcases hc' with ⟨rfl, _⟩ | ⟨h9, _⟩
    · exact .inl hcc
    · exact .inr (h9 _ (.head _))
  k_lt l3
  ktr_unf
  rename Obj => o4
  rename o4.data = _ => d4
  rename Fr _ _ _ _ => F9
  rename News _ _ _ _ => N9
  have hcc' : ((c' = c ∧ ps ≠ #[]) ∨ ((∀ q ∈ rest, q.1 < c') ∧ @LT.lt Nat _ 30 c')) := hc'.imp id fun h => ⟨fun q hq => h.1 q (.tail _ (.tail _ (.tail _ (.tail _ hq)))), h.2⟩
  by_cases ha0 : a = 0
  · with_reducible refine ite_neg (by simp [ha0]) ?_
    ktr_unf
    show LeaveK _ _ _ _ _ _ _
    with_reducible refine leaveK_ F9 N9 ?_
    intro kF kN
    have hz : (Builtin.Int.intBits a + n - 1) / n = 0 := by
      rw [ha0, show Builtin.Int.intBits 0 = 0 by decide +kernel]
      exact Nat.div_eq_of_lt (by omega)
    refine hret ad (List.replicate ((Builtin.Int.intBits a + n - 1) / n) (.int 0 tk')) c' oc _ _ kF (fun p hp => kN p ?_) (by rw [hz]; exact .nil) hoc hcc' ?_ (by omega)
    · refine ZSub.go ?_ p hp; wtm_at "zsub"
    · exact List.forall_mem_cons.mpr ⟨l2.2.2.2.2.1, List.forall_mem_cons.mpr ⟨l2.2.2.2.2.2.1, ktn_ltOf l2.2.2.2.2.2.2⟩⟩
  · with_reducible refine ite_pos (by simpa using ha0) ?_
    ktr_unf
    with_reducible refine op_len (vs := List.replicate ((Builtin.Int.intBits a + n - 1) / n) (.int 0 _)) N9 (List.Mem.tail _ (List.Mem.tail _ (List.Mem.tail _ (List.Mem.head _)))) (by rw [List.length_replicate]; omega) (fun t tk => ?_)
    rw [List.length_replicate]
    ktr_unf
    · exact FnAt.of N9 (List.Mem.head _)
    have N8 : News g' L' _ ((ad, _) :: (f, _) :: (30, tabObj #[rawInt 32, rawInt 4, Value.ref c']) :: (c', oc) :: (L' + 1 + 1 + 1, o4) :: (L' + 1 + 1, _) :: (L' + 1, o3) :: rest) := fun p hp => N9 p (by
      refine ZSub.go ?_ p hp; wtm_at "zsub")
    clear N9
    have hnp : 0 < (Builtin.Int.intBits a + n - 1) / n := by
      have : 1 ≤ Builtin.Int.intBits a := (bits_spec (by omega)).1
      exact Nat.div_pos (by omega) (by omega)
    with_reducible refine' InnerSpec.use0 (k := (Builtin.Int.intBits a + n - 1) / n) (List.Mem.head _) (inner_all ?step _) ?hA B' F9 X' N8 T' ?hk ?hC (List.Mem.tail _ (List.Mem.tail _ (List.Mem.tail _ (List.Mem.head _)))) (List.Mem.tail _ (List.Mem.tail _ (List.Mem.tail _ (List.Mem.tail _ (List.Mem.head _))))) (List.Mem.tail _ (List.Mem.tail _ (List.Mem.tail _ (List.Mem.tail _ (List.Mem.tail _ (List.Mem.head _)))))) (List.Mem.tail _ (List.Mem.tail _ (List.Mem.head _))) ?hr (ints_rep _ 0 _) hnp (Nat.le_of_eq (List.length_replicate).symm) (Nat.le_refl _) (by rw [List.length_replicate]; exact hna) ha (digits_fit hn1 ha) ?h1 ?h2 ?_
    case hA => exact rfl
    case hk => exact rfl
    case hC => exact CodeHd.keeps hC FG'.keep
    case hr =>
      refine List.forall_mem_cons.mpr ⟨by k_ne, List.forall_mem_cons.mpr ⟨by k_ne, List.forall_mem_cons.mpr ⟨by k_ne, List.forall_mem_cons.mpr ⟨by k_ne, List.forall_mem_cons.mpr ⟨by k_ne, List.forall_mem_cons.mpr ⟨by k_ne, ?_⟩⟩⟩⟩⟩⟩
      exact ne_of_allLt hL (by omega)
    case h1 => (show dp + 1 + _ < recursionLimit; omega)
    case h2 => (show un + 3 + 8 * _ < cLine; omega)
    case step =>
      rename o4.data = _ => d4
      rename _ = Data.cell (some (Value.ref ad)) => d5
      refine frz fun Gz fz => ?_
      obtain ⟨vsc, tc, hoc1, hoc2⟩ := hoc
      refine fz ?_
      clear fz Gz
      clear hret B' X' T' FG' N8 F9 hC hr30 hT hc' hcc' d1 d2 hna hnd hnp hd' hu hab ha
      intro k IHk
      unfold InnerSpec
      intro p loose mean mg mb dp un gd cnm cs a ccd cl outer A₀ base h₀ L m rest s Q E c₀ P₀ vs ns x l r tx tl tr B F X N T hk hC m1 m2 m3 m4 m5 hr hi i1 i2 i3 i4 i5 i6 h1 h2 hret
      refine wpAny_call ?_
      k_dflt (refine' code_nest (binds := [(Str.ofString "x", .int x tx), (Str.ofString "L", .int (l : Int) tl), (Str.ofString "R", .int (r : Int) tr)]) ?k1 ?k2 ?k3 ?k4 ?k5 ?kA ?kF ?kK ?k6 ?k7 ?k8 ?k9 ?kB ?_ ?c2 ?c3 ?c4 ?c5; (case kA => exact rfl); (case kF => exact rfl); (case kK => exact hk); (case k1 => exact B); (case k2 => exact F); (case k3 => exact X); (case k4 => exact N); (case k5 => exact T); (case k6 => exact List.Mem.tail _ m1); (case k7 => exact codeRec_news N (List.Mem.tail _ m5) hoc1 hoc2); (case k8 => show dp < recursionLimit; omega); (case k9 => exact BindsTo.of_eq rfl); (case c5 => decide); (case kB => exact locs rfl); (case c2 => exact rfl); (case c3 => exact rfl); (case c4 => exact rfl); intro g' L' h' FG' F' N' B' X' T')
      try dsimp only
      with_reducible refine wpAny_noRaise ?_
      clear B F X N T
      ktr_unf
      with_reducible refine op_add ((l + 1 : Nat) : Int) (by omega) (fun t tk => ?_)
      ktr_unf
      by_cases hlr : r = l + 1
      · with_reducible refine ite_pos (by simp [hlr]) ?_
        ktr_unf
        rename Fr _ _ _ _ => F9
        rename News _ _ _ _ => N9
        with_reducible refine ksa_set F9 N9 (Upd.head hr) hi (by omega) (by omega) (by omega) (fun h9 F9 N9 hi9 _ _ => ?_)
        ktr_unf
        show LeaveK _ _ _ _ _ _ _
        with_reducible refine leaveK_ F9 N9 ?_
        intro kF kN
        refine hret _ _ _ kF kN ?_
        have e1 : digs n (r - l) x = [x] := by
          subst hlr
          rw [show l + 1 - l = 0 + 1 by omega, digs, digs, Int.emod_eq_of_lt i5 (by rw [show n * (l + 1 - l) = n by rw [show l + 1 - l = 1 by omega, Nat.mul_one]] at i6; exact i6)]
        rw [e1, ← splice_one (by omega)]
        exact hi9
      · with_reducible refine ite_neg (by simp; omega) ?_
        refine frz fun Gz fz => ?_
        obtain ⟨y1, y2, y3, y4, y5, y6, y7, y8, y9, y10, y11, y12, y13, y14, y15, y16, y17, y18⟩ := mids i1 i2 i3 i4 hlr h1 h2
        refine fz ?_
        clear fz Gz
        have hnn : ∀ j : Nat, j ≤ 20 → n * j ≤ 800000 := fun j hj => Nat.le_trans (Nat.mul_le_mul hn2 hj) (by decide)
        have hm := hnn ((l + r) / 2 - l) (by omega)
        ktr_unf
        with_reducible refine op_add ((l + r : Nat) : Int) (by omega) (fun t tk => ?_)
        ktr_unf
        with_reducible refine op_shr (((l + r) / 2 : Nat) : Int) (by omega) (by rw [show (1:Int).toNat = 1 from rfl, Int.fdiv_eq_ediv_of_nonneg _ (by decide)]; omega) (fun t tk => ?_)
        ktr_unf
        with_reducible refine op_sub (((l + r) / 2 - l : Nat) : Int) (by omega) (fun t tk => ?_)
        ktr_unf
        with_reducible refine op_mul ((n * ((l + r) / 2 - l) : Nat) : Int) (IntMulOk.of_right (small_bits hn2)) (by rw [Int.natCast_mul, Int.mul_comm]) (fun t tk => ?_)
        ktr_unf
        with_reducible refine op_shr (x / 2 ^ (n * ((l + r) / 2 - l))) (by omega) (by rw [Int.toNat_natCast, shr_div]) (fun t tk => ?_)
        ktr_unf
        with_reducible refine op_shl (x / 2 ^ (n * ((l + r) / 2 - l)) * 2 ^ (n * ((l + r) / 2 - l))) (by omega) (up_bits i5 i6 hm (hnn _ (by omega))) (by rw [Int.toNat_natCast]) (fun t tk => ?_)
        ktr_unf
        with_reducible refine op_xor (x % 2 ^ (n * ((l + r) / 2 - l))) (xor_low _ _) (fun t tk => ?_)
        ktr_unf
        · rename News _ _ _ _ => N9
          exact FnAt.of N9 (List.Mem.tail _ m1)
        have hk2 := p2pos (n * ((l + r) / 2 - l))
        rename Fr _ _ _ _ => F9
        rename News _ _ _ _ => N9
        with_reducible refine' InnerSpec.use (IHk ((l + r) / 2 - l) (by omega)) ?hA B' F9 X' N9 T' ?hk ?hC m1 m2 m3 m4 m5 hr hi (by omega) (by omega) (Nat.le_refl _) i4 (Int.emod_nonneg _ (by omega)) (Int.emod_lt_of_pos _ hk2) ?h1 ?h2 ?_
        case hA => exact rfl
        case hk => exact rfl
        case hC => exact CodeHd.keeps hC FG'.keep
        case h1 => (show dp + 1 + _ < recursionLimit; omega)
        case h2 => (show un + 3 + 8 * _ < cLine; omega)
        clear F9 N9
        intro vs1 h9 tk9 F' N' hi1
        ktr_unf
        · rename News _ _ _ _ => N9
          exact FnAt.of N9 (List.Mem.tail _ m1)
        rename Fr _ _ _ _ => F9
        rename News _ _ _ _ => N9
        with_reducible refine' InnerSpec.use (IHk (r - (l + r) / 2) (by omega)) ?hA B' F9 X' N9 T' ?hk ?hC m1 m2 m3 m4 m5 hr hi1 (by omega) (by rw [splice_len (by rw [digs_len]; omega)]; exact i2) (Nat.le_refl _) (by rw [splice_len (by rw [digs_len]; omega)]; exact i4) (Int.ediv_nonneg i5 (by omega)) (Int.ediv_lt_of_lt_mul hk2 (by rw [← p2add, ← Nat.mul_add, show r - (l + r) / 2 + ((l + r) / 2 - l) = r - l by omega]; exact i6)) ?h1 ?h2 ?_
        case hA => exact rfl
        case hk => exact rfl
        case hC => exact CodeHd.keeps hC FG'.keep
        case h1 => (show dp + 1 + _ < recursionLimit; omega)
        case h2 => (show un + 3 + 8 * _ < cLine; omega)
        clear F9 N9
        intro vs2 h9 tk9 F9 N9 hi2
        ktr_unf
        show LeaveK _ _ _ _ _ _ _
        with_reducible refine leaveK_ F9 N9 ?_
        intro kF kN
        refine hret _ _ _ kF kN ?_
        have e1 := splice_digs (ns := ns) (n := n) (l := l) (j := (l + r) / 2 - l) (k := r - (l + r) / 2) (x := x) (by omega)
        rw [show l + ((l + r) / 2 - l) = (l + r) / 2 by omega, show (l + r) / 2 - l + (r - (l + r) / 2) = r - l by omega] at e1
        rw [e1] at hi2
        exact hi2
    intro vs' h' tk' F' N' hi'
    rw [splice_all (by rw [digs_len, List.length_replicate])] at hi'
    clear N8
    ktr_unf
    show LeaveK _ _ _ _ _ _ _
    with_reducible refine leaveK_ F' N' ?_
    intro kF kN
    refine hret ad _ c' oc _ _ kF (fun p hp => kN p ?_) hi' hoc hcc' ?_ (by omega)
    · refine ZSub.go ?_ p hp; wtm_at "zsub"
    · exact List.forall_mem_cons.mpr ⟨l2.2.2.2.2.1, List.forall_mem_cons.mpr ⟨l2.2.2.2.2.2.1, ktn_ltOf l2.2.2.2.2.2.2⟩⟩
end
section
open PySem PySem.W
def seg (ns : List Int) (l r : Nat) : List Int := (ns.drop l).take (r - l)
theorem seg_all (ns : List Int) : seg ns 0 ns.length = ns := by simp [seg]
theorem seg_len {ns : List Int} {l r : Nat} (h : r ≤ ns.length) : (seg ns l r).length = r - l := by
  simp only [seg, List.length_take, List.length_drop]; omega
theorem seg_split (ns : List Int) {l k r : Nat} (h1 : l ≤ k) (h2 : k ≤ r) : seg ns l r = seg ns l k ++ seg ns k r := by
  simp only [seg]
  rw [show r - l = (k - l) + (r - k) by omega, List.take_add, List.drop_drop, show l + (k - l) = k by omega]
theorem seg_one {ns : List Int} {l : Nat} (h : l < ns.length) : seg ns l (l + 1) = [ns.getD l 0] := by
  simp only [seg, show l + 1 - l = 1 by omega]
  rw [List.drop_eq_getElem_cons h, List.take_succ_cons, List.take_zero, List.getD_eq_getElem?_getD, List.getElem?_eq_getElem h]
  rfl
theorem seg_mem {ns : List Int} {l r : Nat} {d : Int} (h : d ∈ seg ns l r) : d ∈ ns := List.mem_of_mem_drop (List.mem_of_mem_take h)
theorem numOf_one (n : Nat) (d : Int) : numOf n [d] = d := by simp [numOf]
theorem numOf_bound (n : Nat) : ∀ (ns : List Int), (∀ d ∈ ns, 0 ≤ d ∧ d < 2 ^ n) → 0 ≤ numOf n ns ∧ numOf n ns < 2 ^ (n * ns.length)
  | [], _ => by simp [numOf]
  | d :: r, h => by
    obtain ⟨i0, i1⟩ := numOf_bound n r fun x hx => h x (.tail _ hx)
    obtain ⟨d0, d1⟩ := h d (.head _)
    have hn := p2pos n
    rw [numOf, List.length_cons, show n * (r.length + 1) = n * r.length + n by rw [Nat.mul_add]; omega, p2add]
    have h1 := Int.mul_nonneg i0 (Int.le_of_lt hn)
    have h2 : numOf n r * 2 ^ n ≤ (2 ^ (n * r.length) - 1) * 2 ^ n := Int.mul_le_mul_of_nonneg_right (by omega) (by omega)
    rw [Int.sub_mul, Int.one_mul] at h2
    omega
theorem numOf_seg (n : Nat) (ns : List Int) {l k r : Nat} (h1 : l ≤ k) (h2 : k ≤ r) (h3 : r ≤ ns.length) : numOf n (seg ns k r) * 2 ^ (n * (k - l)) + numOf n (seg ns l k) = numOf n (seg ns l r) := by
  rw [seg_split ns h1 h2, numOf_append, seg_len (by omega)]
theorem seg_bits {n : Nat} {ns : List Int} (hd : ∀ d ∈ ns, 0 ≤ d ∧ d < 2 ^ n) {l r : Nat} (h : r ≤ ns.length) (h1 : ns.length ≤ 20) (h2 : n ≤ 40000) : Builtin.Int.intBits (numOf n (seg ns l r)) ≤ 800000 := by
  obtain ⟨a, b⟩ := numOf_bound n (seg ns l r) fun d hx => hd d (seg_mem hx)
  refine Nat.le_trans (bits_le a b) ?_
  rw [seg_len h]
  exact Nat.le_trans (Nat.mul_le_mul h2 (show r - l ≤ 20 by omega)) (by decide)
end
section
open PySem PySem.W PyProof.Rows PySem.Calls
local macro_rules | `(tactic| omega) => `(tactic| with_reducible assumption)
local macro_rules | `(tactic| ktr_unf) => `(tactic| repeat ((wtm_at "zb4"); (fail_if_success any_goals with_reducible (first | refine zs7 ?_ | refine zs9 ?_ | refine zs10 ?_ | refine zs11 ?_ | refine zs6 ?_ | refine zs8 ?_)); (wtm_at "zw3")))
local macro_rules | `(tactic| walk_at "eval Name") => `(tactic| (kc_free; k_dflt (refine' nameX_F ?N ?c ?m ?d ?_ ?a ?b; (case a => rfl); (case b => rfl); (case c => rfl); (case N => with_reducible assumption); (case m => with_reducible assumption); (case d => with_reducible assumption))))
local macro_rules | `(tactic| walk_at "callWith ref") => `(tactic| (k_dflt (refine' callWith_F ?k1 ?_; (case k1 => exact FnAt.of (by with_reducible assumption) (by with_reducible assumption)))))
local macro_rules | `(tactic| k_all) => `(tactic| exact ne_of_allLt (by with_reducible assumption) (by omega))
theorem op_truthy_list {prog : Program} {w : World} {A : Around} {E : Value → Shared → Prop} {s : Shared} {h₀ : Heap} {L l : Addr} {news : List (Addr × Obj)} {ep : Nat} {vs : List Value} {Q : Bool → Shared → Prop} (N : News h₀ L s.heap news) (hm : (l, W.listOf vs.toArray ep) ∈ news) (hsz : vs.length ≤ 1000000) (h : ∀ tk, Q (decide (vs ≠ [])) { s with toks := tk }) : wpAny (model prog w) A (truthy (.ref l)) Q E s := by
  refine wpAny_truthy_list (PySem.IsL.isList (n := ep) (N _ hm).1) (by rw [List.size_toArray]; omega) ?_
  have e : (!vs.toArray.isEmpty) = decide (vs ≠ []) := by cases vs <;> simp
  rw [e]
  exact h _
def Inner2 (w : World) (f D ci ca cn c' : Addr) (ep : Nat) (fo oi oa on oc : Obj) (n k : Nat) : Prop :=
  ∀ (p : Program) (loose : List Str) (mean : ExcName → Option Value) (mg mb : Str → Option Value) (dp un : Nat) (gd : Option (List Code)) (cnm : Str) (cs : Scope) (a : Addr) (ccd : Value) (cl : List (Str × Addr)) (outer : List Env) (A₀ : Around) (base h₀ : Heap) (L : Addr) (m : Str → Option Value) (news : List (Addr × Obj)) (s : Shared)
    (Q E : Value → Shared → Prop) (c₀ P₀ : Addr) (vs : List Value) (ns : List Int) (l r : Nat) (tl tr : Tok),
    Below A₀ base outer h₀ → Fr h₀ L s.heap m → (hd.heap_39 w.params).In h₀ → News h₀ L s.heap news → Top p loose mean mg mb h₀ → cs.kind = .function → CodeHd h₀ c₀ P₀ →
    (f, fo) ∈ news → (ci, oi) ∈ news → (ca, oa) ∈ news → (cn, on) ∈ news → (c', oc) ∈ news → (D, W.listOf vs.toArray ep) ∈ news →
    IntsAre vs ns → (∀ d ∈ ns, 0 ≤ d ∧ d < 2 ^ n) → l < r → r ≤ ns.length → r - l ≤ k → ns.length ≤ 20 → dp + (k + 1) < recursionLimit → un + 8 * (k + 1) < cLine →
    (∀ t h' tk', Fr h₀ L h' m → News h₀ L h' news → Q (.int (numOf n (seg ns l r)) t) { s with heap := h', toks := tk' }) →
    wpAny (model PySem.Challenge.rw_wb0065_01.row.prog w) (ktrTop dp un gd cnm cs L a ccd cl outer) (call (.ref f) [.int (l : Int) tl, .int (r : Int) tr]) Q E s
theorem inner2_all {w : World} {f D ci ca cn c' : Addr} {ep : Nat} {fo oi oa on oc : Obj} {n : Nat} (step : ∀ k, (∀ k', k' < k → Inner2 w f D ci ca cn c' ep fo oi oa on oc n k') → Inner2 w f D ci ca cn c' ep fo oi oa on oc n k) : ∀ k, Inner2 w f D ci ca cn c' ep fo oi oa on oc n k := fun k => by
  induction k using Nat.strongRecOn with
  | ind k ih => exact step k ih
theorem Inner2.use {w : World} {f D ci ca cn c' : Addr} {ep : Nat} {fo oi oa on oc : Obj} {n k : Nat} {A : Around} {p : Program} {loose : List Str} {mean : ExcName → Option Value} {mg mb : Str → Option Value} {dp un : Nat} {gd : Option (List Code)} {cnm : Str} {cs : Scope} {a : Addr} {ccd : Value} {cl : List (Str × Addr)} {outer : List Env} {A₀ : Around} {base h₀ : Heap} {L : Addr} {m : Str → Option Value} {news : List (Addr × Obj)} {s : Shared}
    {Q E : Value → Shared → Prop} {c₀ P₀ : Addr} {vs : List Value} {ns : List Int} {l r : Nat} {tl tr : Tok}
    (m1 : (f, fo) ∈ news) (C : Inner2 w f D ci ca cn c' ep fo oi oa on oc n k) (hA : A = ktrTop dp un gd cnm cs L a ccd cl outer) (B : Below A₀ base outer h₀) (F : Fr h₀ L s.heap m) (X : (hd.heap_39 w.params).In h₀) (N : News h₀ L s.heap news) (T : Top p loose mean mg mb h₀) (hk : cs.kind = .function) (hC : CodeHd h₀ c₀ P₀)
    (m2 : (ci, oi) ∈ news) (m3 : (ca, oa) ∈ news) (m4 : (cn, on) ∈ news) (m5 : (c', oc) ∈ news) (m6 : (D, W.listOf vs.toArray ep) ∈ news)
    (hi : IntsAre vs ns) (hdg : ∀ d ∈ ns, 0 ≤ d ∧ d < 2 ^ n) (i1 : l < r) (i2 : r ≤ ns.length) (i3 : r - l ≤ k) (i4 : ns.length ≤ 20) (h1 : dp + (k + 1) < recursionLimit) (h2 : un + 8 * (k + 1) < cLine)
    (h : ∀ t h' tk', Fr h₀ L h' m → News h₀ L h' news → Q (.int (numOf n (seg ns l r)) t) { s with heap := h', toks := tk' }) :
    wpAny (model PySem.Challenge.rw_wb0065_01.row.prog w) A (call (.ref f) [.int (l : Int) tl, .int (r : Int) tr]) Q E s := by
  subst hA
  exact C p loose mean mg mb dp un gd cnm cs a ccd cl outer A₀ base h₀ L m news s Q E c₀ P₀ vs ns l r tl tr B F X N T hk hC m1 m2 m3 m4 m5 m6 hi hdg i1 i2 i3 i4 h1 h2 h
theorem Inner2.use0 {w : World} {f D ci ca cn c' : Addr} {ep : Nat} {fo oi oa on oc : Obj} {n k : Nat} {A : Around} {p : Program} {loose : List Str} {mean : ExcName → Option Value} {mg mb : Str → Option Value} {dp un : Nat} {gd : Option (List Code)} {cnm : Str} {cs : Scope} {a : Addr} {ccd : Value} {cl : List (Str × Addr)} {outer : List Env} {A₀ : Around} {base h₀ : Heap} {L : Addr} {m : Str → Option Value} {news : List (Addr × Obj)} {s : Shared}
    {Q E : Value → Shared → Prop} {c₀ P₀ : Addr} {vs : List Value} {ns : List Int} {tl tr : Tok}
    (m1 : (f, fo) ∈ news) (C : Inner2 w f D ci ca cn c' ep fo oi oa on oc n k) (hA : A = ktrTop dp un gd cnm cs L a ccd cl outer) (B : Below A₀ base outer h₀) (F : Fr h₀ L s.heap m) (X : (hd.heap_39 w.params).In h₀) (N : News h₀ L s.heap news) (T : Top p loose mean mg mb h₀) (hk : cs.kind = .function) (hC : CodeHd h₀ c₀ P₀)
    (m2 : (ci, oi) ∈ news) (m3 : (ca, oa) ∈ news) (m4 : (cn, on) ∈ news) (m5 : (c', oc) ∈ news) (m6 : (D, W.listOf vs.toArray ep) ∈ news)
    (hi : IntsAre vs ns) (hdg : ∀ d ∈ ns, 0 ≤ d ∧ d < 2 ^ n) (i1 : 0 < ns.length) (i3 : ns.length ≤ k) (i4 : ns.length ≤ 20) (h1 : dp + (k + 1) < recursionLimit) (h2 : un + 8 * (k + 1) < cLine)
    (h : ∀ t h' tk', Fr h₀ L h' m → News h₀ L h' news → Q (.int (numOf n ns) t) { s with heap := h', toks := tk' }) :
    wpAny (model PySem.Challenge.rw_wb0065_01.row.prog w) A (call (.ref f) [.int 0 tl, .int ((vs.length : Nat) : Int) tr]) Q E s := by
  subst hA
  rw [← seg_all ns] at h
  rw [show vs.length = ns.length from hi.length]
  exact C p loose mean mg mb dp un gd cnm cs a ccd cl outer A₀ base h₀ L m news s Q E c₀ P₀ vs ns 0 ns.length tl tr B F X N T hk hC m1 m2 m3 m4 m5 m6 hi hdg i1 (Nat.le_refl _) i3 i4 h1 h2 h
set_option maxRecDepth 100000 in
set_option maxHeartbeats 8000000 in
theorem ct_d2i (w : World) (D : Addr) (n : Nat) (tn : Tok) (ep : Nat) (vs : List Value) (ns : List Int) (p : Program) (loose : List Str) (mean : ExcName → Option Value) (mg mb : Str → Option Value) (dp un : Nat) (gd : Option (List Code)) (cn : Str) (cs : Scope) (ca : Addr) (ccd : Value) (cl : List (Str × Addr)) (outer : List Env) (A₀ : Around) (base h₀ : Heap) (L : Addr) (m : Str → Option Value) (rest : List (Addr × Obj)) (s : Shared)
    (Q E : Value → Shared → Prop) (ps : Array Value) (c : Addr) (o : Obj) (hn2 : n ≤ 40000) (hi : IntsAre vs ns) (hdg : ∀ d ∈ ns, 0 ≤ d ∧ d < 2 ^ n) (hlen : ns.length ≤ 20) (hr37 : ∀ p ∈ rest, p.1 ≠ 37) (hT : TabOk 37 47 4 (Str.ofString "_digits2int.<locals>.inner") ps c o)
    (B : Below A₀ base outer h₀) (F : Fr h₀ L s.heap m) (X : (hd.heap_39 w.params).In h₀) (N : News h₀ L s.heap ((37, tabObj ps) :: (c, o) :: rest)) (hD : (D, W.listOf vs.toArray ep) ∈ rest) (T : Top p loose mean mg mb h₀) (hk : cs.kind = .function) (hC : CodeHd h₀ 41 37) (hd' : dp + 50 < recursionLimit) (hu : un + 8 * 50 < cLine)
    (hret : ∀ t c' oc h' tk', Fr h₀ L h' m → News h₀ L h' ((37, tabObj #[rawInt 47, rawInt 4, .ref c']) :: (c', oc) :: rest) → (∃ vs t, oc.data = .fields vs ∧ vs[1]? = some (.str (Str.ofString "_digits2int.<locals>.inner") t)) →
      ((c' = c ∧ ps ≠ #[]) ∨ ((∀ q ∈ rest, q.1 < c') ∧ @LT.lt Nat _ 37 c')) → Q (.int (numOf n ns) t) { s with heap := h', toks := tk' }) :
    wpAny (model PySem.Challenge.rw_wb0065_01.row.prog w) (ktrTop dp un gd cn cs L ca ccd cl outer) (call (.ref 42) [.ref D, .int (n : Int) tn]) Q E s := by
  revert X; k_fill; intro X
  have hvl : vs.length = ns.length := hi.length
  refine wpAny_call ?_
  k_dflt (refine' code_defC (binds := [(Str.ofString "digits", .ref D), (Str.ofString "n", .int (n : Int) tn)]) ?k1 ?k2 ?k3 ?k4 ?k5 ?kA ?kF ?kK ?k6 ?k7 ?k8 ?k9 ?kB ?kD ?_ ?c2 ?c3 ?c4; (case kA => exact rfl); (case kF => exact rfl); (case kK => exact hk); (case k1 => exact B); (case k2 => exact F); (case k3 => exact X); (case k4 => exact N); (case k5 => exact T); (case k6 => k_is); (case k7 => k_is); (case k8 => show dp < recursionLimit; omega); (case k9 => exact BindsTo.of_eq rfl); (case kB => exact rfl); (case kD => decide +kernel); (case c2 => exact rfl); (case c3 => exact rfl); (case c4 => exact rfl); intro g' L' h' tk' cells' FG' F' N' Y' B' X' T' l1)
  refine frz fun Gz fz => ?_
  obtain ⟨o1, o2, o3, hE, d1, d2, d3⟩ := CellsAre.three Y'
  refine fz ?_
  clear fz Gz
  subst hE
  replace d1 : o1.data = .cell none := d1
  replace d2 : o2.data = .cell (some (.int (n : Int) tn)) := d2
  replace d3 : o3.data = .cell (some (.ref D)) := d3
  clear Y'
  have hL : AllLt L' rest := allLt_of fun p hp => l1 p (.tail _ (.tail _ hp))
  have hc37 : @LT.lt Nat _ 37 L' := l1 _ (.head _)
  have hcc : @LT.lt Nat _ c L' := l1 _ (.tail _ (.head _))
  clear l1
  simp only [List.cons_append, List.nil_append] at N'
  with_reducible refine wpAny_noRaise ?_
  clear B F X N T
  ktr_unf
  with_reducible refine nestDef_K rfl rfl rfl ?_
  have N8 : News g' L' _ ((37, tabObj ps) :: (c, o) :: (L' + 1 + 1 + 1, o1) :: (L' + 1 + 1, o2) :: (L' + 1, o3) :: rest) := fun p hp => N' p (by
    refine ZSub.go ?_ p hp; wtm_at "zsub")
  clear N'
  k_dflt (refine' nestTab (c0 := c) (o0 := o) ?hq F' N8 T' ?C ?cd hT ?r ?cl ?_; (case hq => kernel_rfl); (case C => exact CodeHd.keeps hC (FG'.keep)); (case cd => exact rfl); (case r => repeat' (first | exact hr37 | (refine List.forall_mem_cons.mpr ⟨by k_ne, ?_⟩))); (case cl => exact rfl))
  clear F' N8
  intro f c' oc ctv doc h' tk F' N' hoc hc' l3
  have hc2 : @LT.lt Nat _ c' L' ∨ @LT.lt Nat _ (L' + 1 + 1 + 1) c' := by
    rcases hc' with ⟨rfl, _⟩ | ⟨h9, _⟩
    · exact .inl hcc
    · exact .inr (h9 _ (.head _))
  k_lt l3
  have hcc' : ((c' = c ∧ ps ≠ #[]) ∨ ((∀ q ∈ rest, q.1 < c') ∧ @LT.lt Nat _ 37 c')) := hc'.imp id fun h => ⟨fun q hq => h.1 q (.tail _ (.tail _ (.tail _ hq))), h.2⟩
  ktr_unf
  rename Obj => o4
  rename o4.data = _ => d4
  rename Fr _ _ _ _ => F9
  rename News _ _ _ _ => N9
  with_reducible refine op_truthy_list (vs := vs) N9 (List.mem_cons_of_mem _ (List.mem_cons_of_mem _ (List.mem_cons_of_mem _ (List.mem_cons_of_mem _ (List.mem_cons_of_mem _ (List.mem_cons_of_mem _ hD)))))) (by omega) (fun tk => ?_)
  by_cases hns : ns = []
  · have hvs : vs = [] := by rw [hns] at hvl; exact List.eq_nil_of_length_eq_zero hvl
    ktr_unf
    with_reducible refine ite_neg (by simp [hvs]) ?_
    ktr_unf
    show LeaveK _ _ _ _ _ _ _
    with_reducible refine leaveK_ F9 N9 ?_
    intro kF kN
    rw [hns] at hret
    exact hret _ c' oc _ _ kF (fun p hp => kN p (by
      simp only [List.mem_cons] at hp ⊢
      rcases hp with h | h | h
      · exact .inr (.inl h)
      · exact .inr (.inr (.inl h))
      · exact .inr (.inr (.inr (.inr (.inr (.inr h))))))) hoc hcc'
  · have hvs : vs ≠ [] := fun q => hns (by rw [q] at hvl; exact List.eq_nil_of_length_eq_zero hvl.symm)
    ktr_unf
    with_reducible refine ite_pos (by simp [hvs]) ?_
    ktr_unf
    with_reducible refine op_len (vs := vs) N9 (List.mem_cons_of_mem _ (List.mem_cons_of_mem _ (List.mem_cons_of_mem _ (List.mem_cons_of_mem _ (List.mem_cons_of_mem _ (List.mem_cons_of_mem _ hD)))))) (by omega) (fun t tk => ?_)
    ktr_unf
    · exact FnAt.of N9 (List.Mem.head _)
    have hnp : 0 < ns.length := List.length_pos_iff.mpr hns
    with_reducible refine' Inner2.use0 (k := ns.length) (List.Mem.head _) (inner2_all ?step _) ?hA B' F9 X' N9 T' ?hk ?hC (List.Mem.tail _ (List.Mem.tail _ (List.Mem.tail _ (List.Mem.head _)))) (List.Mem.tail _ (List.Mem.tail _ (List.Mem.tail _ (List.Mem.tail _ (List.Mem.tail _ (List.Mem.head _)))))) (List.Mem.tail _ (List.Mem.tail _ (List.Mem.tail _ (List.Mem.tail _ (List.Mem.head _))))) (List.Mem.tail _ (List.Mem.tail _ (List.Mem.head _))) (List.mem_cons_of_mem _ (List.mem_cons_of_mem _ (List.mem_cons_of_mem _ (List.mem_cons_of_mem _ (List.mem_cons_of_mem _ (List.mem_cons_of_mem _ hD)))))) hi hdg hnp (Nat.le_refl _) hlen ?h1 ?h2 ?_
    case hA => exact rfl
    case hk => exact rfl
    case hC => exact CodeHd.keeps hC FG'.keep
    case h1 => (show dp + 1 + _ < recursionLimit; omega)
    case h2 => (show un + 3 + 8 * _ < cLine; omega)
    case step =>
      refine frz fun Gz fz => ?_
      obtain ⟨vsc, tc, hoc1, hoc2⟩ := hoc
      refine fz ?_
      clear fz Gz
      clear hret B' X' T' FG' N9 F9 hC hr37 hT hc' hcc' d1 hd' hu hi hdg hlen hvl hD hns hnp hvs
      intro k IHk
      unfold Inner2
      intro p loose mean mg mb dp un gd cnm cs a ccd cl outer A₀ base h₀ L m news s Q E c₀ P₀ vs ns l r tl tr B F X N T hk hC m1 m2 m3 m4 m5 m6 hi hdg i1 i2 i3 i4 h1 h2 hret
      refine wpAny_call ?_
      k_dflt (refine' code_nest (binds := [(Str.ofString "L", .int (l : Int) tl), (Str.ofString "R", .int (r : Int) tr)]) ?k1 ?k2 ?k3 ?k4 ?k5 ?kA ?kF ?kK ?k6 ?k7 ?k8 ?k9 ?kB ?_ ?c2 ?c3 ?c4 ?c5; (case kA => exact rfl); (case kF => exact rfl); (case kK => exact hk); (case k1 => exact B); (case k2 => exact F); (case k3 => exact X); (case k4 => exact N); (case k5 => exact T); (case k6 => exact m1); (case k7 => exact codeRec_news N m5 hoc1 hoc2); (case k8 => show dp < recursionLimit; omega); (case k9 => exact BindsTo.of_eq rfl); (case c5 => decide); (case kB => exact locs rfl); (case c2 => exact rfl); (case c3 => exact rfl); (case c4 => exact rfl); intro g' L' h' FG' F' N' B' X' T')
      try dsimp only
      with_reducible refine wpAny_noRaise ?_
      clear B F X N T
      have hlv : vs.length = ns.length := hi.length
      ktr_unf
      with_reducible refine op_add ((l + 1 : Nat) : Int) (by omega) (fun t tk => ?_)
      ktr_unf
      by_cases hlr : r = l + 1
      · with_reducible refine ite_pos (by simp [hlr]) ?_
        ktr_unf
        rename Fr _ _ _ _ => F9
        rename News _ _ _ _ => N9
        with_reducible refine ksa_sub N9 m6 hi (by omega) (by omega) (by omega) (fun t => ?_) (by with_unfolding_all rfl)
        ktr_unf
        show LeaveK _ _ _ _ _ _ _
        with_reducible refine leaveK_ F9 N9 ?_
        intro kF kN
        rw [hlr, seg_one (by omega), numOf_one] at hret
        exact hret _ _ _ kF kN
      · with_reducible refine ite_neg (by simp; omega) ?_
        refine frz fun Gz fz => ?_
        obtain ⟨y1, y2, y3, y4, y5, y6, y7, y8, y9, y10, y11, y12, y13, y14, y15, y16, y17, y18⟩ := mids i1 i2 i3 i4 hlr h1 h2
        refine fz ?_
        clear fz Gz
        have hnn : ∀ j : Nat, j ≤ 20 → n * j ≤ 800000 := fun j hj => Nat.le_trans (Nat.mul_le_mul hn2 hj) (by decide)
        have hm := hnn ((l + r) / 2 - l) (by omega)
        ktr_unf
        with_reducible refine op_add ((l + r : Nat) : Int) (by omega) (fun t tk => ?_)
        ktr_unf
        with_reducible refine op_shr (((l + r) / 2 : Nat) : Int) (by omega) (by rw [show (1:Int).toNat = 1 from rfl, Int.fdiv_eq_ediv_of_nonneg _ (by decide)]; omega) (fun t tk => ?_)
        ktr_unf
        with_reducible refine op_sub (((l + r) / 2 - l : Nat) : Int) (by omega) (fun t tk => ?_)
        ktr_unf
        with_reducible refine op_mul ((n * ((l + r) / 2 - l) : Nat) : Int) (IntMulOk.of_right (small_bits hn2)) (by rw [Int.natCast_mul, Int.mul_comm]) (fun t tk => ?_)
        ktr_unf
        · rename News _ _ _ _ => N9
          exact FnAt.of N9 m1
        rename Fr _ _ _ _ => F9
        rename News _ _ _ _ => N9
        with_reducible refine' Inner2.use m1 (IHk (r - (l + r) / 2) (by omega)) ?hA B' F9 X' N9 T' ?hk ?hC m2 m3 m4 m5 m6 hi hdg (by omega) i2 (Nat.le_refl _) i4 ?h1 ?h2 ?_
        case hA => exact rfl
        case hk => exact rfl
        case hC => exact CodeHd.keeps hC FG'.keep
        case h1 => (show dp + 1 + _ < recursionLimit; omega)
        case h2 => (show un + 3 + 8 * _ < cLine; omega)
        clear F9 N9
        intro t9 h9 tk9 F' N'
        ktr_unf
        have hsb := seg_bits hdg (l := (l + r) / 2) i2 i4 hn2
        with_reducible refine op_shl (numOf n (seg ns ((l + r) / 2) r) * 2 ^ (n * ((l + r) / 2 - l))) (by omega) (by omega) (by rw [Int.toNat_natCast]) (fun t tk => ?_)
        ktr_unf
        · rename News _ _ _ _ => N9
          exact FnAt.of N9 m1
        rename Fr _ _ _ _ => F9
        rename News _ _ _ _ => N9
        with_reducible refine' Inner2.use m1 (IHk ((l + r) / 2 - l) (by omega)) ?hA B' F9 X' N9 T' ?hk ?hC m2 m3 m4 m5 m6 hi hdg (by omega) (by omega) (Nat.le_refl _) i4 ?h1 ?h2 ?_
        case hA => exact rfl
        case hk => exact rfl
        case hC => exact CodeHd.keeps hC FG'.keep
        case h1 => (show dp + 1 + _ < recursionLimit; omega)
        case h2 => (show un + 3 + 8 * _ < cLine; omega)
        clear F9 N9
        intro t9 h9 tk9 F9 N9
        ktr_unf
        with_reducible refine op_add (numOf n (seg ns l r)) (numOf_seg n ns (by omega) (by omega) i2) (fun t tk => ?_)
        ktr_unf
        show LeaveK _ _ _ _ _ _ _
        with_reducible refine leaveK_ F9 N9 ?_
        intro kF kN
        exact hret _ _ _ kF kN
    intro t9 h9 tk9 F' N8
    clear F9 N9
    ktr_unf
    show LeaveK _ _ _ _ _ _ _
    with_reducible refine leaveK_ F' N8 ?_
    intro kF kN
    exact hret _ c' oc _ _ kF (fun p hp => kN p (by
      simp only [List.mem_cons] at hp ⊢
      rcases hp with h | h | h
      · exact .inr (.inl h)
      · exact .inr (.inr (.inl h))
      · exact .inr (.inr (.inr (.inr (.inr (.inr h))))))) hoc hcc'
end
section
local macro_rules | `(tactic| walk_at "none here") => `(tactic| fail)
open PySem PySem.W PyProof.Rows PySem.Calls
local macro_rules | `(tactic| k_all) => `(tactic| exact ne_of_allLt (by with_reducible assumption) (by omega))
theorem op_append {prog : Program} {w : World} {A : Around} {E : Value → Shared → Prop} {s : Shared} {h₀ : Heap} {L D : Addr} {m : Str → Option Value} {news news' : List (Addr × Obj)} {ep : Nat} {vs : List Value} {x : Value} {Q : Value → Shared → Prop} (F : Fr h₀ L s.heap m) (N : News h₀ L s.heap news)
    (U : Upd D (W.listOf vs.toArray ep) (W.listOf (vs ++ [x]).toArray (ep + 1)) news news') (hsz : vs.length ≤ 1000000) (h : ∀ h', Fr h₀ L h' m → News h₀ L h' news' → Q .none { s with heap := h' }) : wpAny (model prog w) A (call (.builtin "list.append") [.ref D, x]) Q E s := by
  refine append_K F N (its := vs.toArray) (n := ep) (by rw [List.push_toArray]; exact U) h (by rw [List.size_toArray, sizeLine_eq]; omega)
theorem op_reverse {prog : Program} {w : World} {A : Around} {E : Value → Shared → Prop} {s : Shared} {h₀ : Heap} {L D : Addr} {m : Str → Option Value} {news news' : List (Addr × Obj)} {ep : Nat} {vs : List Value} {Q : Value → Shared → Prop} (F : Fr h₀ L s.heap m) (N : News h₀ L s.heap news)
    (U : Upd D (W.listOf vs.toArray ep) (W.listOf vs.reverse.toArray ep) news news') (hsz : vs.length ≤ 1000000) (h : ∀ h', Fr h₀ L h' m → News h₀ L h' news' → Q .none { s with heap := h' }) : wpAny (model prog w) A (call (.builtin "list.reverse") [.ref D]) Q E s := by
  refine kl_reverse F N (its := vs.toArray) (n := ep) rfl U (by rw [sizeLine_eq]; show vs.length ≤ _; omega) h
theorem news_pos {h₀ h : Heap} {L : Addr} {x a b c d e f : Addr × Obj} {r : List (Addr × Obj)} (N : News h₀ L h (x :: a :: b :: c :: d :: e :: f :: r)) : News h₀ L h (x :: e :: f :: a :: b :: r) := fun p hp => N p (by
  refine ZSub.go ?_ p hp; wtm_at "zsub")
theorem offI_of_lt {I : Addr} {it : Obj} : ∀ {l : List (Addr × Obj)}, (∀ p ∈ l, p.1 < I) → OffI I it l
  | [], _ => trivial
  | p :: r, h => ⟨.inl (Nat.ne_of_lt (h p (.head _))), offI_of_lt fun q hq => h q (.tail _ hq)⟩
theorem ints_snoc {i : Int} {t : Tok} : ∀ {vs : List Value} {ns : List Int}, IntsAre vs ns → IntsAre (vs ++ [.int i t]) (ns ++ [i])
  | _, _, .nil => .cons i t .nil
  | _, _, .cons j u h => .cons j u (ints_snoc h)
theorem ints_rev {vs : List Value} {ns : List Int} (h : IntsAre vs ns) : IntsAre vs.reverse ns.reverse := by
  induction h with
  | nil => exact .nil
  | cons i t _ ih => rw [List.reverse_cons, List.reverse_cons]; exact ints_snoc ih
theorem divs_snoc (n : Nat) (b : Int) (xs : List Int) (y : Int) : (divs n b (xs ++ [y]) 0).1 = (divs n b xs 0).1 ++ [((divs n b xs 0).2 * 2 ^ n + y) / b] ∧ (divs n b (xs ++ [y]) 0).2 = ((divs n b xs 0).2 * 2 ^ n + y) % b := by
  rw [divs_app]; exact ⟨rfl, rfl⟩
def TabsOk (ps : Array Value) (c : Addr) (o : Obj) (qs : Array Value) (d : Addr) (u : Obj) : Prop :=
  TabOk 30 32 4 (Str.ofString "_int2digits.<locals>.inner") ps c o ∧ TabOk 37 47 4 (Str.ofString "_digits2int.<locals>.inner") qs d u ∧ @Ne Nat c 37 ∧ @Ne Nat d 30
/-- a code object is the elder one or lies above all that stood -/
def NewAt (rest : List (Addr × Obj)) (c c' : Addr) (ps : Array Value) : Prop := (c' = c ∧ ps ≠ #[]) ∨ ∀ p ∈ rest, p.1 < c'
def TabsNew (rest : List (Addr × Obj)) (ps : Array Value) (c : Addr) (qs : Array Value) (d : Addr) (ps' : Array Value) (c' : Addr) (o' : Obj) (qs' : Array Value) (d' : Addr) (u' : Obj) : Prop :=
  TabsOk ps' c' o' qs' d' u' ∧ ps' ≠ #[] ∧ qs' ≠ #[] ∧ NewAt rest c c' ps ∧ NewAt rest d d' qs
def CallsPairT (w : World) (f : Addr) (vs : List Value) (dep : Nat) (x y : Int) : Prop :=
  ∀ (p : Program) (loose : List Str) (mean : ExcName → Option Value) (mg mb : Str → Option Value) (dp un : Nat) (gd : Option (List Code)) (cn : Str) (cs : Scope) (a : Addr) (ccd : Value) (cl : List (Str × Addr)) (outer : List Env) (A₀ : Around) (base h₀ : Heap) (L : Addr) (m : Str → Option Value) (rest : List (Addr × Obj)) (s : Shared)
    (Q E : Value → Shared → Prop) (ps : Array Value) (c : Addr) (o : Obj) (qs : Array Value) (d : Addr) (u : Obj),
    Below A₀ base outer h₀ → Fr h₀ L s.heap m → (hd.heap_39 w.params).In h₀ → News h₀ L s.heap ((30, tabObj ps) :: (c, o) :: (37, tabObj qs) :: (d, u) :: rest) → Top p loose mean mg mb h₀ → cs.kind = .function → CodeHd h₀ 34 30 → CodeHd h₀ 41 37 →
    TabsOk ps c o qs d u → (∀ p ∈ rest, p.1 ≠ 30) → (∀ p ∈ rest, p.1 ≠ 37) → dp + dep < recursionLimit → un + 8 * dep < cLine →
    (∀ q t1 t2 ps' c' o' qs' d' u' h' tk', Fr h₀ L h' m → News h₀ L h' ((q, tup2 (.int x t1) (.int y t2)) :: (30, tabObj ps') :: (c', o') :: (37, tabObj qs') :: (d', u') :: rest) → TabsNew rest ps c qs d ps' c' o' qs' d' u' →
      (∀ p ∈ (30, tabObj ps') :: (c', o') :: (37, tabObj qs') :: (d', u') :: rest, p.1 < q) → Q (.ref q) { s with heap := h', toks := tk' }) →
    wpAny (model PySem.Challenge.rw_wb0065_01.row.prog w) (ktrTop dp un gd cn cs L a ccd cl outer) (call (.ref f) vs) Q E s
section
variable {prog : Program} {w : World} {A : Around} {E : Value → Shared → Prop} {s : Shared} {env : Env} {h₀ : Heap} {x : Str} {body : List Stmt} {Q : Flow → Shared → Prop}
theorem unrPost_mono {L : Addr} {s₁ : Shared} {I : Addr} {it : Obj} {R R' : (Str → Option Value) → List (Addr × Obj) → Prop} (hR : ∀ m n, R m n → R' m n) {f : Flow} {s₂ : Shared} (h : UnrPost h₀ L s₁ I it R Q f s₂) : UnrPost h₀ L s₁ I it R' Q f s₂ := by
  cases f with
  | ret v => exact h
  | brk => exact h
  | next =>
    refine frz fun Gz fz => ?_
    obtain ⟨h', tk, m', news', e, F, N, hoff, r⟩ := h
    refine fz ?_
    clear fz Gz
    exact ⟨h', tk, m', news', e, F, N, hoff, hR _ _ r⟩
  | cont =>
    refine frz fun Gz fz => ?_
    obtain ⟨h', tk, m', news', e, F, N, hoff, r⟩ := h
    refine fz ?_
    clear fz Gz
    exact ⟨h', tk, m', news', e, F, N, hoff, hR _ _ r⟩
/-- a loop down a list, by what holds with these still to come -/
theorem rev_inv {I : Addr} {lp : Addr × Obj} (J : List Value → (Str → Option Value) → List (Addr × Obj) → Prop)
    (turn : ∀ v r m news (it : Obj) h tk, J (v :: r) m news → it.cls = .type "list_reverseiterator" → Fr h₀ env.locals h (fun y => if y = x then some v else m y) → News h₀ env.locals h ((I, it) :: news) →
      wpAny (model prog w) A (execs body env) (UnrPost h₀ env.locals { s with heap := h, toks := tk } I it (fun m' n' => lp ∈ n' ∧ J r m' n') Q) E { s with heap := h, toks := tk })
    (done : ∀ m news h tk, J [] m news → Fr h₀ env.locals h m → News h₀ env.locals h news → Q .next { s with heap := h, toks := tk }) :
    ∀ (vs : List Value) (m : Str → Option Value) (news : List (Addr × Obj)), J vs m news → RevRest prog w A E h₀ env x body Q s I lp vs m news
  | [], m, news, hJ => fun h tk F N => done m news h tk hJ F N
  | v :: r, m, news, hJ => fun it h tk hit F N => wpAny_mono (turn v r m news it h tk hJ hit F N) (fun f s₂ hp => unrPost_mono (fun m' n' hr => ⟨hr.1, rev_inv J turn done r m' n' hr.2⟩) hp) fun _ _ e => e
end
local macro_rules | `(tactic| ktr_unf) => `(tactic| repeat ((wtm_at "zb4"); (fail_if_success any_goals with_reducible (first | refine zs7 ?_ | refine zs12 ?_ | refine zs13 ?_ | refine zs9 ?_ | refine zs10 ?_ | refine zs11 ?_ | refine zs14 ?_ | refine zs15 ?_ | refine zs16 ?_ | refine zs8 ?_ | refine zs17 ?_ | refine zs18 ?_)); (wtm_at "zw2")))
local macro_rules | `(tactic| walk_at "execs cons") => `(tactic| wtm_at "zfz")
local macro_rules | `(tactic| walk_at "eval Name") => `(tactic| wtm_at "zy1")
set_option maxRecDepth 100000 in
set_option maxHeartbeats 8000000 in
theorem ct_pos (w : World) (a b : Int) (ta tb : Tok) (ha : 0 ≤ a) (hb : 0 < b) (hbb : Builtin.Int.intBits b ≤ 40000) (hab : Builtin.Int.intBits a ≤ 80000) (hna : (Builtin.Int.intBits a + Builtin.Int.intBits b - 1) / Builtin.Int.intBits b ≤ 20) : CallsPairT w 49 [.int a ta, .int b tb] 52 (a / b) (a % b) := by
  unfold CallsPairT
  k_fill
  intro p loose mean mg mb dp un gd cn cs ca ccd cl outer A₀ base h₀ L m rest s Q E ps c o qs d u B F X N T hk hC1 hC2 hT hr30 hr37 hd' hu hret
  obtain ⟨bs1, bs2, bs3⟩ := bits_spec hb
  refine wpAny_call ?_
  k_dflt (refine' code_def (binds := [(Str.ofString "a", .int a ta), (Str.ofString "b", .int b tb)]) ?k1 ?k2 ?k3 ?k4 ?k5 ?kA ?kF ?kK ?k6 ?k7 ?k8 ?k9 ?kB ?_ ?c2 ?c3 ?c4 ?c5; (case kA => exact rfl); (case kF => exact rfl); (case kK => exact hk); (case k1 => exact B); (case k2 => exact F); (case k3 => exact X); (case k4 => exact N); (case k5 => exact T); (case k6 => k_is); (case k7 => k_is); (case k8 => show dp < recursionLimit; omega); (case k9 => exact BindsTo.of_eq rfl); (case c5 => decide); (case kB => exact locs rfl); (case c2 => exact rfl); (case c3 => exact rfl); (case c4 => exact rfl); intro g L' h' FG F' N' B' X' T')
  try dsimp only
  with_reducible refine wpAny_noRaise ?_
  clear B F X N T
  refine frz fun Gz fz => ?_
  obtain ⟨hT1, hT2, hT3, hT4⟩ := hT
  refine fz ?_
  clear fz Gz
  ktr_unf
  rename Fr _ _ _ _ => F9
  rename News _ _ _ _ => N9
  have hC1' := CodeHd.keeps hC1 FG.keep
  have hC2' := CodeHd.keeps hC2 FG.keep
  generalize hnb : Builtin.Int.intBits b = n at *
  generalize hnd : (Builtin.Int.intBits a + n - 1) / n = nd at *
  k_dflt (show wpAny _ (ktrTop (dp + 1) (un + 3) gd (Str.ofString "_divmod_pos") _ L' 49 _ [] (envX cn cs L ca ccd cl :: outer)) _ _ _ _)
  with_reducible refine' ct_i2d w a n ta _ p loose mean mg mb _ _ _ _ _ _ _ _ _ _ base g L' _ _ _ _ _ ps c o bs1 hbb ha hab ?na ?r30 hT1 B' F9 X' N9 T' rfl hC1' ?h1 ?h2 ?_
  case na => rw [hnd]; exact hna
  case r30 => exact List.forall_mem_cons.mpr ⟨by k_ne, List.forall_mem_cons.mpr ⟨neN hT4, hr30⟩⟩
  case h1 => omega
  case h2 => omega
  clear F9 N9
  intro ad vs c' oc h' tk' F' N' hi hoc hcc' hlt hne
  rw [hnd] at hi
  ktr_unf
  rename Fr _ _ _ _ => F9
  rename News _ _ _ _ => N9
  k_dflt (refine' newList_K F9 N9 ?_)
  clear F9 N9
  intro qd h' F' N' l1
  k_lt l1
  ktr_unf
  rename Fr _ _ _ _ => F9
  rename News _ _ _ _ => N9
  refine frz fun Gz fz => ?_
  obtain ⟨M1, tkn, ⟨hM1, hM2, hM3, hM4, t0, hM5⟩, F8⟩ : ∃ M1 tkn, (M1 (Str.ofString "b") = some (.int b tb) ∧ M1 (Str.ofString "n") = some (.int (n : Int) tkn) ∧ M1 (Str.ofString "q_digits") = some (.ref qd) ∧ M1 (Str.ofString "a_digits") = some (.ref ad) ∧ ∃ t0, M1 (Str.ofString "r") = some (.int 0 t0)) ∧ Fr g L' _ M1 := ⟨_, _, ⟨rfl, rfl, rfl, rfl, _, rfl⟩, F9⟩
  refine fz ?_
  clear fz Gz
  clear F9
  with_unfolding_all refine' For_invV g ?hx ?hp ?hh ?hs PassesOwn.never
  case hx => rfl
  case hp => rfl
  case hs => intro _; rfl
  ktr_unf
  with_reducible refine krv_reversed (vs := vs) F8 N9 ?il (fun I h' F' N' l2 => ?_)
  case il => exact PySem.IsL.isList (n := 0) (N9 _ (List.Mem.tail _ (List.Mem.head _))).1
  ktr_unf
  have hLq : AllLt qd rest := l1.2.2.2.2.2
  have hoffI := offI_of_lt (it := revObj ad ((vs.length : Int) - 1)) l2
  k_lt l2
  have hdr : ∀ x ∈ (digs n nd a).reverse, 0 ≤ x ∧ x < 2 ^ n := fun x hx => digs_range n nd a x (List.mem_reverse.mp hx)
  k_dflt (refine' iter_revUnr rfl F' N' hoffI (List.Mem.tail _ (List.Mem.head _)) rfl rfl ?_)
  clear F' N' F8 N9 hoffI
  refine rev_inv (J := fun rem m news => Ex6 fun (xs : List Int) (ys : List Int) (qvs : List Value) (ep : Nat) (tr : Tok) (qv : Option Value) => ∃ (av : Option Value), An4 (IntsAre rem ys) (xs ++ ys = (digs n nd a).reverse) (IntsAre qvs (divs n b xs 0).1) ((m = fun y => if y = Str.ofString "r" then some (.int (divs n b xs 0).2 tr) else if y = Str.ofString "q_digit" then qv else if y = Str.ofString "a_digit" then av else M1 y) ∧ news = (qd, W.listOf qvs.toArray ep) :: (ad, W.listOf vs.toArray 0) :: (30, tabObj #[rawInt 32, rawInt 4, .ref c']) :: (c', oc) :: (37, tabObj qs) :: (d, u) :: rest)) ?turn ?done _ _ _ ?start
  case start =>
    refine ⟨[], _, [], 0, t0, M1 (Str.ofString "q_digit"), M1 (Str.ofString "a_digit"), ints_rev hi, rfl, .nil, ?_, rfl⟩
    funext y
    by_cases h1 : y = Str.ofString "r"
    · subst h1; simp only [if_pos]; exact hM5
    · by_cases h2 : y = Str.ofString "q_digit"
      · subst h2; simp only [if_neg h1, if_pos]
      · by_cases h3 : y = Str.ofString "a_digit"
        · subst h3; simp only [if_neg h1, if_neg h2, if_pos]
        · simp only [if_neg h1, if_neg h2, if_neg h3]
  case turn =>
    intro v rm m9 news9 it h9 tk9 z9
    refine frz fun Gz fz => ?_
    obtain ⟨xs, ys, qvs, ep, tr, qv, av, hys, hxy, hqv, rfl, rfl⟩ := z9
    refine fz ?_
    clear fz Gz
    intro hit F' N'
    change Fr g L' _ _ at F'
    change News g L' _ _ at N'
    cases hys with
    | cons y0 ty hys =>
      rename_i ys
      have hy := hdr y0 (by rw [← hxy]; simp)
      have hxr : ∀ x ∈ xs, 0 ≤ x ∧ x < 2 ^ n := fun x hx => hdr x (by rw [← hxy]; simp [hx])
      refine frz fun Gz fz => ?_
      obtain ⟨s1, s2, s3, s4⟩ := divs_spec n hb xs 0 (Int.le_refl _) hb hxr
      refine fz ?_
      clear fz Gz
      have e12 := divs_snoc n b xs y0
      generalize hR : (divs n b xs 0).2 = R at *
      generalize hQd : (divs n b xs 0).1 = Qd at *
      have hn0 := p2pos n
      have hpre : Pre2 (R * 2 ^ n + y0) b n := by
        have h1 := Int.mul_nonneg s2 (Int.le_of_lt hn0)
        have h2 : R * 2 ^ n ≤ (b - 1) * 2 ^ n := Int.mul_le_mul_of_nonneg_right (by omega) (by omega)
        rw [Int.sub_mul, Int.one_mul] at h2
        exact ⟨bs1, hbb, by omega, bs2, bs3, by omega⟩
      ktr_unf
      with_reducible refine op_shl (R * (2:Int) ^ n) (by omega) (sz_of (bits_le s2 (Int.lt_trans s3 bs3)) (by omega)) (by rw [Int.toNat_natCast]) (fun t tk => ?_)
      ktr_unf
      with_reducible refine op_add _ rfl (fun t tk => ?_)
      ktr_unf
      with_reducible refine' CallsPair.use (ct_2n1n w _ _ _ _ _ _ hpre) ?hA B' F' X' N' T' ?hk ?h1 ?h2 ?_
      case hA => exact rfl
      case hk => exact rfl
      case h1 => (show dp + 1 + _ < recursionLimit; omega)
      case h2 => (show un + 3 + 8 * _ < cLine; omega)
      clear F' N'
      intro q t1 t2 h8 tk8 F' N' l3
      k_lt l3
      ktr_unf
      rename Fr _ _ _ _ => F9
      rename News _ _ _ _ => N9
      k_dflt (refine' op_append F9 N9 ?U ?sz ?_)
      case U => k_upd
      case sz =>
        have h1 : Qd.length = xs.length := by rw [← hQd]; exact divs_len _ _ _ _
        have h2 : xs.length ≤ (digs n nd a).reverse.length := by rw [← hxy, List.length_append]; omega
        rw [List.length_reverse, digs_len] at h2
        rw [show qvs.length = Qd.length from hqv.length]; omega
      clear F9 N9
      intro h9 F9 N9
      ktr_unf
      have F10 : Fr g L' _ (fun y => if y = Str.ofString "r" then some (.int (divs n b (xs ++ [y0]) 0).2 t2) else if y = Str.ofString "q_digit" then some (.int ((R * 2 ^ n + y0) / b) t1) else if y = Str.ofString "a_digit" then some (.int y0 ty) else M1 y) := Fr.to F9 (fun y => by
        rw [e12.2]
        by_cases h1 : y = Str.ofString "r"
        · simp only [if_pos h1]
        · by_cases h2 : y = Str.ofString "q_digit"
          · simp only [if_neg h1, if_pos h2]
          · by_cases h3 : y = Str.ofString "a_digit"
            · simp only [if_neg h1, if_neg h2, if_pos h3]
            · simp only [if_neg h1, if_neg h2, if_neg h3])
      k_dflt (show UnrEnd _ _ _ _ _ _ _)
      k_dflt (refine' UnrEnd.intro F10 N9 ((qd, W.listOf (qvs ++ [Value.int ((R * 2 ^ n + y0) / b) t1]).toArray (ep + 1)) :: (ad, W.listOf vs.toArray 0) :: (30, tabObj #[rawInt 32, rawInt 4, Value.ref c']) :: (c', oc) :: (37, tabObj qs) :: (d, u) :: rest) (fun p hp => List.mem_cons_of_mem _ hp) ?off ⟨List.Mem.tail _ (List.Mem.head _), xs ++ [y0], ys, qvs ++ [Value.int ((R * 2 ^ n + y0) / b) t1], ep + 1, t2, some (Value.int ((R * 2 ^ n + y0) / b) t1), some (Value.int y0 ty), hys, ?e1, ?e2, rfl, rfl⟩)
      case off =>
        refine List.forall_mem_cons.mpr ⟨by k_ne, List.forall_mem_cons.mpr ⟨by k_ne, List.forall_mem_cons.mpr ⟨by k_ne, List.forall_mem_cons.mpr ⟨by k_ne, List.forall_mem_cons.mpr ⟨by k_ne, List.forall_mem_cons.mpr ⟨by k_ne, ?_⟩⟩⟩⟩⟩⟩
        exact ne_of_allLt hLq (by omega)
      case e1 => rw [List.append_assoc]; exact hxy
      case e2 => rw [e12.1]; exact ints_snoc hqv
  case done =>
    intro m9 news9 h9 tk9 z9
    refine frz fun Gz fz => ?_
    obtain ⟨xs, ys, qvs, ep, tr, qv, av, hys, hxy, hqv, rfl, rfl⟩ := z9
    refine fz ?_
    clear fz Gz
    intro F' N'
    change Fr g L' _ _ at F'
    change News g L' _ _ at N'
    cases hys
    rw [List.append_nil] at hxy
    subst hxy
    have hqs : (divs n b (digs n nd a).reverse 0).1.length = nd := by rw [divs_len, List.length_reverse, digs_len]
    refine frz fun Gz fz => ?_
    obtain ⟨s1, s2, s3, s4⟩ := divs_spec n hb (digs n nd a).reverse 0 (Int.le_refl _) hb hdr
    refine fz ?_
    clear fz Gz
    ktr_unf
    rename Fr _ _ _ _ => F9
    rename News _ _ _ _ => N9
    k_dflt (refine' op_reverse F9 N9 ?U ?sz ?_)
    case U => k_upd
    case sz => rw [hqv.length, hqs]; omega
    clear F9 N9
    intro h9 F9 N9
    ktr_unf
    have h37a : @LT.lt Nat _ 37 ad := hlt _ (.tail _ (.tail _ (.head _)))
    have hc37 : @Ne Nat c' 37 := by
      rcases hcc' with ⟨rfl, _⟩ | ⟨h9, _⟩
      · exact hT3
      · exact Nat.ne_of_gt (h9 _ (.head _))
    have N8 : News g L' _ ((37, tabObj qs) :: (d, u) :: (qd, W.listOf qvs.reverse.toArray ep) :: (ad, W.listOf vs.toArray 0) :: (30, tabObj #[rawInt 32, rawInt 4, .ref c']) :: (c', oc) :: rest) := fun p hp => N9 p (by
      refine ZSub.go ?_ p hp; wtm_at "zsub")
    clear N9
    k_dflt (show wpAny _ (ktrTop (dp + 1) (un + 3) gd (Str.ofString "_divmod_pos") _ L' 49 _ [] (envX cn cs L ca ccd cl :: outer)) _ _ _ _)
    with_reducible refine' ct_d2i w qd n tkn ep qvs.reverse (divs n b (digs n nd a).reverse 0).1.reverse p loose mean mg mb _ _ _ _ _ _ _ _ _ _ base g L' _ _ _ _ _ qs d u hbb (ints_rev hqv) ?dg ?len ?r37 hT2 B' F9 X' N8 (List.Mem.head _) T' rfl hC2' ?h1 ?h2 ?_
    case dg => exact fun x hx => s4 x (List.mem_reverse.mp hx)
    case len => rw [List.length_reverse, hqs]; exact hna
    case r37 => exact List.forall_mem_cons.mpr ⟨by k_ne, List.forall_mem_cons.mpr ⟨by k_ne, List.forall_mem_cons.mpr ⟨by k_ne, List.forall_mem_cons.mpr ⟨neN hc37, hr37⟩⟩⟩⟩
    case h1 => omega
    case h2 => omega
    clear F9 N8
    intro tq d' ud h' tk' F' N' hud hdd'
    ktr_unf
    rename Fr _ _ _ _ => F9
    rename News _ _ _ _ => N9
    rename _ ∧ _ => l9
    have hval : numOf n (divs n b (digs n nd a).reverse 0).1.reverse = a / b ∧ (divs n b (digs n nd a).reverse 0).2 = a % b := by
      rw [List.reverse_reverse, numOf_digs n nd a ha (by rw [← hnd, ← hnb]; exact digits_fit (by omega) ha), Int.zero_mul, Int.zero_add] at s1
      obtain ⟨v1, v2⟩ := divmod_unique s1 s2 s3
      exact ⟨v1.symm, v2.symm⟩
    rw [hval.1, hval.2] at N9
    show LeaveK _ _ _ _ _ _ _
    with_reducible refine leaveK_ F9 N9 ?_
    intro kF kN
    refine hret _ _ _ _ c' oc _ d' ud _ _ kF (news_pos kN) ⟨⟨.inr ⟨rfl, hoc⟩, .inr ⟨rfl, hud⟩, hc37, ?_⟩, by simp, by simp, ?_, ?_⟩ ?_
    · rcases hdd' with ⟨rfl, _⟩ | ⟨h9, _⟩
      · exact hT4
      · exact Nat.ne_of_gt (h9 _ (.tail _ (.tail _ (.head _))))
    · exact hcc'.imp id fun h => fun q hq => h.1 q (.tail _ (.tail _ hq))
    · exact hdd'.imp id fun h => fun q hq => h.1 q (.tail _ (.tail _ (.tail _ (.tail _ hq))))
    · exact List.forall_mem_cons.mpr ⟨l9.2.2.2.2.1, List.forall_mem_cons.mpr ⟨l9.2.2.2.2.2.1, List.forall_mem_cons.mpr ⟨l9.1, List.forall_mem_cons.mpr ⟨l9.2.1, ktn_ltOf l9.2.2.2.2.2.2⟩⟩⟩⟩
end
section
open PySem PySem.W PyProof.Rows PySem.Calls
local macro_rules | `(tactic| ktr_unf) => `(tactic| repeat ((wtm_at "zb4"); (fail_if_success any_goals with_reducible refine zs19 ?_); (wtm_at "zw2")))
local macro_rules | `(tactic| walk_at "execs cons") => `(tactic| wtm_at "zfz")
theorem CallsPairT.use {w : World} {f : Addr} {vs : List Value} {dep : Nat} {x y : Int} {A : Around} {p : Program} {loose : List Str} {mean : ExcName → Option Value} {mg mb : Str → Option Value} {dp un : Nat} {gd : Option (List Code)} {cn : Str} {cs : Scope} {a : Addr} {ccd : Value} {cl : List (Str × Addr)} {outer : List Env} {A₀ : Around} {base h₀ : Heap} {L : Addr} {m : Str → Option Value} {rest : List (Addr × Obj)} {s : Shared}
    {Q E : Value → Shared → Prop} {ps : Array Value} {c : Addr} {o : Obj} {qs : Array Value} {d : Addr} {u : Obj} (C : CallsPairT w f vs dep x y) (hA : A = ktrTop dp un gd cn cs L a ccd cl outer)
    (B : Below A₀ base outer h₀) (F : Fr h₀ L s.heap m) (X : (hd.heap_39 w.params).In h₀) (N : News h₀ L s.heap ((30, tabObj ps) :: (c, o) :: (37, tabObj qs) :: (d, u) :: rest)) (T : Top p loose mean mg mb h₀) (hk : cs.kind = .function) (hC1 : CodeHd h₀ 34 30) (hC2 : CodeHd h₀ 41 37)
    (hT : TabsOk ps c o qs d u) (hr30 : ∀ p ∈ rest, p.1 ≠ 30) (hr37 : ∀ p ∈ rest, p.1 ≠ 37) (h1 : dp + dep < recursionLimit) (h2 : un + 8 * dep < cLine)
    (h : ∀ q t1 t2 ps' c' o' qs' d' u' h' tk', Fr h₀ L h' m → News h₀ L h' ((q, tup2 (.int x t1) (.int y t2)) :: (30, tabObj ps') :: (c', o') :: (37, tabObj qs') :: (d', u') :: rest) → TabsNew rest ps c qs d ps' c' o' qs' d' u' →
      (∀ p ∈ (30, tabObj ps') :: (c', o') :: (37, tabObj qs') :: (d', u') :: rest, p.1 < q) → Q (.ref q) { s with heap := h', toks := tk' }) :
    wpAny (model PySem.Challenge.rw_wb0065_01.row.prog w) A (call (.ref f) vs) Q E s := by
  subst hA
  exact C p loose mean mg mb dp un gd cn cs a ccd cl outer A₀ base h₀ L m rest s Q E ps c o qs d u B F X N T hk hC1 hC2 hT hr30 hr37 h1 h2 h
section
variable {prog : Program} {w : World} {A : Around} {E : Value → Shared → Prop} {s : Shared} {a : Int} {t : Tok} {Q : Value → Shared → Prop}
theorem op_inv (r : Int) (hr : -a - 1 = r) (h : ∀ t tk, Q (.int r t) { s with toks := tk }) : wpAny (model prog w) A (unaryOp .Invert (.int a t)) Q E s := by
  with_reducible exact invert_int (by rw [show Builtin.bitNot a = -a - 1 from rfl, hr]; exact h _ _)
theorem op_neg (r : Int) (hr : -a = r) (h : ∀ t tk, Q (.int r t) { s with toks := tk }) : wpAny (model prog w) A (unaryOp .USub (.int a t)) Q E s := by
  with_reducible exact PySem.P.neg_int (by rw [hr]; exact h _ _)
end
/-- what the division bears: sizes -/
def Fit (a b : Int) : Prop := Builtin.Int.intBits b ≤ 40000 ∧ Builtin.Int.intBits a ≤ 80000 ∧ Builtin.Int.intBits a ≤ 18 * Builtin.Int.intBits b
theorem Fit.bb {a b : Int} (h : Fit a b) : Builtin.Int.intBits b ≤ 40000 := And.left h
theorem Fit.ab {a b : Int} (h : Fit a b) : Builtin.Int.intBits a ≤ 80000 := And.left (And.right h)
theorem Fit.nd {a b : Int} (h : Fit a b) (hb : 0 < b) : (Builtin.Int.intBits a + Builtin.Int.intBits b - 1) / Builtin.Int.intBits b ≤ 20 := by
  obtain ⟨h1, h2, h3⟩ := h
  have := (bits_spec hb).1
  refine Nat.div_le_of_le_mul ?_
  rw [Nat.mul_comm]; omega
theorem Fit.inv {a b : Int} (h : Fit a b) (ha : a < 0) : Fit (-a - 1) b := by
  obtain ⟨h1, h2, h3⟩ := h
  have h4 : Builtin.Int.intBits (-a - 1) ≤ Builtin.Int.intBits a := intBits_le_of_natAbs (y := a) (by omega) (Nat.le_refl _)
  exact ⟨h1, by omega, by omega⟩
theorem bits_neg (a : Int) : Builtin.Int.intBits (-a) = Builtin.Int.intBits a := by
  unfold Builtin.Int.intBits
  by_cases h : a = 0
  · simp [h]
  · rw [if_neg (by simpa using h), if_neg (by simpa using h), Int.natAbs_neg]
theorem Fit.neg {a b : Int} (h : Fit a b) : Fit (-a) (-b) := by
  unfold Fit at *
  rw [bits_neg, bits_neg]; exact h
set_option maxRecDepth 100000 in
set_option maxHeartbeats 8000000 in
theorem dm_nonneg (w : World) (a b : Int) (ta tb : Tok) (ha : 0 ≤ a) (hb : 0 < b) (hf : Fit a b) : CallsPairT w 56 [.int a ta, .int b tb] 53 (a / b) (a % b) := by
  unfold CallsPairT
  k_fill
  intro p loose mean mg mb dp un gd cn cs ca ccd cl outer A₀ base h₀ L m rest s Q E ps c o qs d u B F X N T hk hC1 hC2 hT hr30 hr37 hd' hu hret
  refine wpAny_call ?_
  k_dflt (refine' code_def (binds := [(Str.ofString "a", .int a ta), (Str.ofString "b", .int b tb)]) ?k1 ?k2 ?k3 ?k4 ?k5 ?kA ?kF ?kK ?k6 ?k7 ?k8 ?k9 ?kB ?_ ?c2 ?c3 ?c4 ?c5; (case kA => exact rfl); (case kF => exact rfl); (case kK => exact hk); (case k1 => exact B); (case k2 => exact F); (case k3 => exact X); (case k4 => exact N); (case k5 => exact T); (case k6 => k_is); (case k7 => k_is); (case k8 => show dp < recursionLimit; omega); (case k9 => exact BindsTo.of_eq rfl); (case c5 => decide); (case kB => exact locs rfl); (case c2 => exact rfl); (case c3 => exact rfl); (case c4 => exact rfl); intro g L' h' FG F' N' B' X' T')
  try dsimp only
  with_reducible refine wpAny_noRaise ?_
  clear B F X N T
  ktr_unf
  with_reducible refine ite_neg (by simp; omega) ?_
  ktr_unf
  with_reducible refine ite_neg (by simp; omega) ?_
  ktr_unf
  with_reducible refine ite_neg (by simp; omega) ?_
  ktr_unf
  rename Fr _ _ _ _ => F9
  rename News _ _ _ _ => N9
  with_reducible refine' CallsPairT.use (ct_pos w a b _ _ ha hb hf.bb hf.ab (hf.nd hb)) ?hA B' F9 X' N9 T' ?hk (CodeHd.keeps hC1 FG.keep) (CodeHd.keeps hC2 FG.keep) hT hr30 hr37 ?h1 ?h2 ?_
  case hA => exact rfl
  case hk => exact rfl
  case h1 => (show dp + 1 + _ < recursionLimit; omega)
  case h2 => (show un + 3 + 8 * _ < cLine; omega)
  clear F9 N9
  intro q t1 t2 ps' c' o' qs' d' u' h' tk' F9 N9 hN hlt
  ktr_unf
  show LeaveK _ _ _ _ _ _ _
  with_reducible refine leaveK_ F9 N9 ?_
  intro kF kN
  exact hret _ _ _ _ _ _ _ _ _ _ _ kF kN hN hlt
set_option maxRecDepth 100000 in
set_option maxHeartbeats 8000000 in
theorem dm_neg (w : World) (a b : Int) (ta tb : Tok) (ha : a < 0) (hb : 0 < b) (hf : Fit a b) : CallsPairT w 56 [.int a ta, .int b tb] 54 (a / b) (a % b) := by
  unfold CallsPairT
  k_fill
  intro p loose mean mg mb dp un gd cn cs ca ccd cl outer A₀ base h₀ L m rest s Q E ps c o qs d u B F X N T hk hC1 hC2 hT hr30 hr37 hd' hu hret
  refine wpAny_call ?_
  k_dflt (refine' code_def (binds := [(Str.ofString "a", .int a ta), (Str.ofString "b", .int b tb)]) ?k1 ?k2 ?k3 ?k4 ?k5 ?kA ?kF ?kK ?k6 ?k7 ?k8 ?k9 ?kB ?_ ?c2 ?c3 ?c4 ?c5; (case kA => exact rfl); (case kF => exact rfl); (case kK => exact hk); (case k1 => exact B); (case k2 => exact F); (case k3 => exact X); (case k4 => exact N); (case k5 => exact T); (case k6 => k_is); (case k7 => k_is); (case k8 => show dp < recursionLimit; omega); (case k9 => exact BindsTo.of_eq rfl); (case c5 => decide); (case kB => exact locs rfl); (case c2 => exact rfl); (case c3 => exact rfl); (case c4 => exact rfl); intro g L' h' FG F' N' B' X' T')
  try dsimp only
  with_reducible refine wpAny_noRaise ?_
  clear B F X N T
  ktr_unf
  with_reducible refine ite_neg (by simp; omega) ?_
  ktr_unf
  with_reducible refine ite_neg (by simp; omega) ?_
  ktr_unf
  with_reducible refine ite_pos (by simpa using ha) ?_
  ktr_unf
  with_reducible refine op_inv (-a - 1) rfl (fun t tk => ?_)
  ktr_unf
  rename Fr _ _ _ _ => F9
  rename News _ _ _ _ => N9
  with_reducible refine' CallsPairT.use (dm_nonneg w (-a - 1) b _ _ (by omega) hb (hf.inv ha)) ?hA B' F9 X' N9 T' ?hk (CodeHd.keeps hC1 FG.keep) (CodeHd.keeps hC2 FG.keep) hT hr30 hr37 ?h1 ?h2 ?_
  case hA => exact rfl
  case hk => exact rfl
  case h1 => (show dp + 1 + _ < recursionLimit; omega)
  case h2 => (show un + 3 + 8 * _ < cLine; omega)
  clear F9 N9
  intro q t1 t2 ps' c' o' qs' d' u' h' tk' F9 N9 hN hlt
  obtain ⟨v1, v2⟩ := kbt_below a hb
  ktr_unf
  with_reducible refine op_inv (a / b) (by omega) (fun t tk => ?_)
  ktr_unf
  with_reducible refine op_inv _ rfl (fun t tk => ?_)
  ktr_unf
  with_reducible refine op_add (a % b) (by omega) (fun t tk => ?_)
  ktr_unf
  rename Fr _ _ _ _ => F9
  rename News _ _ _ _ => N9
  rename _ ∧ _ ∧ _ ∧ _ ∧ _ ∧ _ => l9
  with_reducible refine leaveK_ F9 N9 ?_
  intro kF kN
  exact hret _ _ _ _ _ _ _ _ _ _ _ kF (news_skip kN) hN (List.forall_mem_cons.mpr ⟨l9.2.1, List.forall_mem_cons.mpr ⟨l9.2.2.1, List.forall_mem_cons.mpr ⟨l9.2.2.2.1, List.forall_mem_cons.mpr ⟨l9.2.2.2.2.1, ktn_ltOf l9.2.2.2.2.2⟩⟩⟩⟩)
theorem dm_pos (w : World) (a b : Int) (ta tb : Tok) (hb : 0 < b) (hf : Fit a b) : CallsPairT w 56 [.int a ta, .int b tb] 54 (a / b) (a % b) := by
  by_cases ha : 0 ≤ a
  · have h := dm_nonneg w a b ta tb ha hb hf
    unfold CallsPairT at h ⊢
    intro p loose mean mg mb dp un gd cn cs ca ccd cl outer A₀ base h₀ L m rest s Q E ps c o qs d u B F X N T hk hC1 hC2 hT hr30 hr37 hd' hu hret
    exact h p loose mean mg mb dp un gd cn cs ca ccd cl outer A₀ base h₀ L m rest s Q E ps c o qs d u B F X N T hk hC1 hC2 hT hr30 hr37 (by omega) (by omega) hret
  · exact dm_neg w a b ta tb (by omega) hb hf
set_option maxRecDepth 100000 in
set_option maxHeartbeats 8000000 in
/-- a divisor below nought: both signs turned, the rest turned back -/
theorem dm_negb (w : World) (a b : Int) (ta tb : Tok) (hb : b < 0) (hf : Fit a b) : CallsPairT w 56 [.int a ta, .int b tb] 55 (-a / -b) (-(-a % -b)) := by
  unfold CallsPairT
  k_fill
  intro p loose mean mg mb dp un gd cn cs ca ccd cl outer A₀ base h₀ L m rest s Q E ps c o qs d u B F X N T hk hC1 hC2 hT hr30 hr37 hd' hu hret
  refine wpAny_call ?_
  k_dflt (refine' code_def (binds := [(Str.ofString "a", .int a ta), (Str.ofString "b", .int b tb)]) ?k1 ?k2 ?k3 ?k4 ?k5 ?kA ?kF ?kK ?k6 ?k7 ?k8 ?k9 ?kB ?_ ?c2 ?c3 ?c4 ?c5; (case kA => exact rfl); (case kF => exact rfl); (case kK => exact hk); (case k1 => exact B); (case k2 => exact F); (case k3 => exact X); (case k4 => exact N); (case k5 => exact T); (case k6 => k_is); (case k7 => k_is); (case k8 => show dp < recursionLimit; omega); (case k9 => exact BindsTo.of_eq rfl); (case c5 => decide); (case kB => exact locs rfl); (case c2 => exact rfl); (case c3 => exact rfl); (case c4 => exact rfl); intro g L' h' FG F' N' B' X' T')
  try dsimp only
  with_reducible refine wpAny_noRaise ?_
  clear B F X N T
  ktr_unf
  with_reducible refine ite_neg (by simp; omega) ?_
  ktr_unf
  with_reducible refine ite_pos (by simpa using hb) ?_
  ktr_unf
  with_reducible refine op_neg (-a) rfl (fun t tk => ?_)
  ktr_unf
  with_reducible refine op_neg (-b) rfl (fun t tk => ?_)
  ktr_unf
  rename Fr _ _ _ _ => F9
  rename News _ _ _ _ => N9
  with_reducible refine' CallsPairT.use (dm_pos w (-a) (-b) _ _ (by omega) hf.neg) ?hA B' F9 X' N9 T' ?hk (CodeHd.keeps hC1 FG.keep) (CodeHd.keeps hC2 FG.keep) hT hr30 hr37 ?h1 ?h2 ?_
  case hA => exact rfl
  case hk => exact rfl
  case h1 => (show dp + 1 + _ < recursionLimit; omega)
  case h2 => (show un + 3 + 8 * _ < cLine; omega)
  clear F9 N9
  intro q t1 t2 ps' c' o' qs' d' u' h' tk' F9 N9 hN hlt
  ktr_unf
  with_reducible refine op_neg _ rfl (fun t tk => ?_)
  ktr_unf
  rename Fr _ _ _ _ => F9
  rename News _ _ _ _ => N9
  rename _ ∧ _ ∧ _ ∧ _ ∧ _ ∧ _ => l9
  with_reducible refine leaveK_ F9 N9 ?_
  intro kF kN
  exact hret _ _ _ _ _ _ _ _ _ _ _ kF (news_skip kN) hN (List.forall_mem_cons.mpr ⟨l9.2.1, List.forall_mem_cons.mpr ⟨l9.2.2.1, List.forall_mem_cons.mpr ⟨l9.2.2.2.1, List.forall_mem_cons.mpr ⟨l9.2.2.2.2.1, ktn_ltOf l9.2.2.2.2.2⟩⟩⟩⟩)
end
section
local macro_rules | `(tactic| walk_at "none here") => `(tactic| fail)
open PySem PySem.W PyProof.Rows PySem.Calls
def CallsInt (w : World) (f : Addr) (vs : List Value) (x : Int) : Prop :=
  ∀ (p : Program) (loose : List Str) (mean : ExcName → Option Value) (mg mb : Str → Option Value) (dp un : Nat) (gd : Option (List Code)) (cn : Str) (cs : Scope) (a : Addr) (ccd : Value) (cl : List (Str × Addr)) (outer : List Env) (A₀ : Around) (base h₀ : Heap) (L : Addr) (m : Str → Option Value) (news : List (Addr × Obj)) (s : Shared)
    (Q E : Value → Shared → Prop),
    Below A₀ base outer h₀ → Fr h₀ L s.heap m → (hd.heap_39 w.params).In h₀ → News h₀ L s.heap news → Top p loose mean mg mb h₀ → cs.kind = .function → dp + 2 < recursionLimit →
    (∀ t h' tk', Fr h₀ L h' m → News h₀ L h' news → Q (.int x t) { s with heap := h', toks := tk' }) →
    wpAny (model PySem.Challenge.rw_wb0065_01.row.prog w) (ktrTop dp un gd cn cs L a ccd cl outer) (call (.ref f) vs) Q E s
theorem CallsInt.use {w : World} {f : Addr} {vs : List Value} {x : Int} {A : Around} {p : Program} {loose : List Str} {mean : ExcName → Option Value} {mg mb : Str → Option Value} {dp un : Nat} {gd : Option (List Code)} {cn : Str} {cs : Scope} {a : Addr} {ccd : Value} {cl : List (Str × Addr)} {outer : List Env} {A₀ : Around} {base h₀ : Heap} {L : Addr} {m : Str → Option Value} {news : List (Addr × Obj)} {s : Shared}
    {Q E : Value → Shared → Prop} (x' : Int) (C : CallsInt w f vs x) (hx : x = x') (hA : A = ktrTop dp un gd cn cs L a ccd cl outer) (B : Below A₀ base outer h₀) (F : Fr h₀ L s.heap m) (X : (hd.heap_39 w.params).In h₀) (N : News h₀ L s.heap news) (T : Top p loose mean mg mb h₀) (hk : cs.kind = .function) (h1 : dp + 2 < recursionLimit)
    (h : ∀ t h' tk', Fr h₀ L h' m → News h₀ L h' news → Q (.int x' t) { s with heap := h', toks := tk' }) :
    wpAny (model PySem.Challenge.rw_wb0065_01.row.prog w) A (call (.ref f) vs) Q E s := by
  subst hA hx
  exact C p loose mean mg mb dp un gd cn cs a ccd cl outer A₀ base h₀ L m news s Q E B F X N T hk h1 h
section
variable {prog : Program} {w : World} {A : Around} {E : Value → Shared → Prop} {s : Shared} {h₀ : Heap} {L D : Addr} {news : List (Addr × Obj)} {vs : List Value} {n : Nat} {k : Int} {u : Tok} {x : Value} {Q : Value → Shared → Prop} {value slice : PySem.Expr}
theorem op_li (N : News h₀ L s.heap news) (hm : (D, W.listOf vs.toArray n) ∈ news) (h0 : 0 ≤ k) (h1 : k < 2 ^ 63) (hx : vs[k.toNat]? = some x) (h : Q x s)
    (hs : subscripted slice false (.ref D) (.int k u) = operate [.ref D, .int k u] (getItem (.ref D) (.int k u)) := by with_unfolding_all rfl) :
    wpAny (model prog w) A (subscriptTail value slice (.ref D) (.int k u)) Q E s := tail_any (PySem.IsL.isList (n := n) (N _ hm).1).typeIs slot_list_getitem.lookup (wpAny_getItem_list (PySem.IsL.isList (n := n) (N _ hm).1) h0 h1 (by simpa using hx) h) hs
theorem op_ti (N : News h₀ L s.heap news) (hm : (D, ({ cls := .type "tuple", data := .seq vs.toArray } : Obj)) ∈ news) (h0 : 0 ≤ k) (h1 : k < 2 ^ 63) (hx : vs[k.toNat]? = some x) (h : Q x s)
    (hs : subscripted slice false (.ref D) (.int k u) = operate [.ref D, .int k u] (getItem (.ref D) (.int k u)) := by with_unfolding_all rfl) :
    wpAny (model prog w) A (subscriptTail value slice (.ref D) (.int k u)) Q E s := by
  have hlt : k.toNat < vs.length := (List.getElem?_eq_some_iff.mp hx).1
  exact item_tupleT ⟨_, (N _ hm).1, rfl, 0, rfl⟩ (by omega) h1 (seqIndex_of h0 (by omega)) hx h hs
end
local macro_rules | `(tactic| ktr_unf) => `(tactic| repeat ((wtm_at "zb4"); (fail_if_success any_goals with_reducible (first | refine zs19 ?_ | refine zs9 ?_ | refine zs20 ?_ | refine zs17 ?_)); (wtm_at "zw2")))
local macro_rules | `(tactic| walk_at "execs cons") => `(tactic| wtm_at "zfz")
set_option maxRecDepth 100000 in
set_option maxHeartbeats 8000000 in
theorem ct_add (w : World) (a b : Int) (ta tb : Tok) : CallsInt w 63 [.int a ta, .int b tb] (a + b) := by
  unfold CallsInt
  k_fill
  intro p loose mean mg mb dp un gd cn cs ca ccd cl outer A₀ base h₀ L m news s Q E B F X N T hk hd' hret
  refine wpAny_call ?_
  k_dflt (refine' code_def (binds := [(Str.ofString "a", .int a ta), (Str.ofString "b", .int b tb)]) ?k1 ?k2 ?k3 ?k4 ?k5 ?kA ?kF ?kK ?k6 ?k7 ?k8 ?k9 ?kB ?_ ?c2 ?c3 ?c4 ?c5; (case kA => exact rfl); (case kF => exact rfl); (case kK => exact hk); (case k1 => exact B); (case k2 => exact F); (case k3 => exact X); (case k4 => exact N); (case k5 => exact T); (case k6 => k_is); (case k7 => k_is); (case k8 => show dp < recursionLimit; omega); (case k9 => exact BindsTo.of_eq rfl); (case c5 => decide); (case kB => exact locs rfl); (case c2 => exact rfl); (case c3 => exact rfl); (case c4 => exact rfl); intro g L' h' FG F' N' B' X' T')
  try dsimp only
  with_reducible refine wpAny_noRaise ?_
  clear B F X N T
  ktr_unf
  with_reducible refine op_add _ rfl (fun t tk => ?_)
  ktr_unf
  with_reducible refine leaveK_ F' N' ?_
  intro kF kN
  exact hret _ _ _ kF kN
set_option maxRecDepth 100000 in
set_option maxHeartbeats 8000000 in
theorem ct_sub (w : World) (a b : Int) (ta tb : Tok) : CallsInt w 84 [.int a ta, .int b tb] (a - b) := by
  unfold CallsInt
  k_fill
  intro p loose mean mg mb dp un gd cn cs ca ccd cl outer A₀ base h₀ L m news s Q E B F X N T hk hd' hret
  refine wpAny_call ?_
  k_dflt (refine' code_def (binds := [(Str.ofString "a", .int a ta), (Str.ofString "b", .int b tb)]) ?k1 ?k2 ?k3 ?k4 ?k5 ?kA ?kF ?kK ?k6 ?k7 ?k8 ?k9 ?kB ?_ ?c2 ?c3 ?c4 ?c5; (case kA => exact rfl); (case kF => exact rfl); (case kK => exact hk); (case k1 => exact B); (case k2 => exact F); (case k3 => exact X); (case k4 => exact N); (case k5 => exact T); (case k6 => k_is); (case k7 => k_is); (case k8 => show dp < recursionLimit; omega); (case k9 => exact BindsTo.of_eq rfl); (case c5 => decide); (case kB => exact locs rfl); (case c2 => exact rfl); (case c3 => exact rfl); (case c4 => exact rfl); intro g L' h' FG F' N' B' X' T')
  try dsimp only
  with_reducible refine wpAny_noRaise ?_
  clear B F X N T
  ktr_unf
  with_reducible refine op_sub _ rfl (fun t tk => ?_)
  ktr_unf
  with_reducible refine leaveK_ F' N' ?_
  intro kF kN
  exact hret _ _ _ kF kN
set_option maxRecDepth 100000 in
set_option maxHeartbeats 8000000 in
theorem ct_mul (w : World) (a b : Int) (ta tb : Tok) (hm : IntMulOk a b) : CallsInt w 70 [.int a ta, .int b tb] (a * b) := by
  unfold CallsInt
  k_fill
  intro p loose mean mg mb dp un gd cn cs ca ccd cl outer A₀ base h₀ L m news s Q E B F X N T hk hd' hret
  refine wpAny_call ?_
  k_dflt (refine' code_def (binds := [(Str.ofString "a", .int a ta), (Str.ofString "b", .int b tb)]) ?k1 ?k2 ?k3 ?k4 ?k5 ?kA ?kF ?kK ?k6 ?k7 ?k8 ?k9 ?kB ?_ ?c2 ?c3 ?c4 ?c5; (case kA => exact rfl); (case kF => exact rfl); (case kK => exact hk); (case k1 => exact B); (case k2 => exact F); (case k3 => exact X); (case k4 => exact N); (case k5 => exact T); (case k6 => k_is); (case k7 => k_is); (case k8 => show dp < recursionLimit; omega); (case k9 => exact BindsTo.of_eq rfl); (case c5 => decide); (case kB => exact locs rfl); (case c2 => exact rfl); (case c3 => exact rfl); (case c4 => exact rfl); intro g L' h' FG F' N' B' X' T')
  try dsimp only
  with_reducible refine wpAny_noRaise ?_
  clear B F X N T
  ktr_unf
  with_reducible refine op_mul _ hm rfl (fun t tk => ?_)
  ktr_unf
  with_reducible refine leaveK_ F' N' ?_
  intro kF kN
  exact hret _ _ _ kF kN
set_option maxRecDepth 100000 in
set_option maxHeartbeats 8000000 in
theorem ct_neg (w : World) (a : Int) (ta : Tok) : CallsInt w 77 [.int a ta] (-a) := by
  unfold CallsInt
  k_fill
  intro p loose mean mg mb dp un gd cn cs ca ccd cl outer A₀ base h₀ L m news s Q E B F X N T hk hd' hret
  refine wpAny_call ?_
  k_dflt (refine' code_def (binds := [(Str.ofString "a", .int a ta)]) ?k1 ?k2 ?k3 ?k4 ?k5 ?kA ?kF ?kK ?k6 ?k7 ?k8 ?k9 ?kB ?_ ?c2 ?c3 ?c4 ?c5; (case kA => exact rfl); (case kF => exact rfl); (case kK => exact hk); (case k1 => exact B); (case k2 => exact F); (case k3 => exact X); (case k4 => exact N); (case k5 => exact T); (case k6 => k_is); (case k7 => k_is); (case k8 => show dp < recursionLimit; omega); (case k9 => exact BindsTo.of_eq rfl); (case c5 => decide); (case kB => exact locs rfl); (case c2 => exact rfl); (case c3 => exact rfl); (case c4 => exact rfl); intro g L' h' FG F' N' B' X' T')
  try dsimp only
  with_reducible refine wpAny_noRaise ?_
  clear B F X N T
  ktr_unf
  with_reducible refine op_neg _ rfl (fun t tk => ?_)
  ktr_unf
  with_reducible refine leaveK_ F' N' ?_
  intro kF kN
  exact hret _ _ _ kF kN
section
variable {dp un : Nat} {gd : Option (List Code)} {cn : Str} {cs : Scope} {L a : Addr} {ccd : Value} {cl : List (Str × Addr)} {outer : List Env}
theorem ktd : (ktrTop dp un gd cn cs L a ccd cl outer).depth = dp := rfl
theorem ktu : (ktrTop dp un gd cn cs L a ccd cl outer).units = un := rfl
end
theorem mulOk {a b : Int} (h : Builtin.Int.intBits a + Builtin.Int.intBits b ≤ 1000000) : IntMulOk a b := IntMulOk.of_le (Nat.le_refl _) (Nat.le_refl _) (by omega)
theorem bits_div (a b : Int) : Builtin.Int.intBits (a / b) ≤ Builtin.Int.intBits a := intBits_le_of_natAbs (y := a) (Int.natAbs_ediv_le_natAbs a b) (Nat.le_refl _)
local macro_rules | `(tactic| kn_enter) => `(tactic| ((first | (with_reducible refine' CallsInt.use _ (ct_neg _ _ _) rfl ?hA ?hB ?hF ?hX ?hN ?hT ?hk ?h1 ?_) | (with_reducible refine' CallsInt.use _ (ct_add _ _ _ _ _) rfl ?hA ?hB ?hF ?hX ?hN ?hT ?hk ?h1 ?_) | (with_reducible refine' CallsInt.use _ (ct_sub _ _ _ _ _) rfl ?hA ?hB ?hF ?hX ?hN ?hT ?hk ?h1 ?_) | (with_reducible refine' CallsInt.use _ (ct_mul _ _ _ _ _ (by with_reducible assumption)) rfl ?hA ?hB ?hF ?hX ?hN ?hT ?hk ?h1 ?_)); (case hA => exact rfl); (case hB => with_reducible assumption); (case hF => first | with_reducible assumption | (rename Fr _ _ _ _ => uF; exact uF)); (case hX => with_reducible assumption); (case hN => first | with_reducible assumption | (rename News _ _ _ _ => uN; exact uN)); (case hT => with_reducible assumption); (case hk => exact rfl); (case h1 => rw [ktd]; omega); intro t3 h' tk' F9 N9))
local macro_rules | `(tactic| kn_among) => `(tactic| (with_reducible refine op_ti (by with_reducible assumption) (by repeat (first | with_reducible exact List.mem_cons_self | with_reducible refine List.mem_cons_of_mem _ ?_)) (by decide) (by decide) (by with_unfolding_all rfl) ?_ (by with_unfolding_all rfl)))
local macro_rules | `(tactic| kn_hit) => `(tactic| (with_reducible refine op_li (by with_reducible assumption) (by wtm_at "zmm") (by decide) (by decide) (by with_unfolding_all rfl) ?_ (by with_unfolding_all rfl)))
/-- the ledger with the two code tables, whatever they have noted -/
def OffT (c d : Addr) (rest : List (Addr × Obj)) : Prop := ∀ p ∈ rest, @Ne Nat p.1 30 ∧ @Ne Nat p.1 37 ∧ @Ne Nat p.1 c ∧ @Ne Nat p.1 d
inductive Led (h₀ : Heap) (L : Addr) (h : Heap) (rest : List (Addr × Obj)) : Prop
  | intro (ps : Array Value) (c : Addr) (o : Obj) (qs : Array Value) (d : Addr) (u : Obj) (N : News h₀ L h ((30, tabObj ps) :: (c, o) :: (37, tabObj qs) :: (d, u) :: rest)) (hT : TabsOk ps c o qs d u) (hO : OffT c d rest) : Led h₀ L h rest
theorem OffT.cons {c d : Addr} {x : Addr × Obj} {rest : List (Addr × Obj)} (h : @Ne Nat x.1 30 ∧ @Ne Nat x.1 37 ∧ @Ne Nat x.1 c ∧ @Ne Nat x.1 d) (hr : OffT c d rest) : OffT c d (x :: rest) := List.forall_mem_cons.mpr ⟨h, hr⟩
theorem OffT.sub {c d : Addr} {rest rest' : List (Addr × Obj)} (hr : OffT c d rest) (hs : ∀ p ∈ rest', p ∈ rest) : OffT c d rest' := fun p hp => hr p (hs p hp)
theorem OffT.lt {c d x : Addr} {o : Obj} {rest : List (Addr × Obj)} (h1 : (30 : Nat) < x) (h2 : (37 : Nat) < x) (h3 : c < x) (h4 : d < x) (hr : OffT c d rest) : OffT c d ((x, o) :: rest) := hr.cons ⟨Nat.ne_of_gt h1, Nat.ne_of_gt h2, Nat.ne_of_gt h3, Nat.ne_of_gt h4⟩
theorem news_of {h₀ h : Heap} {L : Addr} {l l' : List (Addr × Obj)} (N : News h₀ L h l) (hs : ∀ p ∈ l', p ∈ l) : News h₀ L h l' := fun p hp => N p (hs p hp)
theorem Led.mk {h₀ h : Heap} {L : Addr} {ps : Array Value} {c : Addr} {o : Obj} {qs : Array Value} {d : Addr} {u : Obj} {rest : List (Addr × Obj)} (N : News h₀ L h ((30, tabObj ps) :: (c, o) :: (37, tabObj qs) :: (d, u) :: rest)) (hT : TabsOk ps c o qs d u) (h1 : OffT c d rest) : Led h₀ L h rest := ⟨ps, c, o, qs, d, u, N, hT, h1⟩
theorem Led.rest {h₀ h : Heap} {L : Addr} {rest : List (Addr × Obj)} (l : Led h₀ L h rest) : News h₀ L h rest := by
  refine frz fun Gz fz => ?_
  obtain ⟨ps, c, o, qs, d, u, N, -⟩ := l
  refine fz ?_
  clear fz Gz
  exact news_of N fun p hp => .tail _ (.tail _ (.tail _ (.tail _ hp)))
theorem Led.sub {h₀ h : Heap} {L : Addr} {rest rest' : List (Addr × Obj)} (l : Led h₀ L h rest) (hs : ∀ p ∈ rest', p ∈ rest) : Led h₀ L h rest' := by
  refine frz fun Gz fz => ?_
  obtain ⟨ps, c, o, qs, d, u, N, hT, h1⟩ := l
  refine fz ?_
  clear fz Gz
  refine ⟨ps, c, o, qs, d, u, news_of N fun p hp => ?_, hT, h1.sub hs⟩
  simp only [List.mem_cons] at hp ⊢
  rcases hp with h | h | h | h | h
  · exact .inl h
  · exact .inr (.inl h)
  · exact .inr (.inr (.inl h))
  · exact .inr (.inr (.inr (.inl h)))
  · exact .inr (.inr (.inr (.inr (hs p h))))
theorem Led.skip {h₀ h : Heap} {L : Addr} {x : Addr × Obj} {rest : List (Addr × Obj)} (l : Led h₀ L h (x :: rest)) : Led h₀ L h rest := l.sub fun p hp => .tail _ hp
/-- new objects ahead of the tables, laid behind them -/
theorem Led.pack {h₀ h : Heap} {L : Addr} {ps : Array Value} {c : Addr} {o : Obj} {qs : Array Value} {d : Addr} {u : Obj} {all new : List (Addr × Obj)} (N : News h₀ L h all) (hs : ∀ p ∈ (30, tabObj ps) :: (c, o) :: (37, tabObj qs) :: (d, u) :: new, p ∈ all) (hT : TabsOk ps c o qs d u) (h1 : OffT c d new) : Led h₀ L h new :=
  ⟨ps, c, o, qs, d, u, news_of N hs, hT, h1⟩
theorem Led.pack1 {h₀ h : Heap} {L : Addr} {ps : Array Value} {c : Addr} {o : Obj} {qs : Array Value} {d : Addr} {u : Obj} {rest : List (Addr × Obj)} {x : Addr × Obj} (N : News h₀ L h (x :: (30, tabObj ps) :: (c, o) :: (37, tabObj qs) :: (d, u) :: rest)) (hT : TabsOk ps c o qs d u) (h1 : OffT c d rest)
    (hlt : ∀ p ∈ (30, tabObj ps) :: (c, o) :: (37, tabObj qs) :: (d, u) :: rest, p.1 < x.1) : Led h₀ L h (x :: rest) := by
  refine Led.pack (new := x :: rest) N (fun p hp => ?_) hT (h1.cons ⟨Nat.ne_of_gt (hlt _ (.head _)), Nat.ne_of_gt (hlt _ (.tail _ (.tail _ (.head _)))), Nat.ne_of_gt (hlt _ (.tail _ (.head _))), Nat.ne_of_gt (hlt _ (.tail _ (.tail _ (.tail _ (.head _)))))⟩)
  refine ZSub.go ?_ p hp; wtm_at "zsub"
theorem NewAt.ne {rest : List (Addr × Obj)} {c c' : Addr} {ps : Array Value} (h : NewAt rest c c' ps) {p : Addr × Obj} (hp : p ∈ rest) (h1 : @Ne Nat p.1 c) : @Ne Nat p.1 c' := by
  rcases h with ⟨rfl, -⟩ | h
  · exact h1
  · exact Nat.ne_of_lt (h p hp)
theorem CallsPairT.useL {w : World} {f : Addr} {vs : List Value} {dep : Nat} {x y : Int} {A : Around} {p : Program} {loose : List Str} {mean : ExcName → Option Value} {mg mb : Str → Option Value} {dp un : Nat} {gd : Option (List Code)} {cn : Str} {cs : Scope} {a : Addr} {ccd : Value} {cl : List (Str × Addr)} {outer : List Env} {A₀ : Around} {base h₀ : Heap} {L : Addr} {m : Str → Option Value} {rest : List (Addr × Obj)} {s : Shared}
    {Q E : Value → Shared → Prop} (C : CallsPairT w f vs dep x y) (hA : A = ktrTop dp un gd cn cs L a ccd cl outer)
    (B : Below A₀ base outer h₀) (F : Fr h₀ L s.heap m) (X : (hd.heap_39 w.params).In h₀) (N : Led h₀ L s.heap rest) (T : Top p loose mean mg mb h₀) (hk : cs.kind = .function) (hC1 : CodeHd h₀ 34 30) (hC2 : CodeHd h₀ 41 37)
    (h1 : dp + dep < recursionLimit) (h2 : un + 8 * dep < cLine)
    (h : ∀ q t1 t2 h' tk', Fr h₀ L h' m → Led h₀ L h' ((q, tup2 (.int x t1) (.int y t2)) :: rest) → (∀ p ∈ rest, p.1 < q) → Q (.ref q) { s with heap := h', toks := tk' }) :
    wpAny (model PySem.Challenge.rw_wb0065_01.row.prog w) A (call (.ref f) vs) Q E s := by
  refine frz fun Gz fz => ?_
  obtain ⟨ps, c, o, qs, d, u, N, hT, hO⟩ := N
  refine fz ?_
  clear fz Gz
  refine C.use hA B F X N T hk hC1 hC2 hT (fun p hp => (hO p hp).1) (fun p hp => (hO p hp).2.1) h1 h2 fun q t1 t2 ps' c' o' qs' d' u' h' tk' F' N' hN hlt => ?_
  exact h q t1 t2 h' tk' F' (Led.pack1 N' hN.1 (fun p hp => ⟨(hO p hp).1, (hO p hp).2.1, hN.2.2.2.1.ne hp (hO p hp).2.2.1, hN.2.2.2.2.ne hp (hO p hp).2.2.2⟩) hlt) fun p hp => hlt p (.tail _ (.tail _ (.tail _ (.tail _ hp))))
/-- a call of the law's that divides: what it hands back is `res`, with what it makes ahead of the ledger -/
def CallsL (w : World) (f : Addr) (vs : List Value) (dep : Nat) (need : List (Addr × Obj) → Prop) (res : Value → List (Addr × Obj) → Prop) : Prop :=
  ∀ (p : Program) (loose : List Str) (mean : ExcName → Option Value) (mg mb : Str → Option Value) (dp un : Nat) (gd : Option (List Code)) (cn : Str) (cs : Scope) (a : Addr) (ccd : Value) (cl : List (Str × Addr)) (outer : List Env) (A₀ : Around) (base h₀ : Heap) (L : Addr) (m : Str → Option Value) (rest : List (Addr × Obj)) (s : Shared)
    (Q E : Value → Shared → Prop),
    Below A₀ base outer h₀ → Fr h₀ L s.heap m → (hd.heap_39 w.params).In h₀ → Led h₀ L s.heap rest → Top p loose mean mg mb h₀ → cs.kind = .function → CodeHd h₀ 34 30 → CodeHd h₀ 41 37 →
    need rest → dp + dep < recursionLimit → un + 8 * dep < cLine →
    (∀ v new h' tk', Fr h₀ L h' m → Led h₀ L h' (new ++ rest) → res v new → (∀ q ∈ new, ∀ p ∈ rest, p.1 < q.1) → Q v { s with heap := h', toks := tk' }) →
    wpAny (model PySem.Challenge.rw_wb0065_01.row.prog w) (ktrTop dp un gd cn cs L a ccd cl outer) (call (.ref f) vs) Q E s
theorem CallsL.use {w : World} {f : Addr} {vs : List Value} {dep : Nat} {need : List (Addr × Obj) → Prop} {res : Value → List (Addr × Obj) → Prop} {A : Around} {p : Program} {loose : List Str} {mean : ExcName → Option Value} {mg mb : Str → Option Value} {dp un : Nat} {gd : Option (List Code)} {cn : Str} {cs : Scope} {a : Addr} {ccd : Value} {cl : List (Str × Addr)} {outer : List Env} {A₀ : Around} {base h₀ : Heap} {L : Addr} {m : Str → Option Value} {rest : List (Addr × Obj)} {s : Shared}
    {Q E : Value → Shared → Prop} (C : CallsL w f vs dep need res) (hA : A = ktrTop dp un gd cn cs L a ccd cl outer)
    (B : Below A₀ base outer h₀) (F : Fr h₀ L s.heap m) (X : (hd.heap_39 w.params).In h₀) (N : Led h₀ L s.heap rest) (T : Top p loose mean mg mb h₀) (hk : cs.kind = .function) (hC1 : CodeHd h₀ 34 30) (hC2 : CodeHd h₀ 41 37)
    (hn : need rest) (h1 : dp + dep < recursionLimit) (h2 : un + 8 * dep < cLine)
    (h : ∀ v new h' tk', Fr h₀ L h' m → Led h₀ L h' (new ++ rest) → res v new → (∀ q ∈ new, ∀ p ∈ rest, p.1 < q.1) → Q v { s with heap := h', toks := tk' }) :
    wpAny (model PySem.Challenge.rw_wb0065_01.row.prog w) A (call (.ref f) vs) Q E s := by
  subst hA
  exact C p loose mean mg mb dp un gd cn cs a ccd cl outer A₀ base h₀ L m rest s Q E B F X N T hk hC1 hC2 hn h1 h2 h
/-- a new list of two ints -/
def NewPair (x y : Int) (v : Value) (new : List (Addr × Obj)) : Prop := ∃ q t1 t2, v = .ref q ∧ new = [(q, W.listOf [.int x t1, .int y t2].toArray 0)]
set_option maxRecDepth 100000 in
set_option maxHeartbeats 8000000 in
theorem ct_left (w : World) (C : Addr) (c0 c1 d0 : Int) (ep : Nat) (tc0 tc1 td : Tok) (hd : 0 < d0) (hf0 : Fit c0 d0) (hf1 : Fit c1 d0) :
    CallsL w 143 [.ref C, .int d0 td] 70 (fun rest => (C, W.listOf [.int c0 tc0, .int c1 tc1].toArray ep) ∈ rest) (NewPair (c0 % d0) (c1 % d0)) := by
  unfold CallsL
  k_fill
  intro p loose mean mg mb dp un gd cn cs ca ccd cl outer A₀ base h₀ L m rest s Q E B F X Ld T hk hC1 hC2 hC hd' hu hret
  refine wpAny_call ?_
  have N := Ld.rest
  refine frz fun Gz fz => ?_
  obtain ⟨ps, c, o, qs, d, u, N, hT, hO⟩ := Ld
  refine fz ?_
  clear fz Gz
  k_dflt (refine' code_def (binds := [(Str.ofString "codes", .ref C), (Str.ofString "divisor", .int d0 td)]) ?k1 ?k2 ?k3 ?k4 ?k5 ?kA ?kF ?kK ?k6 ?k7 ?k8 ?k9 ?kB ?_ ?c2 ?c3 ?c4 ?c5; (case kA => exact rfl); (case kF => exact rfl); (case kK => exact hk); (case k1 => exact B); (case k2 => exact F); (case k3 => exact X); (case k4 => exact N); (case k5 => exact T); (case k6 => k_is); (case k7 => k_is); (case k8 => show dp < recursionLimit; omega); (case k9 => exact BindsTo.of_eq rfl); (case c5 => decide); (case kB => exact locs rfl); (case c2 => exact rfl); (case c3 => exact rfl); (case c4 => exact rfl); intro g L' h' FG F' N' B' X' T')
  try dsimp only
  with_reducible refine wpAny_noRaise ?_
  clear B F X N T
  have hC1' := CodeHd.keeps hC1 FG.keep
  have hC2' := CodeHd.keeps hC2 FG.keep
  ktr_unf
  kn_hit
  ktr_unf
  rename Fr _ _ _ _ => F9
  rename News _ _ _ _ => N9
  with_reducible refine' CallsPairT.useL (dm_pos w c0 d0 _ _ hd hf0) ?hA B' F9 X' (Led.mk N9 hT hO) T' ?hk hC1' hC2' ?h1 ?h2 ?_
  case hA => exact rfl
  case hk => exact rfl
  case h1 => (show dp + 1 + _ < recursionLimit; omega)
  case h2 => (show un + 3 + 8 * _ < cLine; omega)
  clear F9 N9 hT
  intro q1 t1 t2 h' tk' F9 Ld9 lt1
  refine frz fun Gz fz => ?_
  obtain ⟨ps, c, o, qs, d, u, N9, hT, hO⟩ := Ld9
  refine fz ?_
  clear fz Gz
  ktr_unf
  kn_hit
  ktr_unf
  kn_enter
  ktr_unf
  kn_enter
  ktr_unf
  rename Fr _ _ _ _ => F9
  rename News _ _ _ _ => N9
  have hd2 : ∀ t u, CallsPairT w 56 [.int (-c1) t, .int (-d0) u] 55 (c1 / d0) (-(c1 % d0)) := fun t u => by
    have h := dm_negb w (-c1) (-d0) t u (by omega) hf1.neg
    rwa [Int.neg_neg, Int.neg_neg] at h
  with_reducible refine' CallsPairT.useL (hd2 _ _) ?hA B' F9 X' (Led.mk N9 hT hO) T' ?hk hC1' hC2' ?h1 ?h2 ?_
  case hA => exact rfl
  case hk => exact rfl
  case h1 => (show dp + 1 + _ < recursionLimit; omega)
  case h2 => (show un + 3 + 8 * _ < cLine; omega)
  clear F9 N9 hT
  intro q2 t4 t5 h' tk' F9 Ld9 lt2
  refine frz fun Gz fz => ?_
  obtain ⟨ps, c, o, qs, d, u, N9, hT, hO⟩ := Ld9
  refine fz ?_
  clear fz Gz
  have hm0 : IntMulOk (c0 / d0) d0 := mulOk (by have := bits_div c0 d0; have := hf0.ab; have := hf0.bb; omega)
  have hm1 : IntMulOk (c1 / d0) d0 := mulOk (by have := bits_div c1 d0; have := hf1.ab; have := hf0.bb; omega)
  ktr_unf
  kn_among
  ktr_unf
  kn_enter
  ktr_unf
  kn_among
  ktr_unf
  kn_enter
  ktr_unf
  kn_hit
  ktr_unf
  have he0 : c0 / d0 * d0 + c0 % d0 = c0 := Int.ediv_mul_add_emod c0 d0
  have he1 : -(c1 % d0) - c1 / d0 * d0 = -c1 := by have := Int.ediv_mul_add_emod c1 d0; omega
  with_reducible refine ite_neg (by simp [he0]) ?_
  ktr_unf
  kn_among
  ktr_unf
  kn_among
  ktr_unf
  kn_enter
  ktr_unf
  kn_enter
  ktr_unf
  kn_hit
  ktr_unf
  with_reducible refine op_neg _ rfl (fun t tk => ?_)
  ktr_unf
  with_reducible refine ite_neg (by simp [he1]) ?_
  ktr_unf
  with_reducible refine ite_neg (by decide) ?_
  ktr_unf
  kn_among
  ktr_unf
  kn_among
  ktr_unf
  kn_enter
  ktr_unf
  rename Fr _ _ _ _ => F9
  rename News _ _ _ _ => N9
  k_dflt (refine' newList_K F9 N9 ?_)
  clear F9 N9
  intro qd h' F' N' l1
  k_lt l1
  ktr_unf
  with_reducible refine leaveK_ F' N' ?_
  intro kF kN
  have hm : ∀ {α : Type} {x y z1 z2 z3 z4 z5 z6 p : α} {r : List α}, p ∈ z1 :: z2 :: z3 :: z4 :: x :: r → p ∈ x :: y :: z1 :: z2 :: z3 :: z4 :: z5 :: z6 :: r := fun h => by
    simp only [List.mem_cons] at h ⊢
    rcases h with h | h | h | h | h | h
    · exact .inr (.inr (.inl h))
    · exact .inr (.inr (.inr (.inl h)))
    · exact .inr (.inr (.inr (.inr (.inl h))))
    · exact .inr (.inr (.inr (.inr (.inr (.inl h)))))
    · exact .inl h
    · exact .inr (.inr (.inr (.inr (.inr (.inr (.inr (.inr h)))))))
  have hlt : ∀ p ∈ rest, p.1 < qd := ktn_ltOf l1.2.2.2.2.2.2.2
  exact hret _ [_] _ _ kF (Led.pack (new := (qd, _) :: rest) kN (fun p hp => hm hp) hT (OffT.lt l1.2.1 l1.2.2.2.1 l1.2.2.1 l1.2.2.2.2.1 (hO.sub fun p hp => .tail _ (.tail _ hp)))) ⟨_, _, _, rfl, by rw [Int.neg_neg]⟩ (fun q hq p hp => by rw [List.mem_singleton.mp hq]; exact hlt p hp)
end
local macro_rules | `(tactic| wtm_at "zy2") => `(tactic| ((first | (with_reducible refine' CallsInt.use _ (ct_neg _ _ _) rfl ?hA ?hB ?hF ?hX ?hN ?hT ?hk ?h1 ?_) | (with_reducible refine' CallsInt.use _ (ct_add _ _ _ _ _) rfl ?hA ?hB ?hF ?hX ?hN ?hT ?hk ?h1 ?_) | (with_reducible refine' CallsInt.use _ (ct_sub _ _ _ _ _) rfl ?hA ?hB ?hF ?hX ?hN ?hT ?hk ?h1 ?_) | (with_reducible refine' CallsInt.use _ (ct_mul _ _ _ _ _ (by with_reducible assumption)) rfl ?hA ?hB ?hF ?hX ?hN ?hT ?hk ?h1 ?_)); (case hA => exact rfl); (case hB => with_reducible assumption); (case hF => first | with_reducible assumption | (rename Fr _ _ _ _ => uF; exact uF)); (case hX => with_reducible assumption); (case hN => first | with_reducible assumption | (rename News _ _ _ _ => uN; exact uN)); (case hT => with_reducible assumption); (case hk => exact rfl); (case h1 => rw [ktd]; omega); intro t3 h' tk' F9 N9))
local macro_rules | `(tactic| wtm_at "zy3") => `(tactic| (with_reducible refine op_ti (by with_reducible assumption) (by repeat (first | with_reducible exact List.mem_cons_self | with_reducible refine List.mem_cons_of_mem _ ?_)) (by decide) (by decide) (by with_unfolding_all rfl) ?_ (by with_unfolding_all rfl)))
local macro_rules | `(tactic| wtm_at "zy4") => `(tactic| (with_reducible refine op_li (by with_reducible assumption) (by wtm_at "zmm") (by decide) (by decide) (by with_unfolding_all rfl) ?_ (by with_unfolding_all rfl)))
section
open PySem PySem.W PyProof.Rows PySem.Calls
local macro_rules | `(tactic| ktr_unf) => `(tactic| repeat ((wtm_at "zb2"); (fail_if_success any_goals with_reducible (first | refine zs11 ?_ | refine zs9 ?_)); (first | walk1 | wtm_at "zthaw" | with_reducible refine thawG (by with_reducible assumption) ?_ | (dsimp only; walk1))))
local macro_rules | `(tactic| walk_at "execs cons") => `(tactic| first | wtm_at "zfz" | ((with_reducible refine execsI ?_); intro _ _))
local macro_rules | `(tactic| kn_enter) => `(tactic| wtm_at "zy2")
local macro_rules | `(tactic| kn_among) => `(tactic| wtm_at "zy3")
local macro_rules | `(tactic| kn_hit) => `(tactic| wtm_at "zy4")
local macro_rules | `(tactic| kn_code) => `(tactic| repeat (ktr_unf; (first | kn_hit | kn_enter | (with_reducible refine ite_pos (by first | decide | omega | (simp only [decide_eq_true_eq]; omega)) ?_) | (with_reducible refine ite_neg (by first | decide | omega | (simp only [decide_eq_true_eq]; omega)) ?_))))
theorem unrEnd0 {h₀ : Heap} {L I : Addr} {it : Obj} {rest : (Str → Option Value) → List (Addr × Obj) → Prop} {s₁ : Shared} {h' : Heap} {tk : Nat} {m' : Str → Option Value} {keep : List (Addr × Obj)} (F : Fr h₀ L h' m') (N : News h₀ L h' ((I, it) :: keep)) (l : AllLt I keep) (r : rest m' keep) : UnrEnd h₀ L s₁ I it rest { s₁ with heap := h', toks := tk } :=
  UnrEnd.intro F N keep (fun p hp => hp) (fun p hp => Nat.ne_of_lt (ktn_ltOf l p hp)) r
theorem unrEnd1 {h₀ : Heap} {L I : Addr} {it : Obj} {rest : (Str → Option Value) → List (Addr × Obj) → Prop} {s₁ : Shared} {h' : Heap} {tk : Nat} {m' : Str → Option Value} {x : Addr × Obj} {keep : List (Addr × Obj)} (F : Fr h₀ L h' m') (N : News h₀ L h' (x :: (I, it) :: keep)) (l : AllLt I keep) (r : rest m' keep) : UnrEnd h₀ L s₁ I it rest { s₁ with heap := h', toks := tk } :=
  unrEnd0 F (news_of N fun p hp => .tail _ hp) l r
theorem op_lenN {prog : Program} {w : World} {A : Around} {E : Value → Shared → Prop} {s : Shared} {h₀ : Heap} {L l : Addr} {ep : Nat} {news : List (Addr × Obj)} {vs : List Value} {Q : Value → Shared → Prop} (n : Int) (N : News h₀ L s.heap news) (hm : (l, W.listOf vs.toArray ep) ∈ news) (hsz : vs.length ≤ 1000000) (hn : ((vs.length : Nat) : Int) = n) (h : ∀ t tk, Q (.int n t) { s with toks := tk }) : wpAny (model prog w) A (call (.builtin "len") [.ref l]) Q E s :=
  op_len N hm hsz fun t tk => hn ▸ h t tk
theorem unrEndF0 {h₀ : Heap} {L I : Addr} {it : Obj} {rest : (Str → Option Value) → List (Addr × Obj) → Prop} {s₁ : Shared} {h' : Heap} {tk : Nat} {m' : Str → Option Value} {keep : List (Addr × Obj)} {w1 w2 w3 w4 : Value} (F : Fr h₀ L h' m') (N : News h₀ L h' ((I, it) :: keep)) (l : AllLt I keep)
    (e1 : m' (Str.ofString "row") = some w1) (e2 : m' (Str.ofString "letters") = some w2) (e3 : m' (Str.ofString "total") = some w3) (e4 : m' (Str.ofString "part") = some w4)
    (r : ∀ M : Str → Option Value, M (Str.ofString "row") = some w1 → M (Str.ofString "letters") = some w2 → M (Str.ofString "total") = some w3 → M (Str.ofString "part") = some w4 → rest M keep) : UnrEnd h₀ L s₁ I it rest { s₁ with heap := h', toks := tk } := unrEnd0 F N l (r m' e1 e2 e3 e4)
theorem unrEndF1 {h₀ : Heap} {L I : Addr} {it : Obj} {rest : (Str → Option Value) → List (Addr × Obj) → Prop} {s₁ : Shared} {h' : Heap} {tk : Nat} {m' : Str → Option Value} {x : Addr × Obj} {keep : List (Addr × Obj)} {w1 w2 w3 w4 : Value} (F : Fr h₀ L h' m') (N : News h₀ L h' (x :: (I, it) :: keep)) (l : AllLt I keep)
    (e1 : m' (Str.ofString "row") = some w1) (e2 : m' (Str.ofString "letters") = some w2) (e3 : m' (Str.ofString "total") = some w3) (e4 : m' (Str.ofString "part") = some w4)
    (r : ∀ M : Str → Option Value, M (Str.ofString "row") = some w1 → M (Str.ofString "letters") = some w2 → M (Str.ofString "total") = some w3 → M (Str.ofString "part") = some w4 → rest M keep) : UnrEnd h₀ L s₁ I it rest { s₁ with heap := h', toks := tk } := unrEnd1 F N l (r m' e1 e2 e3 e4)
local macro_rules | `(tactic| walk_at "eval Name") => `(tactic| (k_dflt (refine' nameX_L ?F ?v ?_ ?a ?b; (case a => rfl); (case b => rfl); (case F => first | with_reducible assumption | assumption); (case v => first | exact rfl | assumption))))
local macro_rules | `(tactic| walk_at "UnrEnd") => `(tactic| (k_dflt (rename News _ _ _ _ => uN; rename Fr _ _ _ _ => uF; (first | (refine' unrEndF0 uF uN ?l ?e1 ?e2 ?e3 ?e4 ?_) | (refine' unrEndF1 uF uN ?l ?e1 ?e2 ?e3 ?e4 ?_)); (case l => assumption); (case e1 => first | exact rfl | assumption); (case e2 => first | exact rfl | assumption); (case e3 => first | exact rfl | assumption); (case e4 => first | exact rfl | assumption); intro _ _ _ _ _; k_whole)))
/-- a call that hands back an int, its ledger wanting `need` -/
def CallsIntN (w : World) (f : Addr) (vs : List Value) (need : List (Addr × Obj) → Prop) (x : Int) : Prop :=
  ∀ (p : Program) (loose : List Str) (mean : ExcName → Option Value) (mg mb : Str → Option Value) (dp un : Nat) (gd : Option (List Code)) (cn : Str) (cs : Scope) (a : Addr) (ccd : Value) (cl : List (Str × Addr)) (outer : List Env) (A₀ : Around) (base h₀ : Heap) (L : Addr) (m : Str → Option Value) (news : List (Addr × Obj)) (s : Shared)
    (Q E : Value → Shared → Prop),
    Below A₀ base outer h₀ → Fr h₀ L s.heap m → (hd.heap_39 w.params).In h₀ → News h₀ L s.heap news → Top p loose mean mg mb h₀ → cs.kind = .function → need news → dp + 4 < recursionLimit → un + 8 * 4 < cLine →
    (∀ t h' tk', Fr h₀ L h' m → News h₀ L h' news → Q (.int x t) { s with heap := h', toks := tk' }) →
    wpAny (model PySem.Challenge.rw_wb0065_01.row.prog w) (ktrTop dp un gd cn cs L a ccd cl outer) (call (.ref f) vs) Q E s
set_option maxRecDepth 100000 in
set_option maxHeartbeats 8000000 in
theorem ct_worth (w : World) (R C : Addr) (c0 c1 : Int) (a b c : Nat) (e1 e2 : Nat) (tc0 tc1 r0 r1 r2 r3 r4 r5 r6 r7 r8 : Tok) (ha : a < 10) (hb : b < 10) (hc : c < 10) :
    CallsIntN w 129 [.ref R, .ref C] (fun rest => (R, W.listOf [.int 256 r0, .int 16 r1, .int (258 + (a : Int)) r2, .int 14 r3, .int 257 r4, .int 16 r5, .int (258 + (b : Int)) r6, .int 14 r7, .int (258 + (c : Int)) r8].toArray e1) ∈ rest ∧ (C, W.listOf [.int c0 tc0, .int c1 tc1].toArray e2) ∈ rest) (a * c0 + b * c1 + c) := by
  unfold CallsIntN
  k_fill
  intro p loose mean mg mb dp un gd cn cs ca ccd cl outer A₀ base h₀ L m news s Q E B F X N T hk hn hd' hu hret
  obtain ⟨hn1, hn2⟩ := hn
  refine wpAny_call ?_
  k_dflt (refine' code_def (binds := [(Str.ofString "row", .ref R), (Str.ofString "letters", .ref C)]) ?k1 ?k2 ?k3 ?k4 ?k5 ?kA ?kF ?kK ?k6 ?k7 ?k8 ?k9 ?kB ?_ ?c2 ?c3 ?c4 ?c5; (case kA => exact rfl); (case kF => exact rfl); (case kK => exact hk); (case k1 => exact B); (case k2 => exact F); (case k3 => exact X); (case k4 => exact N); (case k5 => exact T); (case k6 => k_is); (case k7 => k_is); (case k8 => show dp < recursionLimit; omega); (case k9 => exact BindsTo.of_eq rfl); (case c5 => decide); (case kB => exact locs rfl); (case c2 => exact rfl); (case c3 => exact rfl); (case c4 => exact rfl); intro g L' h' FG F' N' B' X' T')
  try dsimp only
  with_reducible refine wpAny_noRaise ?_
  clear B F X N T
  have hm0 : IntMulOk c0 (258 + (a : Int) - 258) := IntMulOk.of_right (Nat.le_trans (bits_le (k := 4) (by omega) (by omega)) (by decide))
  have hm1 : IntMulOk c1 (258 + (b : Int) - 258) := IntMulOk.of_right (Nat.le_trans (bits_le (k := 4) (by omega) (by omega)) (by decide))
  ktr_unf
  rename News _ _ _ _ => N9
  with_reducible refine op_lenN 9 (vs := [.int 256 r0, .int 16 r1, .int (258 + (a : Int)) r2, .int 14 r3, .int 257 r4, .int 16 r5, .int (258 + (b : Int)) r6, .int 14 r7, .int (258 + (c : Int)) r8]) N9 (by wtm_at "zmm") (Nat.le_of_ble_eq_true rfl) rfl (fun t tk => ?_)
  kn_code
  rename Fr _ _ _ _ => F9
  rename News _ _ _ _ => N9
  have e : 0 + 0 + c0 * (258 + (a : Int) - 258) + c1 * (258 + (b : Int) - 258) + (258 + (c : Int) - 258) = a * c0 + b * c1 + c := by
    rw [show (258 + (a : Int) - 258) = a by omega, show (258 + (b : Int) - 258) = b by omega, Int.mul_comm c0, Int.mul_comm c1]; omega
  ktr_unf
  rw [e]
  with_reducible refine leaveK_ F9 N9 ?_
  intro kF kN
  exact hret _ _ _ kF (news_of kN fun p hp => .tail _ hp)
end
section
open PySem PySem.W PyProof.Rows PySem.Calls
/-- a product that leaves the place k out -/
def skipMul (k : Int) : Int → Int → List Int → Int
  | _, p, [] => p
  | i, p, d :: r => skipMul k (i + 1) (if i = k then p else p * d) r
/-- what the coder adds up -/
def sumW (ws ds : List Int) : Nat → Int → List Int → Int
  | _, t, [] => t
  | k, t, n :: r => sumW ws ds (k + 1) (t + skipMul (k : Int) 0 (n * ws.getD k 0) ds) r
theorem skip_bits (k : Int) {D : Nat} : ∀ (ds : List Int) (i p : Int) (b : Nat), Builtin.Int.intBits p ≤ b → (∀ d ∈ ds, Builtin.Int.intBits d ≤ D) → Builtin.Int.intBits (skipMul k i p ds) ≤ b + ds.length * D
  | [], _, _, b, h, _ => by simpa [skipMul] using h
  | d :: r, i, p, b, h, hd => by
    have h1 : Builtin.Int.intBits (if i = k then p else p * d) ≤ b + D := by
      by_cases e : i = k
      · rw [if_pos e]; omega
      · rw [if_neg e]; exact intBits_mul_le h (hd d (.head _))
    have h2 := skip_bits k r (i + 1) _ (b + D) h1 (fun x hx => hd x (.tail _ hx))
    have e : (d :: r).length * D = r.length * D + D := by rw [List.length_cons, Nat.add_mul, Nat.one_mul]
    show Builtin.Int.intBits (skipMul k (i + 1) (if i = k then p else p * d) r) ≤ _
    omega
section
variable {prog : Program} {w : World} {A : Around} {E : Value → Shared → Prop} {s : Shared} {env : Env} {h₀ : Heap} {target : Expr} {body : List Stmt} {Q : Flow → Shared → Prop}
theorem unrPostW_mono {L : Addr} {s₁ : Shared} {its : List (Addr × Obj)} {R R' : (Str → Option Value) → List (Addr × Obj) → Prop} (hR : ∀ m n, R m n → R' m n) {f : Flow} {s₂ : Shared} (h : UnrPostW h₀ L s₁ its R Q f s₂) : UnrPostW h₀ L s₁ its R' Q f s₂ := by
  cases f with
  | ret v => exact h
  | brk => exact h
  | next =>
    obtain ⟨h', tk, m', news', e, F, N, hoff, r⟩ := h
    exact ⟨h', tk, m', news', e, F, N, hoff, hR _ _ r⟩
  | cont =>
    obtain ⟨h', tk, m', news', e, F, N, hoff, r⟩ := h
    exact ⟨h', tk, m', news', e, F, N, hoff, hR _ _ r⟩
/-- a loop down an enumerated list, by what holds with these still to come -/
theorem enum_inv {I : Addr} {keep : List (Addr × Obj)} (J : Nat → List Value → (Str → Option Value) → List (Addr × Obj) → Prop)
    (turn : ∀ i v r m news o1 o2 T t h tk, J i (v :: r) m news → IsTup h T #[.int (i : Int) t, v] → Fr h₀ env.locals h m → News h₀ env.locals h ((I + 1, o1) :: (I, o2) :: news) →
      wpAny (model prog w) A (assign target env (.ref T)) (fun _ s₂ => wpAny (model prog w) A (execs body env) (UnrPostW h₀ env.locals { s with heap := h, toks := tk } [(I + 1, o1), (I, o2)] (fun m' n' => SubL keep n' ∧ J (i + 1) r m' n') Q) E s₂) E { s with heap := h, toks := tk })
    (done : ∀ i m news h tk, J i [] m news → Fr h₀ env.locals h m → News h₀ env.locals h news → Q .next { s with heap := h, toks := tk }) :
    ∀ (vs : List Value) (i : Nat) (m : Str → Option Value) (news : List (Addr × Obj)), J i vs m news → ItemsRest prog w A E h₀ env target body Q s [(I + 1, "enumerate"), (I, "list_iterator")] keep (enumItems i vs) m news
  | [], i, m, news, hJ => ItemsRest.zero fun h tk F N => done i m news h tk hJ F N
  | v :: r, i, m, news, hJ => ItemsRest.pair fun T t h tk hT F => AllObj.cons fun o1 _ => AllObj.cons fun o2 _ => AllObj.nil fun N =>
    wpAny_mono (turn i v r m news o1 o2 T t h tk hJ hT F N) (fun _ s₂ hp => wpAny_mono hp (fun f s₃ hq => unrPostW_mono (fun m' n' hr => ⟨hr.1, enum_inv J turn done r (i + 1) m' n' hr.2⟩) hq) fun _ _ e => e) fun _ _ e => e
/-- a loop down a list -/
theorem list_inv {I : Addr} {keep : List (Addr × Obj)} (J : List Value → (Str → Option Value) → List (Addr × Obj) → Prop)
    (turn : ∀ v r m news o1 h tk, J (v :: r) m news → Fr h₀ env.locals h m → News h₀ env.locals h ((I, o1) :: news) →
      wpAny (model prog w) A (assign target env v) (fun _ s₂ => wpAny (model prog w) A (execs body env) (UnrPostW h₀ env.locals { s with heap := h, toks := tk } [(I, o1)] (fun m' n' => SubL keep n' ∧ J r m' n') Q) E s₂) E { s with heap := h, toks := tk })
    (done : ∀ m news h tk, J [] m news → Fr h₀ env.locals h m → News h₀ env.locals h news → Q .next { s with heap := h, toks := tk }) :
    ∀ (vs : List Value) (m : Str → Option Value) (news : List (Addr × Obj)), J vs m news → ItemsRest prog w A E h₀ env target body Q s [(I, "list_iterator")] keep (vs.map .val) m news
  | [], m, news, hJ => ItemsRest.zero fun h tk F N => done m news h tk hJ F N
  | v :: r, m, news, hJ => ItemsRest.val fun h tk F => AllObj.cons fun o1 _ => AllObj.nil fun N =>
    wpAny_mono (turn v r m news o1 h tk hJ F N) (fun _ s₂ hp => wpAny_mono hp (fun f s₃ hq => unrPostW_mono (fun m' n' hr => ⟨hr.1, list_inv J turn done r m' n' hr.2⟩) hq) fun _ _ e => e) fun _ _ e => e
end
@[elab_as_elim] theorem ints_uncons {r : List Value} {P : Value → List Int → Prop} {v : Value} {l : List Int} (h : IntsAre (v :: r) l) (k : ∀ x t l', IntsAre r l' → P (.int x t) (x :: l')) : P v l := by
  cases h with | cons x t h => exact k x t _ h
@[elab_as_elim] theorem ints_unnil {P : List Int → Prop} {l : List Int} (h : IntsAre [] l) (k : P []) : P l := by
  cases h; exact k
end
section
open PySem PySem.W PyProof.Rows PySem.Calls
local macro_rules | `(tactic| ktr_unf) => `(tactic| repeat ((wtm_at "zb2"); (fail_if_success any_goals with_reducible (first | refine zs12 ?_ | refine zs21 ?_ | refine zs17 ?_ | refine zs9 ?_)); (wtm_at "zw2")))
local macro_rules | `(tactic| walk_at "execs cons") => `(tactic| wtm_at "zfz")
local macro_rules | `(tactic| kn_enter) => `(tactic| wtm_at "zy2")
local macro_rules | `(tactic| kn_among) => `(tactic| wtm_at "zy3")
local macro_rules | `(tactic| kn_hit) => `(tactic| wtm_at "zy4")
local macro_rules | `(tactic| kn_code) => `(tactic| repeat (ktr_unf; (first | kn_enter)))
local macro_rules | `(tactic| walk_at "eval Name") => `(tactic| wtm_at "zy1")
/-- the weights of the four places -/
def wts (e : Int) : List Int := [-1 - 10 * e, 8 + 96 * e, -27 - 486 * e, 64 + 2560 * e]
theorem wts_bits {e : Int} (h : Builtin.Int.intBits e ≤ 6000) : ∀ i, Builtin.Int.intBits ((wts e).getD i 0) ≤ 6020 := by
  have h1 := Nat.le_trans (intBits_sub_le (m := 10) (n := 10 + 6000) (x := -1) (y := 10 * e) (by decide) (intBits_mul_le (by decide) h)) (show _ ≤ 6020 by decide)
  have h2 := Nat.le_trans (intBits_add_le (m := 10) (n := 10 + 6000) (x := 8) (y := 96 * e) (by decide) (intBits_mul_le (by decide) h)) (show _ ≤ 6020 by decide)
  have h3 := Nat.le_trans (intBits_sub_le (m := 10) (n := 10 + 6000) (x := -27) (y := 486 * e) (by decide) (intBits_mul_le (by decide) h)) (show _ ≤ 6020 by decide)
  have h4 := Nat.le_trans (intBits_add_le (m := 10) (n := 12 + 6000) (x := 64) (y := 2560 * e) (by decide) (intBits_mul_le (by decide) h)) (show _ ≤ 6020 by decide)
  intro i
  match i with
  | 0 => exact h1
  | 1 => exact h2
  | 2 => exact h3
  | 3 => exact h4
  | n + 4 => show Builtin.Int.intBits 0 ≤ _; decide
theorem off2 {J : Addr} {a b : Obj} {l : List (Addr × Obj)} (h : ∀ p ∈ l, p.1 < J) : ∀ p ∈ l, ∀ q ∈ [(J + 1, a), (J, b)], p.1 ≠ q.1 := fun p hp q hq => by
  have h1 := h p hp
  rcases List.mem_cons.mp hq with rfl | hq
  · exact Nat.ne_of_lt (Nat.lt_succ_of_lt h1)
  · rw [List.mem_singleton.mp hq]; exact Nat.ne_of_lt h1
theorem small_mul {a e : Int} (ha : Builtin.Int.intBits a ≤ 64) : IntMulOk a e := IntMulOk.of_left ha
set_option maxRecDepth 100000 in
set_option maxHeartbeats 8000000 in
theorem ct_code (w : World) (NA DA : Addr) (vs us : List Value) (ns ds : List Int) (e P : Int) (te tp : Tok) (e1 e2 : Nat) (hvs : IntsAre vs ns) (hus : IntsAre us ds) (hn4 : ns.length = 4) (hd4 : ds.length = 4)
    (hnb : ∀ n ∈ ns, Builtin.Int.intBits n ≤ 6000) (hdb : ∀ n ∈ ds, Builtin.Int.intBits n ≤ 6000) (heb : Builtin.Int.intBits e ≤ 6000) (hP : 0 < P) (hf : Fit (sumW (wts e) ds 0 0 ns) P) :
    CallsL w 136 [.ref NA, .int e te, .ref DA, .int P tp] 70 (fun rest => (NA, W.listOf vs.toArray e1) ∈ rest ∧ (DA, W.listOf us.toArray e2) ∈ rest) (fun v new => new = [] ∧ ∃ t, v = .int (sumW (wts e) ds 0 0 ns % P) t) := by
  unfold CallsL
  k_fill
  intro p loose mean mg mb dp un gd cn cs ca ccd cl outer A₀ base h₀ L m rest s Q E B F X Ld T hk hC1 hC2 hC hd' hu hret
  refine wpAny_call ?_
  refine frz fun Gz fz => ?_
  obtain ⟨ps, c, o, qs, d, u, N, hT, hO⟩ := Ld
  refine fz ?_
  clear fz Gz
  k_dflt (refine' code_def (binds := [(Str.ofString "numbers", .ref NA), (Str.ofString "e", .int e te), (Str.ofString "divisors", .ref DA), (Str.ofString "product", .int P tp)]) ?k1 ?k2 ?k3 ?k4 ?k5 ?kA ?kF ?kK ?k6 ?k7 ?k8 ?k9 ?kB ?_ ?c2 ?c3 ?c4 ?c5; (case kA => exact rfl); (case kF => exact rfl); (case kK => exact hk); (case k1 => exact B); (case k2 => exact F); (case k3 => exact X); (case k4 => exact N); (case k5 => exact T); (case k6 => k_is); (case k7 => k_is); (case k8 => show dp < recursionLimit; omega); (case k9 => exact BindsTo.of_eq rfl); (case c5 => decide); (case kB => exact locs rfl); (case c2 => exact rfl); (case c3 => exact rfl); (case c4 => exact rfl); intro g L' h' FG F' N' B' X' T')
  try dsimp only
  with_reducible refine wpAny_noRaise ?_
  clear B F X N T
  have hC1' := CodeHd.keeps hC1 FG.keep
  have hC2' := CodeHd.keeps hC2 FG.keep
  have hm1 : IntMulOk 10 e := small_mul (by decide)
  have hm2 : IntMulOk 96 e := small_mul (by decide)
  have hm3 : IntMulOk 486 e := small_mul (by decide)
  have hm4 : IntMulOk 2560 e := small_mul (by decide)
  kn_code
  ktr_unf
  rename Fr _ _ _ _ => F9
  rename News _ _ _ _ => N9
  k_dflt (refine' newList_K F9 N9 ?_)
  clear F9 N9
  intro Wt h' F' N' l1
  k_lt l1
  ktr_unf
  rename Fr _ _ _ _ => F9
  rename News _ _ _ _ => N9
  refine frz fun Gz fz => ?_
  obtain ⟨M0, t0, ⟨hM1, hM2, hM3, hM4⟩, F8⟩ : ∃ M0 t0, (M0 (Str.ofString "total") = some (.int 0 t0) ∧ M0 (Str.ofString "weights") = some (.ref Wt) ∧ M0 (Str.ofString "divisors") = some (.ref DA) ∧ M0 (Str.ofString "product") = some (.int P tp)) ∧ M0 (Str.ofString "numbers") = some (.ref NA) ∧ Fr g L' _ M0 := ⟨_, _, ⟨rfl, rfl, rfl, rfl⟩, rfl, F9⟩
  refine fz ?_
  clear fz Gz
  obtain ⟨hM5, F8⟩ := F8
  clear F9
  have pack : ∀ {h : Heap} {x : Addr × Obj} {wv' : List Value} {r : List (Addr × Obj)}, News g L' h (x :: (Wt, PySem.W.listOf wv'.toArray 0) :: r) → IntsAre wv' (wts e) → ∃ wv, IntsAre wv (wts e) ∧ News g L' h ((Wt, PySem.W.listOf wv.toArray 0) :: r) := fun N hi => ⟨_, hi, news_of N (fun p hp => .tail _ hp)⟩
  obtain ⟨wv, hwv, hN0⟩ := pack N9 (.cons _ _ (.cons _ _ (.cons _ _ (.cons _ _ .nil))))
  clear N9
  generalize hNN : (Wt, PySem.W.listOf wv.toArray 0) :: (30, tabObj ps) :: (c, o) :: (37, tabObj qs) :: (d, u) :: rest = N0 at hN0
  have mW : (Wt, PySem.W.listOf wv.toArray 0) ∈ N0 := by rw [← hNN]; exact .head _
  have mD : (DA, PySem.W.listOf us.toArray e2) ∈ N0 := by rw [← hNN]; exact .tail _ (.tail _ (.tail _ (.tail _ (.tail _ hC.2))))
  have mN : (NA, PySem.W.listOf vs.toArray e1) ∈ N0 := by rw [← hNN]; exact .tail _ (.tail _ (.tail _ (.tail _ (.tail _ hC.1))))
  with_unfolding_all refine' For_turns F8 ?_
  ktr_unf
  rename Fr _ _ _ _ => F9
  with_unfolding_all refine' ktu_enum (lo := PySem.W.listOf vs.toArray e1) (vs := vs) (xs := enumItems 0 vs) (by rfl) F9 hN0 mN (by rfl) (by rfl) rfl ?_
  intro I lI
  generalize hws : wts e = ws at *
  refine enum_inv (J := fun k rem m' news' => news' = N0 ∧ (Ex3 fun ns' tot tt => An4 (IntsAre rem ns') (k + ns'.length = 4) ((∀ n ∈ ns', Builtin.Int.intBits n ≤ 6000)) (An4 (sumW ws ds k tot ns' = sumW ws ds 0 0 ns) (m' (Str.ofString "total") = some (.int tot tt)) (m' (Str.ofString "weights") = some (.ref Wt)) (m' (Str.ofString "divisors") = some (.ref DA) ∧ m' (Str.ofString "product") = some (.int P tp))))) ?turn ?done _ _ _ _ ?start
  case start => exact ⟨rfl, ns, 0, _, hvs, by omega, hnb, rfl, hM1, hM2, hM3, hM4⟩
  case turn =>
    intro k v r m1 news1 o1 o2 T0 t h1 tk1 z9
    refine frz fun Gz fz => ?_
    obtain ⟨rfl, ns', tot, tt, hi, hk4, hb, hsum, q1, q2, q3, q4⟩ := z9
    refine fz ?_
    clear fz Gz
    revert hk4 hb hsum
    refine ints_uncons hi fun n tn nr hi => ?_
    intro hk4 hb hsum hTt F1 N1
    change Fr g L' _ _ at F1
    change News g L' _ _ at N1
    · clear F9 hM1 hM2 hM3 hM4 hM5 hN0
      ktr_unf
      have hw4 : ws.length = 4 := by rw [← hws]; rfl
      have hkl : k < 4 := by simp only [List.length_cons] at hk4; omega
      have mW' := List.mem_cons_of_mem (I + 1, o1) (List.mem_cons_of_mem (I, o2) mW)
      with_reducible refine ksa_sub (by with_reducible assumption) mW' hwv (by omega) (by omega) (by omega) (fun t2 => ?_) (by with_unfolding_all rfl)
      ktr_unf
      have hwb : Builtin.Int.intBits (ws.getD k 0) ≤ 6020 := by rw [← hws]; exact wts_bits heb k
      have hm0 : IntMulOk n (ws.getD (Int.toNat (k : Int)) 0) := mulOk (by have := hb n (.head _); rw [Int.toNat_natCast]; omega)
      kn_enter
      ktr_unf
      rename Fr _ _ _ _ => F9
      rename News _ _ _ _ => N9
      refine frz fun Gz fz => ?_
      obtain ⟨M2, t3, ⟨hM1, hM2, hM3, hM4⟩, ⟨t4, hM5⟩, ⟨t5, hM6⟩, F8⟩ : ∃ M2 t3, (M2 (Str.ofString "total") = some (.int tot t3) ∧ M2 (Str.ofString "weights") = some (.ref Wt) ∧ M2 (Str.ofString "divisors") = some (.ref DA) ∧ M2 (Str.ofString "product") = some (.int P tp)) ∧ (∃ t, M2 (Str.ofString "place") = some (.int k t)) ∧ (∃ t, M2 (Str.ofString "part") = some (.int (n * ws.getD k 0) t)) ∧ Fr g L' _ M2 := ⟨_, _, ⟨q1, q2, q3, q4⟩, ⟨_, rfl⟩, ⟨_, rfl⟩, F9⟩
      refine fz ?_
      clear fz Gz
      clear F9
      have lN : ∀ p ∈ (I + 1, o1) :: (I, o2) :: news1, p.1 < I + 2 := List.forall_mem_cons.mpr ⟨Nat.lt_succ_self _, List.forall_mem_cons.mpr ⟨Nat.lt_add_of_pos_right (by decide), fun p hp => Nat.lt_trans (lI p hp) (Nat.lt_add_of_pos_right (by decide))⟩⟩
      with_unfolding_all refine' For_turns F8 ?_
      ktr_unf
      rename Fr _ _ _ _ => F9
      have mD' := List.mem_cons_of_mem (I + 1, o1) (List.mem_cons_of_mem (I, o2) mD)
      with_unfolding_all refine' ktu_enum (lo := PySem.W.listOf us.toArray e2) (vs := us) (xs := enumItems 0 us) (by rfl) F9 N9 mD' (by rfl) (by rfl) rfl ?_
      intro J lJ
      have hd5 : ∀ x ∈ ds, Builtin.Int.intBits x ≤ 6000 := hdb
      generalize hpp : n * ws.getD k 0 = pp at hM6
      have hpb : Builtin.Int.intBits pp ≤ 12020 := by rw [← hpp]; exact Nat.le_trans (intBits_mul_le (hb n (.head _)) hwb) (by decide)
      refine enum_inv (J := fun i rem m' news' => news' = (I + 1, o1) :: (I, o2) :: news1 ∧ (Ex3 fun ds' pv tv => An4 (IntsAre rem ds') (i + ds'.length = 4) ((∀ x ∈ ds', Builtin.Int.intBits x ≤ 6000)) (An4 (skipMul k i pv ds' = skipMul k 0 pp ds) (Builtin.Int.intBits pv ≤ 12020 + 6000 * i) (m' (Str.ofString "total") = some (.int tot t3)) (An4 (m' (Str.ofString "weights") = some (.ref Wt)) (m' (Str.ofString "divisors") = some (.ref DA)) (m' (Str.ofString "product") = some (.int P tp)) ((∃ t, m' (Str.ofString "place") = some (.int k t)) ∧ m' (Str.ofString "part") = some (.int pv tv)))))) ?turn2 ?done2 _ _ _ _ ?start2
      case start2 => exact ⟨rfl, ds, pp, t5, hus, by omega, hd5, rfl, by omega, hM1, hM2, hM3, hM4, ⟨t4, hM5⟩, hM6⟩
      case turn2 =>
        intro i v r m2 news2 o3 o4 T0 t h1 tk1 z9
        refine frz fun Gz fz => ?_
        obtain ⟨rfl, ds', pv, tv, hi, hi4, hb', hsk, hpv, z1, z2, z3, z4, ⟨t7, z5⟩, z6⟩ := z9
        refine fz ?_
        clear fz Gz
        revert hi4 hb' hsk
        refine ints_uncons hi fun x tx dr hi => ?_
        intro hi4 hb' hsk hTt F1 N1
        change Fr g L' _ _ at F1
        change News g L' _ _ at N1
        · clear F9 N9 hM1 hM2 hM3 hM4 hM5 hM6
          have hil : i < 4 := by simp only [List.length_cons] at hi4; omega
          have hx := hb' x (.head _)
          have hmx : IntMulOk pv x := mulOk (by omega)
          ktr_unf
          by_cases hik : (i : Int) = (k : Int)
          · with_reducible refine ite_pos (by simp [hik]) ?_
            ktr_unf
            rename Fr _ _ _ _ => F9
            rename News _ _ _ _ => N9
            refine ⟨_, _, _, _, rfl, F9, N9, off2 lJ, ⟨mD', trivial⟩, rfl, dr, pv, _, hi, by simp only [List.length_cons] at hi4; omega, fun y hy => hb' y (.tail _ hy), ?_, by omega, z1, z2, z3, z4, ⟨t7, z5⟩, rfl⟩
            rw [← hsk, show ((i + 1 : Nat) : Int) = (i : Int) + 1 by omega]
            show _ = skipMul k (i + 1) (if (i : Int) = k then pv else pv * x) dr
            rw [if_pos hik]
          · with_reducible refine ite_neg (by simp; omega) ?_
            ktr_unf
            kn_enter
            ktr_unf
            rename Fr _ _ _ _ => F9
            rename News _ _ _ _ => N9
            refine ⟨_, _, _, _, rfl, F9, N9, off2 lJ, ⟨mD', trivial⟩, rfl, dr, pv * x, _, hi, by simp only [List.length_cons] at hi4; omega, fun y hy => hb' y (.tail _ hy), ?_, Nat.le_trans (intBits_mul_le hpv hx) (by omega), z1, z2, z3, z4, ⟨t7, z5⟩, rfl⟩
            rw [← hsk, show ((i + 1 : Nat) : Int) = (i : Int) + 1 by omega]
            show _ = skipMul k (i + 1) (if (i : Int) = k then pv else pv * x) dr
            rw [if_neg hik]
      case done2 =>
        intro i m2 news2 h1 tk1 z9
        refine frz fun Gz fz => ?_
        obtain ⟨rfl, ds', pv, tv, hi, hi4, hb', hsk, hpv, z1, z2, z3, z4, ⟨t7, z5⟩, z6⟩ := z9
        refine fz ?_
        clear fz Gz
        intro F1 N1
        change Fr g L' _ _ at F1
        change News g L' _ _ at N1
        revert hi4 hb' hsk
        refine ints_unnil hi ?_
        intro hi4 hb' hsk
        clear F9 N9 hM1 hM2 hM3 hM4 hM5 hM6
        have hpe : pv = skipMul k 0 (n * ws.getD k 0) ds := by rw [hpp]; exact hsk
        ktr_unf
        kn_enter
        ktr_unf
        rename Fr _ _ _ _ => F9
        rename News _ _ _ _ => N9
        refine ⟨_, _, _, _, rfl, F9, N9, off2 lI, ⟨mN, trivial⟩, rfl, nr, tot + pv, _, by assumption, by simp only [List.length_cons] at hk4; omega, fun y hy => hb y (.tail _ hy), ?_, rfl, z2, z3, z4⟩
        rw [← hsum, hpe]
        rfl
  case done =>
    intro k m1 news1 h1 tk1 z9
    refine frz fun Gz fz => ?_
    obtain ⟨rfl, ns', tot, tt, hi, hk4, hb, hsum, q1, q2, q3, q4⟩ := z9
    refine fz ?_
    clear fz Gz
    intro F1 N1
    change Fr g L' _ _ at F1
    change News g L' _ _ at N1
    revert hk4 hb hsum
    refine ints_unnil hi ?_
    intro hk4 hb hsum
    clear F9 hM1 hM2 hM3 hM4 hM5 hN0
    have htot : tot = sumW ws ds 0 0 ns := hsum
    subst hNN
    ktr_unf
    rename Fr _ _ _ _ => F9
    rename News _ _ _ _ => N9
    rw [← htot] at hf hret
    with_reducible refine' CallsPairT.useL (dm_pos w tot P _ _ hP hf) ?hA B' F9 X' (Led.pack (new := (Wt, PySem.W.listOf wv.toArray 0) :: rest) N9 ?hs hT ?h30) T' ?hk hC1' hC2' ?h1 ?h2 ?_
    case hA => exact rfl
    case hk => exact rfl
    case h1 => (show dp + 1 + _ < recursionLimit; omega)
    case h2 => (show un + 3 + 8 * _ < cLine; omega)
    case hs =>
      intro p hp
      refine ZSub.go ?_ p hp; wtm_at "zsub"
    case h30 => exact OffT.lt l1.1 l1.2.2.1 l1.2.1 l1.2.2.2.1 hO
    clear F9 N9 hT
    intro q8 t8 t9 h8 tk8 F9 Ld9 lt9
    refine frz fun Gz fz => ?_
    obtain ⟨ps, c, o, qs, d, u, N9, hT, hO9⟩ := Ld9
    refine fz ?_
    clear fz Gz
    have hm0 : IntMulOk (tot / P) P := mulOk (by have := bits_div tot P; have := hf.ab; have := hf.bb; omega)
    ktr_unf
    kn_enter
    ktr_unf
    kn_enter
    ktr_unf
    with_reducible refine ite_pos (by have h := Int.ediv_mul_add_emod tot P; simp [h]) ?_
    ktr_unf
    rename Fr _ _ _ _ => F9
    rename News _ _ _ _ => N9
    with_reducible refine leaveK_ F9 N9 ?_
    intro kF kN
    refine hret _ [] _ _ kF (Led.pack (new := rest) kN (fun p hp => ?_) hT (hO9.sub fun p hp => .tail _ (.tail _ hp))) ⟨rfl, _, rfl⟩ (fun q hq => (nomatch hq))
    refine ZSub.go ?_ p hp; wtm_at "zsub"
end
section
open PySem PySem.W PyProof.Rows PySem.Calls
local macro_rules | `(tactic| ktr_unf) => `(tactic| repeat ((wtm_at "zb2"); (fail_if_success any_goals with_reducible (first | refine zs12 ?_ | refine zs22 ?_ | refine zs17 ?_ | refine zs23 ?_ | refine zs9 ?_)); (wtm_at "zw1")))
local macro_rules | `(tactic| walk_at "execs cons") => `(tactic| wtm_at "zfz")
local macro_rules | `(tactic| walk_at "eval Name") => `(tactic| wtm_at "zy1")
theorem CallsIntN.use {w : World} {f : Addr} {vs : List Value} {need : List (Addr × Obj) → Prop} {x : Int} {A : Around} {p : Program} {loose : List Str} {mean : ExcName → Option Value} {mg mb : Str → Option Value} {dp un : Nat} {gd : Option (List Code)} {cn : Str} {cs : Scope} {a : Addr} {ccd : Value} {cl : List (Str × Addr)} {outer : List Env} {A₀ : Around} {base h₀ : Heap} {L : Addr} {m : Str → Option Value} {news : List (Addr × Obj)} {s : Shared}
    {Q E : Value → Shared → Prop} (C : CallsIntN w f vs need x) (hA : A = ktrTop dp un gd cn cs L a ccd cl outer) (B : Below A₀ base outer h₀) (F : Fr h₀ L s.heap m) (X : (hd.heap_39 w.params).In h₀) (N : News h₀ L s.heap news) (T : Top p loose mean mg mb h₀) (hk : cs.kind = .function) (hn : need news) (h1 : dp + 4 < recursionLimit) (h2 : un + 8 * 4 < cLine)
    (h : ∀ t h' tk', Fr h₀ L h' m → News h₀ L h' news → Q (.int x t) { s with heap := h', toks := tk' }) :
    wpAny (model PySem.Challenge.rw_wb0065_01.row.prog w) A (call (.ref f) vs) Q E s := by
  subst hA
  exact C p loose mean mg mb dp un gd cn cs a ccd cl outer A₀ base h₀ L m news s Q E B F X N T hk hn h1 h2 h
local macro_rules | `(tactic| walk_at "CompEnd") => `(tactic| (rename Fr _ _ _ _ => uF; rename News _ _ _ _ => uN; k_dflt (refine LCg.CompEnd.intro uF uN _ (fun p hp => hp) (by simp only [LCg.Off3, and_true]; assumption) (Or.inr ⟨_, by repeat (first | with_reducible exact List.mem_cons_self | with_reducible refine List.mem_cons_of_mem _ ?_), rfl, _, rfl⟩) ?_)))
/-- the two rows of figures -/
structure Six where
  a : Nat
  b : Nat
  c : Nat
  d : Nat
  e : Nat
  f : Nat
def Six.Small (k : Six) : Prop := k.a < 10 ∧ k.b < 10 ∧ k.c < 10 ∧ k.d < 10 ∧ k.e < 10 ∧ k.f < 10
def Six.one (k : Six) (x y : Int) : Int := k.a * x + k.b * y + k.c
def Six.two (k : Six) (x y : Int) : Int := k.d * x + k.e * y + k.f
/-- do these codes tell the line from x, y on -/
def tells (k : Six) (c0 c1 : Int) : Int → Int → List Int → Bool
  | _, _, [] => true
  | x, y, d :: r => if c0 % d = x ∧ c1 % d = y then tells k c0 c1 (k.one x y) (k.two x y) r else false
/-- a row of signs lies in the ledger -/
def RowAt (a b c : Nat) (R : Addr) (rest : List (Addr × Obj)) : Prop := Ex6 fun r0 r1 r2 r3 r4 r5 => Ex3 fun r6 r7 r8 => ∃ e, (R, W.listOf [.int 256 r0, .int 16 r1, .int (258 + (a : Int)) r2, .int 14 r3, .int 257 r4, .int 16 r5, .int (258 + (b : Int)) r6, .int 14 r7, .int (258 + (c : Int)) r8].toArray e) ∈ rest
/-- a list of two ints -/
def PairAt (x y : Int) (C : Addr) (rest : List (Addr × Obj)) : Prop := ∃ t u e, (C, W.listOf [.int x t, .int y u].toArray e) ∈ rest
set_option maxRecDepth 100000 in
set_option maxHeartbeats 8000000 in
theorem ct_tells (w : World) (CO FI DI RO R0 R1 : Addr) (c0 c1 x0 y0 : Int) (us : List Value) (ds : List Int) (k : Six) (e1 e2 : Nat) (hus : IntsAre us ds) (hk6 : k.Small) (hd4 : ds.length = 4)
    (hds : ∀ d ∈ ds, 0 < d ∧ Fit c0 d ∧ Fit c1 d) :
    CallsL w 148 [.ref CO, .ref FI, .ref DI, .ref RO] 80 (fun rest => PairAt c0 c1 CO rest ∧ PairAt x0 y0 FI rest ∧ (DI, W.listOf us.toArray e1) ∈ rest ∧ (RO, W.listOf [.ref R0, .ref R1].toArray e2) ∈ rest ∧ RowAt k.a k.b k.c R0 rest ∧ RowAt k.d k.e k.f R1 rest)
      (fun v new => new = [] ∧ v = .bool (tells k c0 c1 x0 y0 ds)) := by
  unfold CallsL
  k_fill
  intro p loose mean mg mb dp un gd cn cs ca ccd cl outer A₀ base h₀ L m rest s Q E B F X Ld T hk hC1 hC2 hC hd' hu hret
  refine frz fun Gz fz => ?_
  obtain ⟨h6a, h6b, h6c, h6d, h6e, h6f⟩ := hk6
  refine fz ?_
  clear fz Gz
  refine wpAny_call ?_
  refine frz fun Gz fz => ?_
  obtain ⟨ps, c, o, qs, d, u, N, hT, hO⟩ := Ld
  refine fz ?_
  clear fz Gz
  refine frz fun Gz fz => ?_
  obtain ⟨⟨tc0, tc1, e3, mC⟩, ⟨tx0, ty0, e4, mF⟩, mD, mR, ⟨r0, r1, r2, r3, r4, r5, r6, r7, r8, e5, mR0⟩, ⟨s0, s1, s2, s3, s4, s5, s6, s7, s8, e6, mR1⟩⟩ := hC
  refine fz ?_
  clear fz Gz
  k_dflt (refine' code_defC (binds := [(Str.ofString "codes", .ref CO), (Str.ofString "first", .ref FI), (Str.ofString "divisors", .ref DI), (Str.ofString "rows", .ref RO)]) ?k1 ?k2 ?k3 ?k4 ?k5 ?kA ?kF ?kK ?k6 ?k7 ?k8 ?k9 ?kB ?kD ?_ ?c2 ?c3 ?c4; (case kA => exact rfl); (case kF => exact rfl); (case kK => exact hk); (case k1 => exact B); (case k2 => exact F); (case k3 => exact X); (case k4 => exact N); (case k5 => exact T); (case k6 => k_is); (case k7 => k_is); (case k8 => show dp < recursionLimit; omega); (case k9 => exact BindsTo.of_eq rfl); (case kB => exact rfl); (case kD => decide +kernel); (case c2 => exact rfl); (case c3 => exact rfl); (case c4 => exact rfl); intro g' L' h' tk' cells' FG' F' N' Y' B' X' T' l1)
  obtain ⟨oc, hE, dc⟩ := CellsAre.one Y'
  subst hE
  clear Y'
  simp only [List.cons_append, List.nil_append] at N'
  with_reducible refine wpAny_noRaise ?_
  clear B F X N T
  have hC1' := CodeHd.keeps hC1 FG'.keep
  have hC2' := CodeHd.keeps hC2 FG'.keep
  ktr_unf
  rename Fr _ _ _ _ => F9
  refine frz fun Gz fz => ?_
  obtain ⟨M0, ⟨hM1, hM2, hM3⟩, F8⟩ : ∃ M0 : Str → Option Value, (M0 (Str.ofString "due") = some (.ref FI) ∧ M0 (Str.ofString "codes") = some (.ref CO) ∧ M0 (Str.ofString "rows") = some (.ref RO)) ∧ M0 (Str.ofString "divisors") = some (.ref DI) ∧ Fr g' L' _ M0 := ⟨_, ⟨rfl, rfl, rfl⟩, rfl, F9⟩
  refine fz ?_
  clear fz Gz
  obtain ⟨hM4, F8⟩ := F8
  clear F9
  with_unfolding_all refine' For_turns F8 ?_
  ktr_unf
  rename News _ _ _ _ => N9
  have N8 : News g' L' _ ((30, tabObj ps) :: (c, o) :: (37, tabObj qs) :: (d, u) :: (L' + 1, oc) :: (FI, PySem.W.listOf [.int x0 tx0, .int y0 ty0].toArray e4) :: rest) := news_of N9 (fun p hp => by
    simp only [List.mem_cons] at hp ⊢
    rcases hp with h | h | h | h | h | h | h
    · exact .inr (.inl h)
    · exact .inr (.inr (.inl h))
    · exact .inr (.inr (.inr (.inl h)))
    · exact .inr (.inr (.inr (.inr (.inl h))))
    · exact .inl h
    · exact .inr (.inr (.inr (.inr (.inr (h ▸ mF)))))
    · exact .inr (.inr (.inr (.inr (.inr h)))))
  clear N9
  have lr : ∀ p ∈ rest, p.1 < L' + 1 := fun p hp => Nat.lt_succ_of_lt (l1 p (.tail _ (.tail _ (.tail _ (.tail _ hp)))))
  have q30 : (30 : Nat) < L' + 1 := Nat.lt_succ_of_lt (l1 _ (.head _))
  have q37 : (37 : Nat) < L' + 1 := Nat.lt_succ_of_lt (l1 _ (.tail _ (.tail _ (.head _))))
  have qc : @LT.lt Nat _ c (L' + 1) := Nat.lt_succ_of_lt (l1 _ (.tail _ (.head _)))
  have qd : @LT.lt Nat _ d (L' + 1) := Nat.lt_succ_of_lt (l1 _ (.tail _ (.tail _ (.tail _ (.head _)))))
  with_unfolding_all refine' iter_listTurns (lo := PySem.W.listOf us.toArray e1) (vs := us) (by rfl) F8 N8 (.tail _ (.tail _ (.tail _ (.tail _ (.tail _ (.tail _ mD)))))) (by rfl) rfl ?_
  intro I lI
  refine list_inv (J := fun rem m' news' => Ex6 fun ps c o qs d u => Ex6 fun oc ov due x y t1 => Ex3 fun t2 e ds' => An4 (news' = (30, tabObj ps) :: (c, o) :: (37, tabObj qs) :: (d, u) :: (L' + 1, oc) :: (due, PySem.W.listOf [.int x t1, .int y t2].toArray e) :: rest) (TabsOk ps c o qs d u) (OffT c d ((L' + 1, oc) :: (due, PySem.W.listOf [.int x t1, .int y t2].toArray e) :: rest)) (An4 ((@Ne Nat c I ∧ @Ne Nat d I ∧ @Ne Nat due I ∧ @Ne Nat due (L' + 1))) (oc.data = .cell ov) (IntsAre rem ds') (An4 ((∀ z ∈ ds', 0 < z ∧ Fit c0 z ∧ Fit c1 z)) (tells k c0 c1 x y ds' = tells k c0 c1 x0 y0 ds) (m' (Str.ofString "due") = some (.ref due)) (m' (Str.ofString "codes") = some (.ref CO) ∧ m' (Str.ofString "rows") = some (.ref RO))))) ?turn ?done _ _ _ ?start
  case start => exact ⟨ps, c, o, qs, d, u, oc, _, FI, x0, y0, tx0, ty0, e4, ds, rfl, hT, OffT.lt q30 q37 qc qd (OffT.cons (hO _ mF) hO), ⟨Nat.ne_of_lt (lI _ (.tail _ (.head _))), Nat.ne_of_lt (lI _ (.tail _ (.tail _ (.tail _ (.head _))))), Nat.ne_of_lt (lI _ (.tail _ (.tail _ (.tail _ (.tail _ (.tail _ (.head _)))))) ), Nat.ne_of_lt (lr _ mF)⟩, dc, hus, hds, rfl, hM1, hM2, hM3⟩
  case turn =>
    intro v r m1 news1 o1 h1 tk1 z9
    refine frz fun Gz fz => ?_
    obtain ⟨ps, c, o, qs, d, u, oc, ov, due, x, y, t1, t2, e, ds', rfl, hT, hO, ⟨nc, nd, nu, nl⟩, doc, hi, hz, htl, z1, z2, z3⟩ := z9
    refine fz ?_
    clear fz Gz
    revert hz htl
    refine ints_uncons hi fun z tz zr hi => ?_
    intro hz htl F1 N1
    change Fr g' L' _ _ at F1
    change News g' L' _ _ at N1
    · clear F8 N8 hM1 hM2 hM3 hM4
      obtain ⟨hz0, hfa, hfb⟩ := hz z (.head _)
      ktr_unf
      rename Fr _ _ _ _ => F9
      rename News _ _ _ _ => N9
      have hIr : ∀ p ∈ rest, p.1 < I := fun p hp => lI p (.tail _ (.tail _ (.tail _ (.tail _ (.tail _ (.tail _ hp))))))
      have hI1 : @Ne Nat I 30 ∧ @Ne Nat I 37 ∧ @Ne Nat I c ∧ @Ne Nat I d := ⟨Nat.ne_of_gt (lI _ (.head _)), Nat.ne_of_gt (lI _ (.tail _ (.tail _ (.head _)))), Ne.symm nc, Ne.symm nd⟩
      have hnI : @Ne Nat (L' + 1) I := Nat.ne_of_lt (lI _ (.tail _ (.tail _ (.tail _ (.tail _ (.head _))))))
      with_reducible refine' CallsL.use (ct_left w CO c0 c1 z e3 tc0 tc1 tz hz0 hfa hfb) ?hA B' F9 X' (Led.pack (new := (I, o1) :: (L' + 1, oc) :: (due, PySem.W.listOf [.int x t1, .int y t2].toArray e) :: rest) N9 ?hs hT (OffT.cons hI1 hO)) T' ?hk hC1' hC2' ?hn ?h1 ?h2 ?_
      case hA => exact rfl
      case hk => exact rfl
      case hn => exact .tail _ (.tail _ (.tail _ mC))
      case h1 => (show dp + 1 + _ < recursionLimit; omega)
      case h2 => (show un + 3 + 8 * _ < cLine; omega)
      case hs =>
        intro p hp
        refine ZSub.go ?_ p hp; wtm_at "zsub"
      clear F9 N9 hT
      intro v9 new h' tk' F9 Ld9 z9
      refine frz fun Gz fz => ?_
      obtain ⟨qn, ta, tb, rfl, rfl⟩ := z9
      refine fz ?_
      clear fz Gz
      intro lt9
      refine frz fun Gz fz => ?_
      obtain ⟨ps, c, o, qs, d, u, N9, hT, hO⟩ := Ld9
      refine fz ?_
      clear fz Gz
      simp only [List.cons_append, List.nil_append] at N9 hO
      ktr_unf
      have lq : ∀ p ∈ (I, o1) :: (L' + 1, oc) :: (due, PySem.W.listOf [.int x t1, .int y t2].toArray e) :: rest, p.1 < qn := fun p hp => lt9 _ (.head _) p hp
      have hqc : @Ne Nat c (L' + 1) ∧ @Ne Nat d (L' + 1) ∧ @Ne Nat qn (L' + 1) := ⟨Ne.symm (hO _ (.tail _ (.tail _ (.head _)))).2.2.1, Ne.symm (hO _ (.tail _ (.tail _ (.head _)))).2.2.2, Nat.ne_of_gt (lq _ (.tail _ (.head _)))⟩
      have hqi : @Ne Nat c I ∧ @Ne Nat d I ∧ @Ne Nat qn I ∧ @Ne Nat 30 I ∧ @Ne Nat 37 I := ⟨Ne.symm (hO _ (.tail _ (.head _))).2.2.1, Ne.symm (hO _ (.tail _ (.head _))).2.2.2, Nat.ne_of_gt (lq _ (.head _)), Ne.symm (hO _ (.tail _ (.head _))).1, Ne.symm (hO _ (.tail _ (.head _))).2.1⟩
      have N8 : News g' L' _ ((L' + 1, oc) :: (30, tabObj ps) :: (c, o) :: (37, tabObj qs) :: (d, u) :: (qn, PySem.W.listOf [.int (c0 % z) ta, .int (c1 % z) tb].toArray 0) :: (I, o1) :: (due, PySem.W.listOf [.int x t1, .int y t2].toArray e) :: rest) := news_of N9 (fun p hp => by
        refine ZSub.go ?_ p hp; wtm_at "zsub")
      clear N9
      have hall : ∀ p ∈ (30, tabObj ps) :: (c, o) :: (37, tabObj qs) :: (d, u) :: (qn, PySem.W.listOf [.int (c0 % z) ta, .int (c1 % z) tb].toArray 0) :: (I, o1) :: (due, PySem.W.listOf [.int x t1, .int y t2].toArray e) :: rest, p.1 ≠ L' + 1 :=
        List.forall_mem_cons.mpr ⟨Nat.ne_of_lt q30, List.forall_mem_cons.mpr ⟨hqc.1, List.forall_mem_cons.mpr ⟨Nat.ne_of_lt q37, List.forall_mem_cons.mpr ⟨hqc.2.1, List.forall_mem_cons.mpr ⟨hqc.2.2, List.forall_mem_cons.mpr ⟨Ne.symm hnI, List.forall_mem_cons.mpr ⟨nl, fun p hp => Nat.ne_of_lt (lr p hp)⟩⟩⟩⟩⟩⟩⟩
      k_dflt (refine' storeX_C F9 N8 ?c (UpdF.head ?U) doc ?_ ?a ?b; (case a => rfl); (case b => rfl); (case c => exact rfl); (case U => exact hall))
      clear F9 N8
      intro h8 oc' F9 N9 doc'
      try dsimp only at N9
      ktr_unf
      with_reducible refine' ne_intsK (News.isList N9 ?m1) (ns := [c0 % z, c1 % z]) ?i1 (News.isList N9 ?m2) (ms := [x, y]) ?i2 ?hu ?_
      case m1 => exact .tail _ (.tail _ (.tail _ (.tail _ (.tail _ (.head _)))))
      case m2 => exact .tail _ (.tail _ (.tail _ (.tail _ (.tail _ (.tail _ (.tail _ (.head _)))))))
      case i1 => exact .cons _ _ (.cons _ _ .nil)
      case i2 => exact .cons _ _ (.cons _ _ .nil)
      case hu => (show un + 3 + 64 < cLine; omega)
      ktr_unf
      by_cases hxy : c0 % z = x ∧ c1 % z = y
      · with_reducible refine ite_neg (by simp [hxy]) ?_
        have N8 := news_of (l' := (RO, PySem.W.listOf [.ref R0, .ref R1].toArray e2) :: (R0, W.listOf [.int 256 r0, .int 16 r1, .int (258 + (k.a : Int)) r2, .int 14 r3, .int 257 r4, .int 16 r5, .int (258 + (k.b : Int)) r6, .int 14 r7, .int (258 + (k.c : Int)) r8].toArray e5) ::
          (R1, W.listOf [.int 256 s0, .int 16 s1, .int (258 + (k.d : Int)) s2, .int 14 s3, .int 257 s4, .int 16 s5, .int (258 + (k.e : Int)) s6, .int 14 s7, .int (258 + (k.f : Int)) s8].toArray e6) :: _) N9
          (List.forall_mem_cons.mpr ⟨.tail _ (.tail _ (.tail _ (.tail _ (.tail _ (.tail _ (.tail _ (.tail _ mR))))))), List.forall_mem_cons.mpr ⟨.tail _ (.tail _ (.tail _ (.tail _ (.tail _ (.tail _ (.tail _ (.tail _ mR0))))))), List.forall_mem_cons.mpr ⟨.tail _ (.tail _ (.tail _ (.tail _ (.tail _ (.tail _ (.tail _ (.tail _ mR1))))))), fun _ h => h⟩⟩⟩)
        clear N9
        ktr_unf
        rename Fr _ _ _ _ => F9
        rename News _ _ _ _ => N9
        with_reducible refine' CallsIntN.use (ct_worth w R0 qn (c0 % z) (c1 % z) k.a k.b k.c e5 0 ta tb r0 r1 r2 r3 r4 r5 r6 r7 r8 h6a h6b h6c) ?hA B' F9 X' N9 T' ?hk ?hn ?h1 ?h2 ?_
        case hA => exact rfl
        case hk => exact rfl
        case hn => exact ⟨by repeat (first | with_reducible assumption | with_reducible exact List.mem_cons_self | with_reducible refine List.mem_cons_of_mem _ ?_), by repeat (first | with_reducible assumption | with_reducible exact List.mem_cons_self | with_reducible refine List.mem_cons_of_mem _ ?_)⟩
        case h1 => (show dp + 1 + _ < recursionLimit; omega)
        case h2 => (show un + 3 + 8 * _ < cLine; omega)
        clear F9 N9
        intro t4 h' tk' F9 N9
        ktr_unf
        rename Fr _ _ _ _ => F9
        rename News _ _ _ _ => N9
        with_reducible refine' CallsIntN.use (ct_worth w R1 qn (c0 % z) (c1 % z) k.d k.e k.f e6 0 ta tb s0 s1 s2 s3 s4 s5 s6 s7 s8 h6d h6e h6f) ?hA B' F9 X' N9 T' ?hk ?hn ?h1 ?h2 ?_
        case hA => exact rfl
        case hk => exact rfl
        case hn => exact ⟨by repeat (first | with_reducible assumption | with_reducible exact List.mem_cons_self | with_reducible refine List.mem_cons_of_mem _ ?_), by repeat (first | with_reducible assumption | with_reducible exact List.mem_cons_self | with_reducible refine List.mem_cons_of_mem _ ?_)⟩
        case h1 => (show dp + 1 + _ < recursionLimit; omega)
        case h2 => (show un + 3 + 8 * _ < cLine; omega)
        clear F9 N9
        intro t5 h' tk' F9 N9
        ktr_unf
        rename_i D9 h9 tk9 F9 N9 oD
        refine frz fun Gz fz => ?_
        obtain ⟨-, -, -, dL, d30, dc9, d37, dd9, -, dI, -, -⟩ := oD
        refine fz ?_
        clear fz Gz
        have hO' : OffT c d ((L' + 1, oc') :: (D9, LCg.lst [.int (k.a * (c0 % z) + k.b * (c1 % z) + k.c) t4, .int (k.d * (c0 % z) + k.e * (c1 % z) + k.f) t5]) :: rest) :=
          OffT.cons ⟨Nat.ne_of_gt q30, Nat.ne_of_gt q37, Ne.symm hqc.1, Ne.symm hqc.2.1⟩ (OffT.cons ⟨Ne.symm d30, Ne.symm d37, Ne.symm dc9, Ne.symm dd9⟩ (hO.sub fun p hp => .tail _ (.tail _ (.tail _ (.tail _ hp)))))
        refine ⟨_, _, _, (30, tabObj ps) :: (c, o) :: (37, tabObj qs) :: (d, u) :: (L' + 1, oc') :: (D9, LCg.lst [.int (k.a * (c0 % z) + k.b * (c1 % z) + k.c) t4, .int (k.d * (c0 % z) + k.e * (c1 % z) + k.f) t5]) :: rest, rfl, F9, news_of N9 (fun p hp => ?_), fun p hp q hq => ?_, ⟨.tail _ (.tail _ (.tail _ (.tail _ (.tail _ (.tail _ mD))))), trivial⟩,
          ps, c, o, qs, d, u, oc', _, D9, _, _, t4, t5, 2, zr, rfl, hT, hO', ⟨hqi.1, hqi.2.1, Ne.symm dI, Ne.symm dL⟩, doc', hi, fun y hy => hz y (.tail _ hy), ?_, rfl, z2, z3⟩
        · simp only [List.cons_append, List.nil_append, List.mem_cons] at hp ⊢
          rcases hp with h | h | h | h | h | h | h | h
          · exact .inr (.inr (.inr (.inr (.inr (.inr (.inr (.inr (.inr (.inr (.inl h))))))))))
          · exact .inr (.inr (.inr (.inr (.inr (.inl h)))))
          · exact .inr (.inr (.inr (.inr (.inr (.inr (.inl h))))))
          · exact .inr (.inr (.inr (.inr (.inr (.inr (.inr (.inl h)))))))
          · exact .inr (.inr (.inr (.inr (.inr (.inr (.inr (.inr (.inl h))))))))
          · exact .inr (.inr (.inr (.inr (.inl h))))
          · exact .inl h
          · exact .inr (.inr (.inr (.inr (.inr (.inr (.inr (.inr (.inr (.inr (.inr (.inr h)))))))))))
        · rw [List.mem_singleton.mp hq]
          simp only [List.mem_cons] at hp
          rcases hp with rfl | rfl | rfl | rfl | rfl | rfl | hp
          · exact hqi.2.2.2.1
          · exact hqi.1
          · exact hqi.2.2.2.2
          · exact hqi.2.1
          · exact hnI
          · exact Ne.symm dI
          · exact Nat.ne_of_lt (hIr p hp)
        · rw [← htl]
          show tells k c0 c1 (k.one (c0 % z) (c1 % z)) (k.two (c0 % z) (c1 % z)) zr = _
          rw [hxy.1, hxy.2]
          simp [tells, hxy]
      · with_reducible refine ite_pos (by by_cases h : c0 % z = x <;> simp_all) ?_
        ktr_unf
        with_reducible refine leaveK_ F9 N9 ?_
        intro kF kN
        refine hret _ [] _ _ kF (Led.pack (new := rest) kN (fun p hp => ?_) hT (hO.sub fun p hp => .tail _ (.tail _ (.tail _ (.tail _ hp))))) ⟨rfl, ?_⟩ (fun q hq => (nomatch hq))
        · refine ZSub.go ?_ p hp; wtm_at "zsub"
        · rw [← htl]
          simp [tells, hxy]
  case done =>
    intro m1 news1 h1 tk1 z9
    refine frz fun Gz fz => ?_
    obtain ⟨ps, c, o, qs, d, u, oc, ov, due, x, y, t1, t2, e, ds', rfl, hT, hO, ⟨nc, nd, nu, nl⟩, doc, hi, hz, htl, z1, z2, z3⟩ := z9
    refine fz ?_
    clear fz Gz
    intro F1 N1
    change Fr g' L' _ _ at F1
    change News g' L' _ _ at N1
    revert hz htl
    refine ints_unnil hi ?_
    intro hz htl
    clear F8 N8 hM1 hM2 hM3 hM4
    ktr_unf
    rename Fr _ _ _ _ => F9
    rename News _ _ _ _ => N9
    with_reducible refine leaveK_ F9 N9 ?_
    intro kF kN
    refine hret _ [] _ _ kF (Led.pack (new := rest) kN (fun p hp => ?_) hT (hO.sub fun p hp => .tail _ (.tail _ hp))) ⟨rfl, ?_⟩ (fun q hq => (nomatch hq))
    · refine ZSub.go ?_ p hp; wtm_at "zsub"
    · rw [← htl]
      rfl
end
section
open PySem PySem.W PyProof.Rows PySem.Calls
def CallsBool (w : World) (f : Addr) (vs : List Value) (x : Bool) : Prop :=
  ∀ (p : Program) (loose : List Str) (mean : ExcName → Option Value) (mg mb : Str → Option Value) (dp un : Nat) (gd : Option (List Code)) (cn : Str) (cs : Scope) (a : Addr) (ccd : Value) (cl : List (Str × Addr)) (outer : List Env) (A₀ : Around) (base h₀ : Heap) (L : Addr) (m : Str → Option Value) (news : List (Addr × Obj)) (s : Shared)
    (Q E : Value → Shared → Prop),
    Below A₀ base outer h₀ → Fr h₀ L s.heap m → (hd.heap_39 w.params).In h₀ → News h₀ L s.heap news → Top p loose mean mg mb h₀ → cs.kind = .function → dp + 2 < recursionLimit →
    (∀ h' tk', Fr h₀ L h' m → News h₀ L h' news → Q (.bool x) { s with heap := h', toks := tk' }) →
    wpAny (model PySem.Challenge.rw_wb0065_01.row.prog w) (ktrTop dp un gd cn cs L a ccd cl outer) (call (.ref f) vs) Q E s
theorem CallsBool.use {w : World} {f : Addr} {vs : List Value} {x : Bool} {A : Around} {p : Program} {loose : List Str} {mean : ExcName → Option Value} {mg mb : Str → Option Value} {dp un : Nat} {gd : Option (List Code)} {cn : Str} {cs : Scope} {a : Addr} {ccd : Value} {cl : List (Str × Addr)} {outer : List Env} {A₀ : Around} {base h₀ : Heap} {L : Addr} {m : Str → Option Value} {news : List (Addr × Obj)} {s : Shared}
    {Q E : Value → Shared → Prop} (C : CallsBool w f vs x) (hA : A = ktrTop dp un gd cn cs L a ccd cl outer) (B : Below A₀ base outer h₀) (F : Fr h₀ L s.heap m) (X : (hd.heap_39 w.params).In h₀) (N : News h₀ L s.heap news) (T : Top p loose mean mg mb h₀) (hk : cs.kind = .function) (h1 : dp + 2 < recursionLimit)
    (h : ∀ h' tk', Fr h₀ L h' m → News h₀ L h' news → Q (.bool x) { s with heap := h', toks := tk' }) :
    wpAny (model PySem.Challenge.rw_wb0065_01.row.prog w) A (call (.ref f) vs) Q E s := by
  subst hA
  exact C p loose mean mg mb dp un gd cn cs a ccd cl outer A₀ base h₀ L m news s Q E B F X N T hk h1 h
local macro_rules | `(tactic| ktr_unf) => `(tactic| repeat ((wtm_at "zb2"); (wtm_at "zw3")))
set_option maxRecDepth 100000 in
set_option maxHeartbeats 8000000 in
theorem ct_term (w : World) (x : Int) (tx : Tok) : CallsBool w 94 [.int x tx] (decide (x < 256)) := by
  unfold CallsBool
  k_fill
  intro p loose mean mg mb dp un gd cn cs ca ccd cl outer A₀ base h₀ L m news s Q E B F X N T hk hd' hret
  refine wpAny_call ?_
  k_dflt (refine' code_def (binds := [(Str.ofString "x", .int x tx)]) ?k1 ?k2 ?k3 ?k4 ?k5 ?kA ?kF ?kK ?k6 ?k7 ?k8 ?k9 ?kB ?_ ?c2 ?c3 ?c4 ?c5; (case kA => exact rfl); (case kF => exact rfl); (case kK => exact hk); (case k1 => exact B); (case k2 => exact F); (case k3 => exact X); (case k4 => exact N); (case k5 => exact T); (case k6 => k_is); (case k7 => k_is); (case k8 => show dp < recursionLimit; omega); (case k9 => exact BindsTo.of_eq rfl); (case c5 => decide); (case kB => exact locs rfl); (case c2 => exact rfl); (case c3 => exact rfl); (case c4 => exact rfl); intro g L' h' FG F' N' B' X' T')
  try dsimp only
  with_reducible refine wpAny_noRaise ?_
  clear B F X N T
  ktr_unf
  rename Fr _ _ _ _ => F9
  rename News _ _ _ _ => N9
  with_reducible refine leaveK_ F9 N9 ?_
  intro kF kN
  exact hret _ _ kF kN
set_option maxRecDepth 100000 in
set_option maxHeartbeats 8000000 in
theorem ct_nonterm (w : World) (x : Int) (tx : Tok) : CallsBool w 101 [.int x tx] (decide (x ≥ 256)) := by
  unfold CallsBool
  k_fill
  intro p loose mean mg mb dp un gd cn cs ca ccd cl outer A₀ base h₀ L m news s Q E B F X N T hk hd' hret
  refine wpAny_call ?_
  k_dflt (refine' code_def (binds := [(Str.ofString "x", .int x tx)]) ?k1 ?k2 ?k3 ?k4 ?k5 ?kA ?kF ?kK ?k6 ?k7 ?k8 ?k9 ?kB ?_ ?c2 ?c3 ?c4 ?c5; (case kA => exact rfl); (case kF => exact rfl); (case kK => exact hk); (case k1 => exact B); (case k2 => exact F); (case k3 => exact X); (case k4 => exact N); (case k5 => exact T); (case k6 => k_is); (case k7 => k_is); (case k8 => show dp < recursionLimit; omega); (case k9 => exact BindsTo.of_eq rfl); (case c5 => decide); (case kB => exact locs rfl); (case c2 => exact rfl); (case c3 => exact rfl); (case c4 => exact rfl); intro g L' h' FG F' N' B' X' T')
  try dsimp only
  with_reducible refine wpAny_noRaise ?_
  clear B F X N T
  ktr_unf
  rename Fr _ _ _ _ => F9
  rename News _ _ _ _ => N9
  with_reducible refine leaveK_ F9 N9 ?_
  intro kF kN
  exact hret _ _ kF kN
set_option maxRecDepth 100000 in
set_option maxHeartbeats 8000000 in
theorem ct_eof (w : World) (x : Int) (tx : Tok) : CallsBool w 108 [.int x tx] (decide (x = 0)) := by
  unfold CallsBool
  k_fill
  intro p loose mean mg mb dp un gd cn cs ca ccd cl outer A₀ base h₀ L m news s Q E B F X N T hk hd' hret
  refine wpAny_call ?_
  k_dflt (refine' code_def (binds := [(Str.ofString "x", .int x tx)]) ?k1 ?k2 ?k3 ?k4 ?k5 ?kA ?kF ?kK ?k6 ?k7 ?k8 ?k9 ?kB ?_ ?c2 ?c3 ?c4 ?c5; (case kA => exact rfl); (case kF => exact rfl); (case kK => exact hk); (case k1 => exact B); (case k2 => exact F); (case k3 => exact X); (case k4 => exact N); (case k5 => exact T); (case k6 => k_is); (case k7 => k_is); (case k8 => show dp < recursionLimit; omega); (case k9 => exact BindsTo.of_eq rfl); (case c5 => decide); (case kB => exact locs rfl); (case c2 => exact rfl); (case c3 => exact rfl); (case c4 => exact rfl); intro g L' h' FG F' N' B' X' T')
  try dsimp only
  with_reducible refine wpAny_noRaise ?_
  clear B F X N T
  ktr_unf
  rename Fr _ _ _ _ => F9
  rename News _ _ _ _ => N9
  with_reducible refine leaveK_ F9 N9 ?_
  intro kF kN
  exact hret _ _ kF kN
end
section
open PySem PySem.W PyProof.Rows PySem.Calls PySem.Builtin
/-- the signs of the two rows' text -/
def tx (k : Six) : List Nat := [120, 42, 48 + k.a, 43, 121, 42, 48 + k.b, 43, 48 + k.c, 59, 120, 42, 48 + k.d, 43, 121, 42, 48 + k.e, 43, 48 + k.f]
def textOf (k : Six) : Str := ⟨(tx k).toArray⟩
def alnum (c : Nat) : Bool := c == 120 || c == 121 || (48 ≤ c && c ≤ 57)
/-- a sign's number -/
def sgn (c : Nat) : Int := if c = 42 then 16 else if c = 43 then 14 else if c = 59 then 13 else if c = 120 then 256 else if c = 121 then 257 else 210 + c
def plainKey (d : DictEntry) : Bool := !d.refKey && match d.key with
  | .str k _ => k.cps.all fun c => !alnum c
  | _ => false
theorem mkDict {K : Frag} {es : Array DictEntry} {n : Nat} (h : List.lookup 85 K = some ⟨.type "dict", none, .dict es n, #[]⟩) (h2 : es.toList.all plainKey = true) : ∃ (es : Array DictEntry) (n : Nat), List.lookup 85 K = some ⟨.type "dict", none, .dict es n, #[]⟩ ∧ es.toList.all plainKey = true := ⟨_, _, h, h2⟩
theorem mkKey {K : Frag} {x : Str} {k : Int} {t : Tok} (h : nsIn K 85 x = some (some (.int k t))) : ∃ t, nsIn K 85 x = some (some (.int k t)) := ⟨_, h⟩
set_option maxRecDepth 100000 in
theorem dict85 (w : World) : (PySem.Challenge.rw_wb0065_01 = PySem.Challenge.rw_wb0065_01) ∧ ∃ (es : Array DictEntry) (n : Nat), List.lookup 85 (hd.heap_39 w.params) = some ⟨.type "dict", none, .dict es n, #[]⟩ ∧ es.toList.all plainKey = true := by
  k_fill
  refine' ⟨rfl, mkDict ?l ?a⟩
  case l => k_is
  kernel_rfl
theorem keys85 (w : World) : (PySem.Challenge.rw_wb0065_01 = PySem.Challenge.rw_wb0065_01) ∧ (∃ t, nsIn (hd.heap_39 w.params) 85 ⟨#[42]⟩ = some (some (.int 16 t))) ∧ (∃ t, nsIn (hd.heap_39 w.params) 85 ⟨#[43]⟩ = some (some (.int 14 t))) ∧ (∃ t, nsIn (hd.heap_39 w.params) 85 ⟨#[59]⟩ = some (some (.int 13 t))) := by
  k_fill
  refine' ⟨rfl, mkKey ?a, mkKey ?b, mkKey ?c⟩
  case a => k_is
  case b => k_is
  case c => k_is
theorem no_key (w : World) (x : Str) (h : x.cps.any alnum = true) : nsIn (hd.heap_39 w.params) 85 x = some none := by
  obtain ⟨-, es, n, hl, ha⟩ := dict85 w
  have hall := List.all_eq_true.mp ha
  unfold nsIn
  rw [hl]
  dsimp only
  have hf : es.toList.find? (·.key.isStr x) = none := by
    rw [List.find?_eq_none]
    intro e he
    have h1 := hall e he
    unfold plainKey at h1
    cases hk : e.key <;> simp only [hk, Bool.and_false, Bool.false_eq_true, Bool.and_eq_true] at h1
    rename_i kk t
    intro h2
    have h3 : kk = x := by simpa [Value.isStr] using h2
    subst h3
    obtain ⟨c, hc, hc2⟩ := Array.any_eq_true'.mp h
    have h4 := (Array.all_eq_true'.mp h1.2) c hc
    rw [hc2] at h4
    exact absurd h4 (by decide)
  have hr : es.toList.any (·.refKey) = false := by
    rw [List.any_eq_false]
    intro e he
    have h1 := hall e he
    unfold plainKey at h1
    simp only [Bool.and_eq_true, Bool.not_eq_true'] at h1
    simp [h1.1]
  rw [hf, hr]
  rfl
theorem slice_lit {x : Str} {n : Nat} {i j : Int} {l : List Nat} {r : Str} (hx : x.length = n) (hl : Str.strSliceIndices (some i) (some j) 1 n = l) (hn : l.length ≠ n) (hr : (⟨(l.filterMap (x.cps[·]?)).toArray⟩ : Str) = r) : Txt.slice x (some i) (some j) = r := by
  subst hx hl
  unfold Txt.slice
  rw [if_neg (by simpa using hn)]
  exact hr
theorem slice_at (k : Six) (i : Nat) (hi : i < 19) : Txt.slice (textOf k) (some (i : Int)) (some ((i : Int) + 2)) = ⟨(((tx k).drop i).take 2).toArray⟩ := by
  match i, hi with
  | 0, _ => exact slice_lit (n := 19) rfl rfl (by decide) rfl
  | 1, _ => exact slice_lit (n := 19) rfl rfl (by decide) rfl
  | 2, _ => exact slice_lit (n := 19) rfl rfl (by decide) rfl
  | 3, _ => exact slice_lit (n := 19) rfl rfl (by decide) rfl
  | 4, _ => exact slice_lit (n := 19) rfl rfl (by decide) rfl
  | 5, _ => exact slice_lit (n := 19) rfl rfl (by decide) rfl
  | 6, _ => exact slice_lit (n := 19) rfl rfl (by decide) rfl
  | 7, _ => exact slice_lit (n := 19) rfl rfl (by decide) rfl
  | 8, _ => exact slice_lit (n := 19) rfl rfl (by decide) rfl
  | 9, _ => exact slice_lit (n := 19) rfl rfl (by decide) rfl
  | 10, _ => exact slice_lit (n := 19) rfl rfl (by decide) rfl
  | 11, _ => exact slice_lit (n := 19) rfl rfl (by decide) rfl
  | 12, _ => exact slice_lit (n := 19) rfl rfl (by decide) rfl
  | 13, _ => exact slice_lit (n := 19) rfl rfl (by decide) rfl
  | 14, _ => exact slice_lit (n := 19) rfl rfl (by decide) rfl
  | 15, _ => exact slice_lit (n := 19) rfl rfl (by decide) rfl
  | 16, _ => exact slice_lit (n := 19) rfl rfl (by decide) rfl
  | 17, _ => exact slice_lit (n := 19) rfl rfl (by decide) rfl
  | 18, _ => exact slice_lit (n := 19) rfl rfl (by decide) rfl
  | n + 19, h => exact absurd h (by omega)
theorem item_at (k : Six) (i : Nat) (hi : i < 19) : Txt.item (textOf k) (i : Int) = ⟨#[(tx k).getD i 0]⟩ := by
  match i, hi with
  | 0, _ | 1, _ | 2, _ | 3, _ | 4, _ | 5, _ | 6, _ | 7, _ | 8, _ | 9, _ | 10, _ | 11, _ | 12, _ | 13, _ | 14, _ | 15, _ | 16, _ | 17, _ | 18, _ => rfl
  | n + 19, h => exact absurd h (by omega)
theorem dig_alnum {d : Nat} (h : d < 10) : alnum (48 + d) = true := by
  unfold alnum
  simp only [Bool.or_eq_true, Bool.and_eq_true, decide_eq_true_eq]
  exact .inr ⟨by omega, by omega⟩
theorem dig_sgn {d : Nat} (h : d < 10) : sgn (48 + d) = 258 + d := by
  unfold sgn
  rw [if_neg (by omega), if_neg (by omega), if_neg (by omega), if_neg (by omega), if_neg (by omega)]
  omega
def altA : List Nat → Bool
  | [] => false
  | [a] => alnum a
  | a :: _ :: r => alnum a && altA r
theorem altA_pairs : ∀ (l : List Nat) (i : Nat), altA l = true → i < l.length → ((l.drop i).take 2).any alnum = true
  | [], _, h, _ => by cases h
  | [a], 0, h, _ => (Bool.or_false (alnum a)).trans h
  | [_], _ + 1, _, hi => absurd (Nat.lt_of_succ_lt_succ hi) (Nat.not_lt_zero _)
  | a :: b :: r, 0, h, _ => by
    have := (Bool.and_eq_true_iff.mp h).1
    show (alnum a || (alnum b || false)) = true
    rw [this]; rfl
  | a :: b :: [], 1, h, _ => by cases (Bool.and_eq_true_iff.mp h).2
  | a :: b :: [c], 1, h, _ => by
    have : alnum c = true := (Bool.and_eq_true_iff.mp h).2
    show (alnum b || (alnum c || false)) = true
    rw [this, Bool.true_or, Bool.or_true]
  | a :: b :: c :: d :: r, 1, h, _ => by
    have : alnum c = true := (Bool.and_eq_true_iff.mp (Bool.and_eq_true_iff.mp h).2).1
    show (alnum b || (alnum c || false)) = true
    rw [this, Bool.true_or, Bool.or_true]
  | a :: b :: r, i + 2, h, hi => altA_pairs r i (Bool.and_eq_true_iff.mp h).2 (Nat.lt_of_succ_lt_succ (Nat.lt_of_succ_lt_succ hi))
/-- two signs in a row hold a letter or a figure -/
theorem pair_alnum (k : Six) (hk : k.Small) (i : Nat) (hi : i < 19) : (⟨(((tx k).drop i).take 2).toArray⟩ : Str).cps.any alnum = true := by
  obtain ⟨ha, hb, hc, hd, he, hf⟩ := hk
  refine (List.any_toArray).trans (altA_pairs _ i ?_ hi)
  show (alnum 120 && (alnum (48 + k.a) && (alnum 121 && (alnum (48 + k.b) && (alnum (48 + k.c) && (alnum 120 && (alnum (48 + k.d) && (alnum 121 && (alnum (48 + k.e) && alnum (48 + k.f)))))))))) = true
  rw [dig_alnum ha, dig_alnum hb, dig_alnum hc, dig_alnum hd, dig_alnum he, dig_alnum hf]
  rfl
/-- each sign is an operator of the table or a letter or a figure -/
theorem sign_kind (k : Six) (hk : k.Small) (i : Nat) (hi : i < 19) : ((tx k).getD i 0 = 42 ∨ (tx k).getD i 0 = 43 ∨ (tx k).getD i 0 = 59) ∨ alnum ((tx k).getD i 0) = true := by
  obtain ⟨ha, hb, hc, hd, he, hf⟩ := hk
  have a1 := dig_alnum ha
  have b1 := dig_alnum hb
  have c1 := dig_alnum hc
  have d1 := dig_alnum hd
  have e1 := dig_alnum he
  have f1 := dig_alnum hf
  match i, hi with
  | 0, _ | 4, _ | 10, _ | 14, _ => exact .inr rfl
  | 1, _ | 3, _ | 5, _ | 7, _ | 9, _ | 11, _ | 13, _ | 15, _ | 17, _ => exact .inl (by simp [tx])
  | 2, _ => exact .inr a1
  | 6, _ => exact .inr b1
  | 8, _ => exact .inr c1
  | 12, _ => exact .inr d1
  | 16, _ => exact .inr e1
  | 18, _ => exact .inr f1
  | n + 19, h => exact absurd h (by omega)
/-- the place of a letter or a figure among 'xy0123456789' -/
theorem alnum_all : ∀ c < 122, alnum c = true → (Str.occurrences ⟨#[120, 121, 48, 49, 50, 51, 52, 53, 54, 55, 56, 57]⟩ ⟨#[c]⟩ 0 12 1).head?.map (fun i => 256 + (i : Int)) = some (sgn c) := by decide +kernel
theorem alnum_lt {c : Nat} (h : alnum c = true) : c < 122 := by
  unfold alnum at h
  simp only [Bool.or_eq_true, Bool.and_eq_true, decide_eq_true_eq, beq_iff_eq] at h
  rcases h with (h | h) | h
  · exact h ▸ by decide
  · exact h ▸ by decide
  · exact Nat.lt_of_le_of_lt h.2 (by decide)
theorem where_alnum {c : Nat} (h : alnum c = true) : ∃ i rest, Str.occurrences ⟨#[120, 121, 48, 49, 50, 51, 52, 53, 54, 55, 56, 57]⟩ ⟨#[c]⟩ 0 12 1 = i :: rest ∧ 256 + (i : Int) = sgn c := by
  have h1 := alnum_all c (alnum_lt h) h
  revert h1
  generalize Str.occurrences ⟨#[120, 121, 48, 49, 50, 51, 52, 53, 54, 55, 56, 57]⟩ ⟨#[c]⟩ 0 12 1 = l
  cases l with
  | nil => exact fun h1 => by cases h1
  | cons i rest => exact fun h1 => ⟨i, rest, rfl, Option.some.inj h1⟩
/-- the numbers of the text's signs, and the end mark -/
def symsOf (k : Six) : List Int := (tx k).map sgn ++ [0]
theorem symsOf_eq (k : Six) (hk : k.Small) : symsOf k = [256, 16, 258 + (k.a : Int), 14, 257, 16, 258 + (k.b : Int), 14, 258 + (k.c : Int), 13, 256, 16, 258 + (k.d : Int), 14, 257, 16, 258 + (k.e : Int), 14, 258 + (k.f : Int), 0] := by
  obtain ⟨ha, hb, hc, hd, he, hf⟩ := hk
  simp only [symsOf, tx, List.map_cons, List.map_nil, dig_sgn ha, dig_sgn hb, dig_sgn hc, dig_sgn hd, dig_sgn he, dig_sgn hf]
  rfl
end
section
open PySem PySem.W PyProof.Rows PySem.Calls
local macro_rules | `(tactic| ktr_unf) => `(tactic| repeat ((wtm_at "zb2"); (fail_if_success any_goals with_reducible (first | refine zs6 ?_ | refine zs24 ?_ | refine zs25 ?_ | refine zs26 ?_ | refine zs14 ?_)); (wtm_at "zw1")))
local macro_rules | `(tactic| walk_at "execs cons") => `(tactic| wtm_at "zfz")
local macro_rules | `(tactic| walk_at "eval Name") => `(tactic| wtm_at "zy1")
local macro_rules | `(tactic| walk_at "loadName") => `(tactic| refine ldn (by with_reducible assumption) (by first | exact rfl | assumption) ?_)
theorem take_snoc {f : Nat → Int} : ∀ {l : List Nat} {i : Nat}, i < l.length → (l.take (i + 1)).map f = (l.take i).map f ++ [f (l.getD i 0)]
  | [], _, h => absurd h (Nat.not_lt_zero _)
  | x :: r, 0, _ => rfl
  | x :: r, i + 1, h => by
    have := take_snoc (l := r) (f := f) (i := i) (by simpa using h)
    simpa using this
set_option maxRecDepth 100000 in
set_option maxHeartbeats 8000000 in
theorem ct_symbols (w : World) (k : Six) (hk6 : k.Small) (tt : Tok) : CallsL w 115 [.str (textOf k) tt] 10 (fun _ => True) (fun v new => ∃ S vs e, v = .ref S ∧ new = [(S, W.listOf vs.toArray e)] ∧ IntsAre vs (symsOf k)) := by
  unfold CallsL
  k_fill
  intro p loose mean mg mb dp un gd cn cs ca ccd cl outer A₀ base h₀ L m rest s Q E B F X Ld T hk hC1 hC2 hC hd' hu hret
  refine wpAny_call ?_
  refine frz fun Gz fz => ?_
  obtain ⟨ps, c, o, qs, d, u, N, hT, hO⟩ := Ld
  refine fz ?_
  clear fz Gz
  k_dflt (refine' code_def (binds := [(Str.ofString "text", .str (textOf k) tt)]) ?k1 ?k2 ?k3 ?k4 ?k5 ?kA ?kF ?kK ?k6 ?k7 ?k8 ?k9 ?kB ?_ ?c2 ?c3 ?c4 ?c5; (case kA => exact rfl); (case kF => exact rfl); (case kK => exact hk); (case k1 => exact B); (case k2 => exact F); (case k3 => exact X); (case k4 => exact N); (case k5 => exact T); (case k6 => k_is); (case k7 => k_is); (case k8 => show dp < recursionLimit; omega); (case k9 => exact BindsTo.of_eq rfl); (case c5 => decide); (case kB => exact locs rfl); (case c2 => exact rfl); (case c3 => exact rfl); (case c4 => exact rfl); intro g L' h' FG F' N' B' X' T')
  try dsimp only
  with_reducible refine wpAny_noRaise ?_
  clear B F X N T
  ktr_unf
  rename Fr _ _ _ _ => F9
  rename News _ _ _ _ => N9
  obtain ⟨S, M0, t0, ⟨hM1, hM2, hM3⟩, hS, F8, N8⟩ : ∃ (S : Addr) (M0 : Str → Option Value) (t0 : Tok), (M0 (Str.ofString "symbols") = some (.ref S) ∧ M0 (Str.ofString "at") = some (.int 0 t0) ∧ M0 (Str.ofString "text") = some (.str (textOf k) tt)) ∧
      (30 < S ∧ c < S ∧ 37 < S ∧ d < S ∧ AllLt S rest) ∧ Fr g L' _ M0 ∧ News g L' _ ((S, PySem.W.listOf ([] : List Value).toArray 0) :: (30, tabObj ps) :: (c, o) :: (37, tabObj qs) :: (d, u) :: rest) := ⟨_, _, _, ⟨rfl, rfl, rfl⟩, by assumption, F9, news_of N9 (fun p hp => .tail _ hp)⟩
  clear F9 N9
  k_dflt (refine' While_inv (J := fun n m' news' => Ex3 fun i vs e => ∃ ti, An4 (n = 19 - i) (i ≤ 19) (news' = (S, PySem.W.listOf vs.toArray e) :: (30, tabObj ps) :: (c, o) :: (37, tabObj qs) :: (d, u) :: rest) (An4 (IntsAre vs (((tx k).take i).map sgn)) (m' (Str.ofString "symbols") = some (.ref S)) (m' (Str.ofString "at") = some (.int (i : Nat) ti)) (m' (Str.ofString "text") = some (.str (textOf k) tt)))) (n₀ := 19) F8 N8 ⟨0, [], 0, t0, rfl, Nat.zero_le _, rfl, .nil, hM1, hM2, hM3⟩ ?_ ?hE; (case hE => passes_own))
  have hall : ∀ p ∈ (30, tabObj ps) :: (c, o) :: (37, tabObj qs) :: (d, u) :: rest, p.1 ≠ S := List.forall_mem_cons.mpr ⟨Nat.ne_of_lt hS.1, List.forall_mem_cons.mpr ⟨Nat.ne_of_lt hS.2.1, List.forall_mem_cons.mpr ⟨Nat.ne_of_lt hS.2.2.1, List.forall_mem_cons.mpr ⟨Nat.ne_of_lt hS.2.2.2.1, fun p hp => Nat.ne_of_lt (ktn_ltOf hS.2.2.2.2 p hp)⟩⟩⟩⟩
  clear F8 N8 hM1 hM2 hM3
  intro n m1 news1 h1 tk1 F1 N1 z9
  refine frz fun Gz fz => ?_
  obtain ⟨i, vs, e, ti, rfl, hi19, rfl, hvs, q1, q2, q3⟩ := z9
  refine fz ?_
  clear fz Gz
  ktr_unf
  with_reducible refine P.len_str (by rw [show (textOf k).length = 19 from rfl]; decide) ?_
  rw [show ((textOf k).length : Int) = 19 from rfl]
  ktr_unf
  by_cases hi : i < 19
  · with_reducible refine ite_pos (by simp; omega) ?_
    ktr_unf
    rename Fr _ _ _ _ => F9
    rename News _ _ _ _ => N9
    k_dflt (refine slice_strN_ss (hsz := ?hsz) (s := ⟨_, _, _, _, _⟩) F9 N9 ?_; (case hsz => kxi_size))
    clear F9 N9
    intro h' t' tk2 F9 N9
    rw [slice_at k i hi]
    ktr_unf
    k_dflt (refine' topIn_K F9 X' ?l ?k ?e ?o ?_; (case l => k_is); (case k => k_keys); (case e => exact no_key w _ (pair_alnum k hk6 i hi)); (case o => decide))
    dsimp only [Option.isSome]
    ktr_unf
    with_reducible refine ite_neg (by decide) ?_
    ktr_unf
    refine KXi.item (n := 19) rfl (by omega) (by omega) (by decide) ?_
    intro _
    rw [item_at k i hi]
    have hkind := sign_kind k hk6 i hi
    have htake : ((tx k).take (i + 1)).map sgn = ((tx k).take i).map sgn ++ [sgn ((tx k).getD i 0)] := take_snoc (by show i < 19; exact hi)
    generalize (tx k).getD i 0 = cc at hkind htake
    ktr_unf
    rename Fr _ _ _ _ => F9
    rename News _ _ _ _ => N9
    rcases hkind with hop | hal
    · obtain ⟨tv, hkey⟩ : ∃ t, nsIn (hd.heap_39 w.params) 85 ⟨#[cc]⟩ = some (some (.int (sgn cc) t)) := by
        refine frz fun Gz fz => ?_
        obtain ⟨-, k1, k2, k3⟩ := keys85 w
        refine fz ?_
        clear fz Gz
        rcases hop with rfl | rfl | rfl
        · exact k1
        · exact k2
        · exact k3
      k_dflt (refine' topIn_K F9 X' ?l ?k ?e ?o ?_; (case l => k_is); (case k => k_keys); (case e => exact hkey); (case o => decide))
      dsimp only [Option.isSome]
      ktr_unf
      with_reducible refine ite_pos rfl ?_
      ktr_unf
      k_dflt (refine' topItem_K F9 X' ?l ?k ?e ?_; (case l => k_is); (case k => k_keys); (case e => exact hkey))
      ktr_unf
      rename Fr _ _ _ _ => F9
      rename News _ _ _ _ => N9
      k_dflt (refine' op_append F9 N9 (Upd.head hall) (by have := hvs.length; simp at this; omega) ?_)
      clear F9 N9
      intro h' F9 N9
      ktr_unf
      rename Fr _ _ _ _ => F9
      rename News _ _ _ _ => N9
      refine WhileStep.intro F9 N9 (n' := 19 - (i + 1)) (by omega) ⟨i + 1, _, _, _, rfl, hi, rfl, ?_, q1, rfl, q3⟩
      rw [htake]
      exact ints_snoc hvs
    · k_dflt (refine' topIn_K F9 X' ?l ?k ?e ?o ?_; (case l => k_is); (case k => k_keys); (case e => exact no_key w _ (by simpa using hal)); (case o => decide))
      dsimp only [Option.isSome]
      ktr_unf
      with_reducible refine ite_neg (by decide) ?_
      ktr_unf
      refine frz fun Gz fz => ?_
      obtain ⟨ix, irest, hix, hsg⟩ := where_alnum hal
      refine fz ?_
      clear fz Gz
      have hx2 : Builtin.Str.occurrences (Str.ofString "xy0123456789") ⟨#[cc]⟩ 0 (Str.ofString "xy0123456789").length 1 = ix :: irest := hix
      refine index_or rfl (fun _ h0 => by rw [hx2] at h0; cases h0) (fun _ _ => ?_)
      rw [show Txt.find (Str.ofString "xy0123456789") ⟨#[cc]⟩ = (ix : Int) from by unfold Txt.find; rw [hx2]]
      try dsimp only
      with_reducible refine op_add (sgn cc) hsg (fun t tk => ?_)
      ktr_unf
      rename Fr _ _ _ _ => F9
      rename News _ _ _ _ => N9
      k_dflt (refine' op_append F9 N9 (Upd.head hall) (by have := hvs.length; simp at this; omega) ?_)
      clear F9 N9
      intro h' F9 N9
      ktr_unf
      rename Fr _ _ _ _ => F9
      rename News _ _ _ _ => N9
      refine WhileStep.intro F9 N9 (n' := 19 - (i + 1)) (by omega) ⟨i + 1, _, _, _, rfl, hi, rfl, ?_, q1, rfl, q3⟩
      rw [htake]
      exact ints_snoc hvs
  · with_reducible refine ite_neg (by simp; omega) ?_
    ktr_unf
    rename Fr _ _ _ _ => F9
    rename News _ _ _ _ => N9
    rename IntsAre _ (_ ++ [0]) => hI9
    rename _ ∧ _ ∧ _ ∧ _ ∧ _ ∧ _ ∧ _ => l9
    with_reducible refine leaveK_ F9 N9 ?_
    intro kF kN
    have hi2 : i = 19 := by omega
    subst hi2
    refine hret _ [(_, _)] _ _ kF (Led.pack (new := (_, _) :: rest) kN (fun p hp => ?_) hT (OffT.lt l9.2.2.1 l9.2.2.2.2.1 l9.2.2.2.1 l9.2.2.2.2.2.1 hO)) ⟨_, _, 0, rfl, rfl, hI9⟩ (fun q hq p hp => by rw [List.mem_singleton.mp hq]; exact ktn_ltOf l9.2.2.2.2.2.2 p hp)
    refine ZSub.go ?_ p hp; wtm_at "zsub"
end
section
open PySem PySem.W PyProof.Rows PySem.Calls
local macro_rules | `(tactic| ktr_unf) => `(tactic| repeat ((wtm_at "zb2"); (fail_if_success any_goals with_reducible (first | refine zs12 ?_ | refine zs22 ?_ | refine zs14 ?_ | refine zs17 ?_ | refine zs27 ?_)); (wtm_at "zw1")))
local macro_rules | `(tactic| walk_at "execs cons") => `(tactic| wtm_at "zfz")
local macro_rules | `(tactic| walk_at "eval Name") => `(tactic| wtm_at "zy1")
local macro_rules | `(tactic| kn_enter) => `(tactic| ((first | (with_reducible refine' CallsBool.use (ct_term _ _ _) ?hA ?hB ?hF ?hX ?hN ?hT ?hk ?h1 ?_) | (with_reducible refine' CallsBool.use (ct_nonterm _ _ _) ?hA ?hB ?hF ?hX ?hN ?hT ?hk ?h1 ?_) | (with_reducible refine' CallsBool.use (ct_eof _ _ _) ?hA ?hB ?hF ?hX ?hN ?hT ?hk ?h1 ?_)); (case hA => exact rfl); (case hB => with_reducible assumption); (case hF => (rename Fr _ _ _ _ => uF; exact uF)); (case hX => with_reducible assumption); (case hN => (rename News _ _ _ _ => uN; exact uN)); (case hT => with_reducible assumption); (case hk => exact rfl); (case h1 => first | (rw [ktd]; omega) | omega); intro h' tk' F9 N9))
/-- the rows that a list of numbers is cut into -/
def rowsGo : List Int → List Int → List (List Int)
  | _, [] => []
  | cur, s :: r => if s = 0 ∨ s = 13 then cur :: rowsGo [] r else rowsGo (cur ++ [s]) r
/-- lists of ints in a ledger -/
inductive RowsAre : List (Addr × Obj) → List (List Int) → Prop
  | nil : RowsAre [] []
  | cons {a : Addr} {vs : List Value} {l : List Int} {e : Nat} {r : List (Addr × Obj)} {q : List (List Int)} : IntsAre vs l → RowsAre r q → RowsAre ((a, W.listOf vs.toArray e) :: r) (l :: q)
theorem RowsAre.snoc {a : Addr} {vs : List Value} {l : List Int} {e : Nat} : ∀ {r : List (Addr × Obj)} {q : List (List Int)}, RowsAre r q → IntsAre vs l → RowsAre (r ++ [(a, W.listOf vs.toArray e)]) (q ++ [l])
  | _, _, .nil, h => .cons h .nil
  | _, _, .cons h1 r, h => .cons h1 (r.snoc h)
def refs (dn : List (Addr × Obj)) : List Value := dn.map fun p => .ref p.1
set_option maxRecDepth 100000 in
set_option maxHeartbeats 8000000 in
theorem ct_rows (w : World) (SY : Addr) (svs : List Value) (syms : List Int) (es : Nat) (hsy : IntsAre svs syms) (rows : List (List Int)) (hrows : rowsGo [] syms = rows) (hlen : syms.length ≤ 1000) :
    CallsL w 122 [.ref SY] 10 (fun rest => (SY, W.listOf svs.toArray es) ∈ rest) (fun v new => ∃ RO dn e, v = .ref RO ∧ new = (RO, W.listOf (refs dn).toArray e) :: dn ∧ RowsAre dn rows) := by
  unfold CallsL
  k_fill
  intro p loose mean mg mb dp un gd cn cs ca ccd cl outer A₀ base h₀ L m rest s Q E B F X Ld T hk hC1 hC2 hC hd' hu hret
  refine wpAny_call ?_
  refine frz fun Gz fz => ?_
  obtain ⟨ps, c, o, qs, d, u, N, hT, hO⟩ := Ld
  refine fz ?_
  clear fz Gz
  k_dflt (refine' code_def (binds := [(Str.ofString "symbols", .ref SY)]) ?k1 ?k2 ?k3 ?k4 ?k5 ?kA ?kF ?kK ?k6 ?k7 ?k8 ?k9 ?kB ?_ ?c2 ?c3 ?c4 ?c5; (case kA => exact rfl); (case kF => exact rfl); (case kK => exact hk); (case k1 => exact B); (case k2 => exact F); (case k3 => exact X); (case k4 => exact N); (case k5 => exact T); (case k6 => k_is); (case k7 => k_is); (case k8 => show dp < recursionLimit; omega); (case k9 => exact BindsTo.of_eq rfl); (case c5 => decide); (case kB => exact locs rfl); (case c2 => exact rfl); (case c3 => exact rfl); (case c4 => exact rfl); intro g L' h' FG F' N' B' X' T')
  try dsimp only
  with_reducible refine wpAny_noRaise ?_
  clear B F X N T
  ktr_unf
  rename Fr _ _ _ _ => F9
  rename News _ _ _ _ => N9
  k_dflt (refine' newList_K F9 N9 ?_)
  clear F9 N9
  intro RO h' F' N' lO
  ktr_unf
  rename Fr _ _ _ _ => F9
  rename News _ _ _ _ => N9
  k_dflt (refine' newList_K F9 N9 ?_)
  clear F9 N9
  intro RW h' F' N' lW
  ktr_unf
  rename Fr _ _ _ _ => F9
  rename News _ _ _ _ => N9
  refine frz fun Gz fz => ?_
  obtain ⟨M0, ⟨hM1, hM2⟩, hM3, F8⟩ : ∃ M0 : Str → Option Value, (M0 (Str.ofString "rows") = some (.ref RO) ∧ M0 (Str.ofString "row") = some (.ref RW)) ∧ M0 (Str.ofString "symbols") = some (.ref SY) ∧ Fr g L' _ M0 := ⟨_, ⟨rfl, rfl⟩, rfl, F9⟩
  refine fz ?_
  clear fz Gz
  clear F9
  generalize hN0 : (30, tabObj ps) :: (c, o) :: (37, tabObj qs) :: (d, u) :: rest = N0 at *
  have N8 : News g L' _ ((RO, PySem.W.listOf (refs []).toArray 0) :: (RW, PySem.W.listOf ([] : List Value).toArray 0) :: ([] ++ N0)) := news_of N9 (fun p hp => by
    simp only [List.nil_append, List.mem_cons] at hp
    subst hN0
    simp only [List.mem_cons]
    rcases hp with h | h | h
    · exact .inr (.inr (.inl h))
    · exact .inr (.inl h)
    · exact .inr (.inr (.inr (by simpa using h))))
  clear N9
  have mS : (SY, PySem.W.listOf svs.toArray es) ∈ N0 := by rw [← hN0]; exact .tail _ (.tail _ (.tail _ (.tail _ hC)))
  with_unfolding_all refine' For_turns F8 ?_
  ktr_unf
  with_unfolding_all refine' iter_listTurns (lo := PySem.W.listOf svs.toArray es) (vs := svs) (by rfl) F8 N8 (.tail _ (.tail _ mS)) (by rfl) rfl ?_
  intro I lI
  refine list_inv (J := fun rem m' news' => Ex6 fun RW cur cvs dn q e => ∃ e' l, An4 (news' = (RO, PySem.W.listOf (refs dn).toArray e) :: (RW, PySem.W.listOf cvs.toArray e') :: (dn ++ N0)) (IntsAre cvs cur) (RowsAre dn q) (An4 (IntsAre rem l) (q ++ rowsGo cur l = rows) ((∀ x ∈ (RW, PySem.W.listOf cvs.toArray e') :: dn, @LT.lt Nat _ RO x.1 ∧ @Ne Nat x.1 I)) (An4 (cur.length + l.length ≤ 1000) (dn.length + l.length ≤ 1000) (m' (Str.ofString "rows") = some (.ref RO)) (m' (Str.ofString "row") = some (.ref RW))))) ?turn ?done _ _ _ ?start
  case start => exact ⟨RW, [], [], [], [], 0, 0, syms, rfl, .nil, .nil, hsy, hrows, List.forall_mem_cons.mpr ⟨⟨lW _ (.head _), Nat.ne_of_lt (lI _ (.tail _ (.head _)))⟩, fun x hx => (nomatch hx)⟩, by simpa using hlen, by simpa using hlen, hM1, hM2⟩
  case turn =>
    intro v r m1 news1 o1 h1 tk1 z9
    refine frz fun Gz fz => ?_
    obtain ⟨RW, cur, cvs, dn, q, e, e', l, rfl, hcv, hdn, hi, hgo, hbig, hl1, hl2, q1, q2⟩ := z9
    refine fz ?_
    clear fz Gz
    revert hgo hl1 hl2
    refine ints_uncons hi fun z tz zr hi => ?_
    intro hgo hl1 hl2 F1 N1
    change Fr g L' _ _ at F1
    change News g L' _ _ at N1
    · clear F8 N8 hM1 hM2 hM3
      simp only [List.length_cons] at hl1 hl2
      ktr_unf
      kn_enter
      ktr_unf
      have hIO : @Ne Nat I RO := Nat.ne_of_gt (lI _ (.head _))
      by_cases hz : z = 0
      · with_reducible refine ite_pos (decide_eq_true hz) ?_
        with_reducible refine ite_pos True.intro ?_
        ktr_unf
        rename Fr _ _ _ _ => F9
        rename News _ _ _ _ => N9
        have hRW := hbig _ (.head _)
        have hall : ∀ p ∈ (RW, PySem.W.listOf cvs.toArray e') :: (dn ++ N0), p.1 ≠ RO := List.forall_mem_cons.mpr ⟨Nat.ne_of_gt hRW.1, fun p hp => (List.mem_append.mp hp).elim (fun h => Nat.ne_of_gt (hbig p (.tail _ h)).1) (fun h => Nat.ne_of_lt (lO p h))⟩
        k_dflt (refine' op_append F9 N9 (Upd.tail hIO (Upd.head hall)) (by simp [refs]; omega) ?_)
        clear F9 N9
        intro h' F9 N9
        ktr_unf
        rename Fr _ _ _ _ => F9
        rename News _ _ _ _ => N9
        k_dflt (refine' newList_K F9 N9 ?_)
        clear F9 N9
        intro RV h' F9 N9 lV
        ktr_unf
        rename Fr _ _ _ _ => F9
        rename News _ _ _ _ => N9
        refine ⟨_, _, _, (RO, PySem.W.listOf (refs (dn ++ [(RW, PySem.W.listOf cvs.toArray e')])).toArray (e + 1)) :: (RV, PySem.W.listOf ([] : List Value).toArray 0) :: ((dn ++ [(RW, PySem.W.listOf cvs.toArray e')]) ++ N0), rfl, F9, news_of N9 (fun p hp => ?_), fun p hp x hx => ?_, ⟨.tail _ (.tail _ (List.mem_append_right _ mS)), trivial⟩,
          RV, [], [], dn ++ [(RW, PySem.W.listOf cvs.toArray e')], q ++ [cur], _, _, zr, rfl, .nil, hdn.snoc hcv, hi, ?_, ?_, by simp; omega, by simp; omega, q1, rfl⟩
        · simp only [List.cons_append, List.nil_append, List.mem_cons, List.mem_append, List.not_mem_nil, or_false] at hp ⊢
          rcases hp with h | h | h | (h | h) | h
          · exact .inr (.inl h)
          · exact .inr (.inr (.inl (by simpa [refs] using h)))
          · exact .inl h
          · exact .inr (.inr (.inr (.inr (.inl h))))
          · exact .inr (.inr (.inr (.inl h)))
          · exact .inr (.inr (.inr (.inr (.inr h))))
        · rw [List.mem_singleton.mp hx]
          simp only [List.mem_cons, List.mem_append, List.not_mem_nil, or_false] at hp
          rcases hp with rfl | rfl | (h | rfl) | h
          · exact Ne.symm hIO
          · exact Nat.ne_of_gt (lV _ (.head _))
          · exact (hbig p (.tail _ h)).2
          · exact hRW.2
          · exact Nat.ne_of_lt (lI p (.tail _ (.tail _ h)))
        · rw [← hgo]
          simp [rowsGo, hz]
        · refine List.forall_mem_cons.mpr ⟨⟨lV _ (.tail _ (.head _)), Nat.ne_of_gt (lV _ (.head _))⟩, fun x hx => ?_⟩
          rcases List.mem_append.mp hx with h | h
          · exact hbig x (.tail _ h)
          · rw [List.mem_singleton.mp h]; exact hRW
      · with_reducible refine ite_neg (by simp [hz]) ?_
        ktr_unf
        by_cases hz2 : z = 13
        · with_reducible refine ite_pos (by simp [hz2]) ?_
          with_reducible refine ite_pos rfl ?_
          ktr_unf
          rename Fr _ _ _ _ => F9
          rename News _ _ _ _ => N9
          have hRW := hbig _ (.head _)
          have hall : ∀ p ∈ (RW, PySem.W.listOf cvs.toArray e') :: (dn ++ N0), p.1 ≠ RO := List.forall_mem_cons.mpr ⟨Nat.ne_of_gt hRW.1, fun p hp => (List.mem_append.mp hp).elim (fun h => Nat.ne_of_gt (hbig p (.tail _ h)).1) (fun h => Nat.ne_of_lt (lO p h))⟩
          k_dflt (refine' op_append F9 N9 (Upd.tail hIO (Upd.head hall)) (by simp [refs]; omega) ?_)
          clear F9 N9
          intro h' F9 N9
          ktr_unf
          rename Fr _ _ _ _ => F9
          rename News _ _ _ _ => N9
          k_dflt (refine' newList_K F9 N9 ?_)
          clear F9 N9
          intro RV h' F9 N9 lV
          ktr_unf
          rename Fr _ _ _ _ => F9
          rename News _ _ _ _ => N9
          refine ⟨_, _, _, (RO, PySem.W.listOf (refs (dn ++ [(RW, PySem.W.listOf cvs.toArray e')])).toArray (e + 1)) :: (RV, PySem.W.listOf ([] : List Value).toArray 0) :: ((dn ++ [(RW, PySem.W.listOf cvs.toArray e')]) ++ N0), rfl, F9, news_of N9 (fun p hp => ?_), fun p hp x hx => ?_, ⟨.tail _ (.tail _ (List.mem_append_right _ mS)), trivial⟩,
            RV, [], [], dn ++ [(RW, PySem.W.listOf cvs.toArray e')], q ++ [cur], _, _, zr, rfl, .nil, hdn.snoc hcv, hi, ?_, ?_, by simp; omega, by simp; omega, q1, rfl⟩
          · simp only [List.cons_append, List.nil_append, List.mem_cons, List.mem_append, List.not_mem_nil, or_false] at hp ⊢
            rcases hp with h | h | h | (h | h) | h
            · exact .inr (.inl h)
            · exact .inr (.inr (.inl (by simpa [refs] using h)))
            · exact .inl h
            · exact .inr (.inr (.inr (.inr (.inl h))))
            · exact .inr (.inr (.inr (.inl h)))
            · exact .inr (.inr (.inr (.inr (.inr h))))
          · rw [List.mem_singleton.mp hx]
            simp only [List.mem_cons, List.mem_append, List.not_mem_nil, or_false] at hp
            rcases hp with rfl | rfl | (h | rfl) | h
            · exact Ne.symm hIO
            · exact Nat.ne_of_gt (lV _ (.head _))
            · exact (hbig p (.tail _ h)).2
            · exact hRW.2
            · exact Nat.ne_of_lt (lI p (.tail _ (.tail _ h)))
          · rw [← hgo]
            simp [rowsGo, hz2]
          · refine List.forall_mem_cons.mpr ⟨⟨lV _ (.tail _ (.head _)), Nat.ne_of_gt (lV _ (.head _))⟩, fun x hx => ?_⟩
            rcases List.mem_append.mp hx with h | h
            · exact hbig x (.tail _ h)
            · rw [List.mem_singleton.mp h]; exact hRW
        · with_reducible refine ite_neg (by simp [hz2]) ?_
          ktr_unf
          with_reducible refine ite_neg (by decide) ?_
          ktr_unf
          rename Fr _ _ _ _ => F9
          rename News _ _ _ _ => N9
          k_dflt (refine' newList_K F9 N9 ?_)
          clear F9 N9
          intro RT h' F9 N9 lT
          ktr_unf
          rename Fr _ _ _ _ => F9
          rename News _ _ _ _ => N9
          k_dflt (refine' kmk_add_ints F9 N9 (News.isList N9 ?a) (News.isList N9 ?b) hcv (.cons z _ .nil) ?_ ?z; (case a => exact .tail _ (.tail _ (.tail _ (.head _)))); (case b => exact .head _); (case z => rw [sizeLine_eq]; simp; omega))
          clear F9 N9
          intro RV ws h' F9 N9 lV hws
          ktr_unf
          rename Fr _ _ _ _ => F9
          rename News _ _ _ _ => N9
          refine ⟨_, _, _, (RO, PySem.W.listOf (refs dn).toArray e) :: (RV, PySem.W.listOf ws.toArray 0) :: (dn ++ N0), rfl, F9, news_of N9 (fun p hp => ?_), fun p hp x hx => ?_, ⟨.tail _ (.tail _ (List.mem_append_right _ mS)), trivial⟩,
            RV, cur ++ [z], ws, dn, q, _, _, zr, rfl, hws, hdn, hi, ?_, ?_, by simp; omega, by omega, q1, rfl⟩
          · simp only [List.cons_append, List.nil_append, List.mem_cons, List.mem_append, List.not_mem_nil, or_false] at hp ⊢
            rcases hp with h | h | h | h | h
            · exact .inr (.inr (.inl h))
            · exact .inr (.inr (.inr (.inl h)))
            · exact .inl h
            · exact .inr (.inr (.inr (.inr (.inr (.inl h)))))
            · exact .inr (.inr (.inr (.inr (.inr (.inr h)))))
          · rw [List.mem_singleton.mp hx]
            simp only [List.mem_cons, List.mem_append, List.not_mem_nil, or_false] at hp
            rcases hp with rfl | rfl | h | h
            · exact Ne.symm hIO
            · exact Nat.ne_of_gt (lV _ (.tail _ (.head _)))
            · exact (hbig p (.tail _ h)).2
            · exact Nat.ne_of_lt (lI p (.tail _ (.tail _ h)))
          · rw [← hgo]
            simp [rowsGo, hz, hz2]
          · exact List.forall_mem_cons.mpr ⟨⟨lV _ (.tail _ (.tail _ (.head _))), Nat.ne_of_gt (lV _ (.tail _ (.head _)))⟩, fun x hx => hbig x (.tail _ hx)⟩
  case done =>
    intro m1 news1 h1 tk1 z9
    refine frz fun Gz fz => ?_
    obtain ⟨RW, cur, cvs, dn, q, e, e', l, rfl, hcv, hdn, hi, hgo, hbig, hl1, hl2, q1, q2⟩ := z9
    refine fz ?_
    clear fz Gz
    intro F1 N1
    change Fr g L' _ _ at F1
    change News g L' _ _ at N1
    revert hgo hl1 hl2
    refine ints_unnil hi ?_
    intro hgo hl1 hl2
    clear F8 N8 hM1 hM2 hM3
    ktr_unf
    rename Fr _ _ _ _ => F9
    rename News _ _ _ _ => N9
    with_reducible refine leaveK_ F9 N9 ?_
    intro kF kN
    subst hN0
    have hq : q = rows := by simpa [rowsGo] using hgo
    subst hq
    have hdO : OffT c d (dn ++ rest) := fun p hp => by
      rcases List.mem_append.mp hp with h | h
      · have h3 := (hbig p (.tail _ h)).1
        exact ⟨Nat.ne_of_gt (Nat.lt_trans (lO _ (.head _)) h3), Nat.ne_of_gt (Nat.lt_trans (lO _ (.tail _ (.tail _ (.head _)))) h3), Nat.ne_of_gt (Nat.lt_trans (lO _ (.tail _ (.head _))) h3), Nat.ne_of_gt (Nat.lt_trans (lO _ (.tail _ (.tail _ (.tail _ (.head _))))) h3)⟩
      · exact hO p h
    refine hret _ ((RO, PySem.W.listOf (refs dn).toArray e) :: dn) _ _ kF (Led.pack (new := (RO, PySem.W.listOf (refs dn).toArray e) :: (dn ++ rest)) kN (fun p hp => ?_) hT (OffT.lt (lO _ (.head _)) (lO _ (.tail _ (.tail _ (.head _)))) (lO _ (.tail _ (.head _))) (lO _ (.tail _ (.tail _ (.tail _ (.head _))))) hdO)) ⟨_, dn, e, rfl, rfl, hdn⟩ (fun x hx p hp => ?_)
    · simp only [List.mem_cons, List.mem_append] at hp ⊢
      rcases hp with h | h | h | h | h | h | h
      · exact .inr (.inr (.inr (.inl h)))
      · exact .inr (.inr (.inr (.inr (.inl h))))
      · exact .inr (.inr (.inr (.inr (.inr (.inl h)))))
      · exact .inr (.inr (.inr (.inr (.inr (.inr (.inl h))))))
      · exact .inl h
      · exact .inr (.inr (.inl h))
      · exact .inr (.inr (.inr (.inr (.inr (.inr (.inr h))))))
    · have h1 := lO p (.tail _ (.tail _ (.tail _ (.tail _ hp))))
      rcases List.mem_cons.mp hx with rfl | hx
      · exact h1
      · exact Nat.lt_trans h1 (hbig x (.tail _ hx)).1
end
local macro_rules | `(tactic| wtm_at "zy5") => `(tactic| ((first | (with_reducible refine' CallsBool.use (ct_term _ _ _) ?hA ?hB ?hF ?hX ?hN ?hT ?hk ?h1 ?_) | (with_reducible refine' CallsBool.use (ct_nonterm _ _ _) ?hA ?hB ?hF ?hX ?hN ?hT ?hk ?h1 ?_) | (with_reducible refine' CallsBool.use (ct_eof _ _ _) ?hA ?hB ?hF ?hX ?hN ?hT ?hk ?h1 ?_)); (case hA => exact rfl); (case hB => with_reducible assumption); (case hF => (rename Fr _ _ _ _ => uF; exact uF)); (case hX => with_reducible assumption); (case hN => (rename News _ _ _ _ => uN; exact uN)); (case hT => with_reducible assumption); (case hk => exact rfl); (case h1 => first | (rw [ktd]; omega) | omega); intro h' tk' F9 N9))
section
open PySem PySem.W PyProof.Rows PySem.Calls LCg
section
variable {prog : Program} {w : World} {A : Around} {E : Value → Shared → Prop} {s : Shared} {h₀ : Heap} {L : Addr} {m : Str → Option Value} {env : Env} {R : Result → Shared → Prop}
/-- the loop of a list comprehension, whatever its target -/
theorem comp_loop {elt iter target : Expr} {scope : Scope} {pos : Pos} {it acc : Value} (I : Nat → Shared → Prop)
    (turn : ∀ n s, I n s → wpAny (model prog w) A (pyNext it) (fun r s₁ => match r with
      | none => R (.ok .next) s₁
      | some v => wpAny (model prog w) A (letOwnedTupleGo target it v) (fun _ s₁' => wpAny (model prog w) A (assign target env v) (fun _ s₂ =>
          wpAny (model prog w) A (eval elt env) (fun x s₄ => wpAny (model prog w) A (call (.builtin "list.append") [acc, x]) (fun _ s₅ => ∃ m, m < n ∧ I m s₅) (notedBy (model prog w) A env fun e s' => R (.error e) s') s₄)
            (notedBy (model prog w) A env fun e s' => R (.error e) s') s₂) (notedBy (model prog w) A env fun e s' => R (.error e) s') s₁') (notedBy (model prog w) A env fun e s' => R (.error e) s') s₁) (notedBy (model prog w) A env fun e s' => R (.error e) s') s)
    (n : Nat) (h : I n s) : codeAny (model prog w) A (.compLoop (.ListComp elt [⟨target, iter, [], 0⟩] scope pos) 0 it acc env) R s := by
  refine codeAny_loop rfl I (fun n s hI => ?_) n h
  show wpAny _ _ ((compTurn (.ListComp elt [⟨target, iter, [], 0⟩] scope pos) 0 it acc env).onRaise (fun x => do noteFrame x env; theTreesLotGoes x)) _ _ s
  refine wpAny_noted ?_
  rw [compTurn_list1]
  refine wpAny_bind (wpAny_standAt (wpAny_bind (wpAny_mono (turn n s hI) (fun r s₁ h₁ => ?_) fun _ _ h' => h')))
  cases r with
  | none => exact wpAny_pure h₁
  | some v =>
    refine wpAny_bind (wpAny_mono h₁ (fun _ s₂ h₂ => wpAny_bind (wpAny_mono h₂ (fun _ s₃ h₃ => ?_) fun _ _ h' => h')) fun _ _ h' => h')
    exact wpAny_bind (wpAny_bind (wpAny_mono h₃ (fun x s₄ h₄ => wpAny_bind (wpAny_mono h₄ (fun _ s₅ h₅ => wpAny_pure (wpAny_pure ⟨rfl, h₅⟩)) fun _ _ h' => h')) fun _ _ h' => h'))
/-- off the iterators, the block's own frame and the list being made -/
def OffC (wr : List Addr) (C D : Addr) (l : List (Addr × Obj)) : Prop := ∀ p ∈ l, p.1 ∉ wr ∧ @Ne Nat p.1 C ∧ @Ne Nat p.1 D
/-- what is asked of an iterator, a target and the passes -/
structure CompIt (prog : Program) (w : World) (A : Around) (h₀ : Heap) (L : Addr) (m : Str → Option Value) (env : Env) (elt target : Expr) (scope : Scope) (cl : List (Str × Addr)) (mm : Addr → Str → Option Value) (K : Addr → Shared → Prop) (I : Addr) (s₂ : Shared)
    (fp wr : List Addr) (n : Nat) (P Md : Nat → Value → Heap → Prop) (St : Nat → Heap → Prop) (keep news : List (Addr × Obj)) (Sp : Nat → (Str → Option Value) → Prop) (J : Nat → List Value → List (Addr × Obj) → Prop) : Prop where
  turns : KTurns prog w A target I fp wr n P Md St
  self : ∀ (s : Shared) (Q : Value → Shared → Prop) (E : Value → Shared → Prop), St 0 s.heap → Q (.ref I) s → wpAny (model prog w) A (pyIter (.ref I)) Q E s
  size : n ≤ sizeLine
  live : ∀ i h, St i h → ∀ b ∈ wr, ∃ o, h.get? b = some o
  fpk : ∀ b ∈ fp, b ∈ wr ∨ ∃ o, (b, o) ∈ keep
  st : St 0 s₂.heap
  wr0 : ∀ b ∈ wr, h₀.get? b = none ∧ @Ne Nat b L
  nw : ∀ p ∈ news, p.1 ∉ wr
  fr : Fr h₀ L s₂.heap m
  nws : News h₀ L s₂.heap news
  kept : ∀ i ys nw, J i ys nw → ∀ p ∈ keep, p ∈ nw
  start : J 0 [] news
  asg : ∀ i v h tk C m₁ (Q : Unit → Shared → Prop) (E : Value → Shared → Prop), P i v h → (∀ p ∈ keep, h.get? p.1 = some p.2) → h.Ns C m₁ →
    (∀ h₂ m₂ tk₂, h₂.Ns C m₂ → Sp i m₂ → (∀ b o, b ≠ C → h.get? b = some o → h₂.get? b = some o) → Q () { s₂ with heap := h₂, toks := tk₂ }) →
    wpAny (model prog w) A (assign target (compEnvC scope cl C env) v) Q E { s₂ with heap := h, toks := tk }
  step : ∀ i ys nw h₁ tk own C oC D m₂ (E' : Value → Shared → Prop), i < n → Sp i m₂ → J i ys nw → own.map (·.1) = wr → NsObj oC m₂ → Fr h₀ L h₁ m → News h₀ L h₁ ((C, oC) :: (D, lst ys) :: (own ++ nw)) → OffC wr C D nw →
    (∀ p ∈ news, p.1 < D ∧ p.1 < C) → (∀ b ∈ wr, b < D ∧ b < C) → D < C →
    wpAny (model prog w) A (eval elt (compEnvC scope cl C env)) (fun y s₄ => ∃ h' tk' nw', s₄ = { s₂ with heap := h', toks := tk' } ∧ Fr h₀ L h' m ∧ News h₀ L h' ((C, oC) :: (D, lst ys) :: (own ++ nw')) ∧ OffC wr C D nw' ∧ J (i + 1) (ys ++ [y]) nw') E' { s₂ with heap := h₁, toks := tk }
  fin : ∀ D h tk ys nw, Fr h₀ L h (mm D) → News h₀ L h ((D, lst ys) :: nw) → (∀ p ∈ nw, @Ne Nat p.1 D) → J n ys nw → (∀ p ∈ news, p.1 < D) → K D { s₂ with heap := h, toks := tk }
theorem own_of {h : Heap} : ∀ (wr : List Addr), (∀ b ∈ wr, ∃ o, h.get? b = some o) → ∃ own : List (Addr × Obj), own.map (·.1) = wr ∧ ∀ p ∈ own, h.get? p.1 = some p.2
  | [], _ => ⟨[], rfl, fun p hp => (nomatch hp)⟩
  | b :: r, H => by
    obtain ⟨o, e⟩ := H b (.head _)
    obtain ⟨own, h1, h2⟩ := own_of r (fun b hb => H b (.tail _ hb))
    exact ⟨(b, o) :: own, by rw [List.map_cons, h1], List.forall_mem_cons.mpr ⟨e, h2⟩⟩
theorem own_two {a b : Addr} : ∀ {own : List (Addr × Obj)}, own.map (·.1) = [a, b] → ∃ o1 o2, own = [(a, o1), (b, o2)]
  | [], h => nomatch h
  | [_], h => nomatch h
  | _ :: _ :: _ :: _, h => nomatch h
  | [(_, o1), (_, o2)], h => by
    have h1 := (List.cons.inj h).1
    have h2 := (List.cons.inj (List.cons.inj h).2).1
    exact ⟨o1, o2, by rw [← h1, ← h2]⟩
theorem own_one {a : Addr} : ∀ {own : List (Addr × Obj)}, own.map (·.1) = [a] → ∃ o1, own = [(a, o1)]
  | [], h => nomatch h
  | _ :: _ :: _, h => nomatch h
  | [(_, o1)], h => ⟨o1, by rw [← (List.cons.inj h).1]⟩
theorem comp_block {elt iter target : Expr} {scope : Scope} {cl : List (Str × Addr)} {pos : Pos} {I : Addr} {s₂ : Shared} {fp wr : List Addr} {n : Nat} {P Md : Nat → Value → Heap → Prop} {St : Nat → Heap → Prop} {keep news : List (Addr × Obj)} {Sp : Nat → (Str → Option Value) → Prop} {J : Nat → List Value → List (Addr × Obj) → Prop} {mm : Addr → Str → Option Value} {K : Addr → Shared → Prop}
    (T : CompIt prog w A h₀ L m env elt target scope cl mm K I s₂ fp wr n P Md St keep news Sp J) {RR : Value → Addr → Result → Shared → Prop}
    (hcell : ∀ y ∈ scope.names, y.2 ≠ .cell) (hkind : scope.kind = .function)
    (hRR : ∀ D C h tk m' ys nw, Fr h₀ L h m → News h₀ L h ((D, lst ys) :: nw) → (∀ p ∈ nw, @Ne Nat p.1 C ∧ @Ne Nat p.1 D) → @Ne Nat D C → h.Ns C m' → h₀.get? C = none → @Ne Nat C L → J n ys nw → (∀ p ∈ news, p.1 < D) → RR (.ref D) C (.ok .next) { s₂ with heap := h, toks := tk }) :
    wpAny (model prog w) A (newList []) (fun acc s₃ => wpAny (model prog w) A (newFunctionEnv scope env.globals cl [] env.qual none .none (some env)) (fun cenv s₄ =>
      codeAny (model prog w) A (.compStart (.ListComp elt [⟨target, iter, [], 0⟩] scope pos) 0 (.ref I) acc { cenv with scope := relabel scope env }) (RR acc cenv.locals) s₄) E s₃) E s₂ := by
  refine wpAny_newObj_type (wpAny_newFunctionEnv hcell (by intro y hy; simp at hy) (fun h₁ hns₁ hsb₁ => ?_) hkind)
  dsimp only at hns₁ hsb₁ ⊢
  generalize hH : s₂.heap.push { cls := .type "list", dict := none, data := .seq ([] : List Value).toArray } = H at hns₁ hsb₁ ⊢
  generalize hD : s₂.heap.objs.size = D at *
  generalize hCe : H.objs.size = C at *
  have hC : C = D + 1 := by rw [← hCe, ← hH, Heap.size_push, hD]
  have hDC : D < C := by rw [hC]; exact Nat.lt_succ_self _
  have hget : ∀ b o, s₂.heap.get? b = some o → b < D := fun b o e => hD ▸ Heap.lt_size e
  have old : ∀ b o, s₂.heap.get? b = some o → h₁.get? b = some o := fun b o e => hsb₁.extBut b o (Nat.ne_of_lt (Nat.lt_trans (hget b o e) hDC)) (Heap.get?_push_of_some _ (hH ▸ Heap.get?_push_of_some _ e))
  have hacc : h₁.get? D = some (lst []) := hsb₁.extBut _ _ (Nat.ne_of_lt hDC) (Heap.get?_push_of_some _ (by rw [← hH, ← hD]; exact Heap.get?_push_size _ rfl))
  have hwrD : ∀ b ∈ wr, b < D := fun b hb => by obtain ⟨o, e⟩ := T.live 0 _ T.st b hb; exact hget b o e
  have hnD : ∀ p ∈ news, p.1 < D := fun p hp => hget _ _ (T.nws p hp).1
  have hLD : L < D := hD ▸ T.fr.ns.lt
  have fresh₀ : ∀ a, D ≤ a → h₀.get? a = none := fun a ha => by
    cases e : h₀.get? a with
    | none => rfl
    | some o' => exact absurd (hget _ _ (T.fr.keep a o' e)) (Nat.not_lt.mpr ha)
  have hD₀ := fresh₀ D (Nat.le_refl _)
  have hC₀ := fresh₀ C (Nat.le_of_lt hDC)
  have hDw : D ∉ wr := fun h => Nat.lt_irrefl _ (hwrD _ h)
  have hCw : C ∉ wr := fun h => Nat.lt_irrefl _ (Nat.lt_trans hDC (hwrD _ h))
  have hLw : L ∉ wr := fun h => (T.wr0 L h).2 rfl
  have hLC : L < C := Nat.lt_trans hLD hDC
  have hfpC : ∀ nw, OffC wr C D nw → (∀ p ∈ keep, p ∈ nw) → ∀ b ∈ fp, @Ne Nat b C ∧ @Ne Nat b D := fun nw off hk b hb => by
    rcases T.fpk b hb with h | ⟨o, h⟩
    · exact ⟨Nat.ne_of_lt (Nat.lt_trans (hwrD b h) hDC), Nat.ne_of_lt (hwrD b h)⟩
    · exact ⟨(off _ (hk _ h)).2.1, (off _ (hk _ h)).2.2⟩
  have off₀ : OffC wr C D news := fun p hp => ⟨T.nw p hp, Nat.ne_of_lt (Nat.lt_trans (hnD p hp) hDC), Nat.ne_of_lt (hnD p hp)⟩
  have hst₁ : St 0 h₁ := T.turns.frame _ _ _ T.st fun b _ o e => old b o e
  have frU : ∀ {h h' : Heap}, Fr h₀ L h m → (∀ b o, b ∉ wr → h.get? b = some o → h'.get? b = some o) → Fr h₀ L h' m := fun F hk =>
    ⟨F.ns.at' fun o e => hk _ o hLw e, fun b o e => hk b o (fun hb => by rw [(T.wr0 b hb).1] at e; cases e) (F.keep b o e), F.above⟩
  have nwU : ∀ {h h' : Heap} {l : List (Addr × Obj)}, News h₀ L h l → (∀ b o, b ∉ wr → h.get? b = some o → h'.get? b = some o) → (∀ p ∈ l, p.1 ∉ wr) → News h₀ L h' l := fun N hk ho p hp => ⟨hk _ _ (ho p hp) (N p hp).1, (N p hp).2⟩
  have loop : ∀ s₃ : Shared, s₃ = { s₂ with heap := h₁, toks := s₂.toks + ([] : List (Str × Value)).length } →
      codeAny (model prog w) A (.compLoop (.ListComp elt [⟨target, iter, [], 0⟩] scope pos) 0 (.ref I) (.ref D) (compEnvC scope cl C env)) (RR (.ref D) C) s₃ := by
    rintro s₃ rfl
    refine comp_loop
      (fun k s' => Ex6 fun h' tk i ys m' nw => An4 (s' = { s₂ with heap := h', toks := tk }) (i ≤ n) (k = n + 1 - i) (An4 (ys.length = i) (St i h') (Fr h₀ L h' m) (An4 (h'.Ns C m') (News h₀ L h' ((D, lst ys) :: nw)) (OffC wr C D nw) (J i ys nw)))) ?_ (n + 1)
      ⟨h₁, _, 0, [], _, news, rfl, Nat.zero_le _, rfl, rfl, hst₁, T.fr.keeps old, hns₁, List.forall_mem_cons.mpr ⟨⟨hacc, Nat.ne_of_gt hLD, hD₀⟩, fun p hp => ⟨old _ _ (T.nws p hp).1, (T.nws p hp).2⟩⟩, off₀, T.start⟩
    intro k s' z9
    refine frz fun Gz fz => ?_
    obtain ⟨h', tk, i, ys, m', nw, rfl, hi, rfl, hyl, hst', F', hn', N', off', hJ⟩ := z9
    refine fz ?_
    clear fz Gz
    have offD : ∀ p ∈ (D, lst ys) :: nw, p.1 ∉ wr := List.forall_mem_cons.mpr ⟨hDw, fun p hp => (off' p hp).1⟩
    by_cases hlt : i < n
    · refine T.turns.item i _ _ _ hlt hst' fun v h₂ tk₂ hMd hk₂ => ?_
      refine T.turns.go i v _ _ _ hMd fun h₃ hP hst₃ hk₃ => ?_
      have hk : ∀ b o, b ∉ wr → h'.get? b = some o → h₃.get? b = some o := fun b o hb e => hk₃ b o hb (hk₂ b o hb e)
      have F₃ := frU F' hk
      have N₃ := nwU N' hk offD
      have hn₃ : h₃.Ns C m' := hn'.at' fun o e => hk _ o hCw e
      have hkp := T.kept i ys nw hJ
      refine T.asg i v h₃ tk₂ C m' _ _ hP (fun p hp => (N₃ p (.tail _ (hkp p hp))).1) hn₃ fun h₄ m₄ tk₄ hn₄ hSp hk₄ => ?_
      have hst₄ : St (i + 1) h₄ := T.turns.frame _ _ _ hst₃ fun b hb o e => hk₄ b o (hfpC nw off' hkp b hb).1 e
      obtain ⟨oC, heC, hoC⟩ := ns_obj hn₄
      have F₄ : Fr h₀ L h₄ m := ⟨F₃.ns.at' fun o e => hk₄ _ o (Nat.ne_of_lt hLC) e, fun b o e => hk₄ b o (fun q => by rw [q, hC₀] at e; cases e) (F₃.keep b o e), F₃.above⟩
      obtain ⟨own, hown, hlive⟩ : ∃ own : List (Addr × Obj), own.map (·.1) = wr ∧ ∀ p ∈ own, h₄.get? p.1 = some p.2 := by
        exact own_of wr (T.live _ _ hst₄)
      have hown' : ∀ p ∈ own, p.1 ∈ wr := fun p hp => hown ▸ List.mem_map_of_mem hp
      have N₄ : News h₀ L h₄ ((C, oC) :: (D, lst ys) :: (own ++ nw)) := by
        refine List.forall_mem_cons.mpr ⟨⟨heC, Nat.ne_of_gt hLC, hC₀⟩, List.forall_mem_cons.mpr ⟨⟨hk₄ _ _ (Nat.ne_of_lt hDC) (N₃ _ (.head _)).1, Nat.ne_of_gt hLD, hD₀⟩, fun p hp => ?_⟩⟩
        rcases List.mem_append.mp hp with hp | hp
        · exact ⟨hlive p hp, (T.wr0 _ (hown' p hp)).2, (T.wr0 _ (hown' p hp)).1⟩
        · exact ⟨hk₄ _ _ (off' p hp).2.1 (N₃ _ (.tail _ hp)).1, (N₃ _ (.tail _ hp)).2⟩
      refine wpAny_mono (T.step i ys nw h₄ tk₄ own C oC D m₄ _ hlt hSp hJ hown hoC F₄ N₄ off' (fun p hp => ⟨hnD p hp, Nat.lt_trans (hnD p hp) hDC⟩) (fun b hb => ⟨hwrD b hb, Nat.lt_trans (hwrD b hb) hDC⟩) hDC) (fun y s₅ h₅ => ?_) fun _ _ e => e
      refine frz fun Gz fz => ?_
      obtain ⟨h₅, tk₅, nw₅, rfl, F₅, N₅, off₅, hJ₅⟩ := h₅
      refine fz ?_
      clear fz Gz
      have hkp₅ := T.kept _ _ _ hJ₅
      have hst₅ : St (i + 1) h₅ := T.turns.frame _ _ _ hst₄ fun b hb o e => by
        rcases T.fpk b hb with h | ⟨o', h⟩
        · have hb' : b ∈ own.map (·.1) := hown.symm ▸ h
          obtain ⟨q, hq, hqe⟩ := List.mem_map.mp hb'
          have e2 := hlive q hq
          have e3 : h₅.get? q.1 = some q.2 := (N₅ q (.tail _ (.tail _ (List.mem_append_left _ hq)))).1
          rw [hqe] at e2 e3
          rw [e3, ← e2, e]
        · have e2 := (N₄ (b, o') (.tail _ (.tail _ (List.mem_append_right _ (hkp _ h))))).1
          have e3 := (N₅ (b, o') (.tail _ (.tail _ (List.mem_append_right _ (hkp₅ _ h))))).1
          dsimp only at e2 e3
          rw [e3, ← e2, e]
      refine append_at (hsz := by show ys.toArray.size ≤ sizeLine; rw [List.size_toArray, hyl]; exact Nat.le_trans hi T.size) (N₅ (D, lst ys) (.tail _ (.head _))).1 fun h₆ hs₆ hD₆ => ?_
      refine ⟨n + 1 - (i + 1), by omega, h₆, tk₅, i + 1, ys ++ [y], m₄, nw₅, rfl, hlt, rfl, by rw [List.length_append, List.length_singleton, hyl], T.turns.frame _ _ _ hst₅ fun b hb o e => hs₆.extBut b o (hfpC nw₅ off₅ hkp₅ b hb).2 e,
        F₅.change hs₆ (Nat.ne_of_gt hLD) hD₀, (hoC.ns (N₅ (C, oC) (.head _)).1).sameBut hs₆ (Nat.ne_of_gt hDC), List.forall_mem_cons.mpr ⟨⟨hD₆.trans (congrArg some (lst_snoc ys y)), Nat.ne_of_gt hLD, hD₀⟩, fun p hp => ⟨hs₆.extBut _ _ (off₅ p hp).2.2 (N₅ p (.tail _ (.tail _ (List.mem_append_right _ hp)))).1, (N₅ p (.tail _ (.tail _ (List.mem_append_right _ hp)))).2⟩⟩, off₅, hJ₅⟩
    · obtain rfl : i = n := Nat.le_antisymm hi (Nat.not_lt.mp hlt)
      refine T.turns.done _ _ _ hst' fun h₂ tk₂ hk₂ => ?_
      exact hRR D C h₂ tk₂ m' ys nw (frU F' hk₂) (nwU N' hk₂ offD) (fun p hp => ⟨(off' p hp).2.1, (off' p hp).2.2⟩) (Nat.ne_of_lt hDC) (hn'.at' fun o e => hk₂ _ o hCw e) hC₀ (Nat.ne_of_gt hLC) hJ hnD
  exact codeAny_compStart_list (loop _ rfl) (T.self _ _ _ hst₁ (loop _ rfl))
def CompAt (prog : Program) (w : World) (A : Around) (h₀ : Heap) (L : Addr) (m : Str → Option Value) (env : Env) (elt target : Expr) (scope : Scope) (cl : List (Str × Addr)) (mm : Addr → Str → Option Value) (K : Addr → Shared → Prop) (it : Value) (s₂ : Shared) : Prop :=
  Ex6 fun I fp wr n P Md => Ex3 fun St keep news => ∃ Sp J, it = .ref I ∧ CompIt prog w A h₀ L m env elt target scope cl mm K I s₂ fp wr n P Md St keep news Sp J
theorem CompAt.mk {elt target : Expr} {scope : Scope} {cl : List (Str × Addr)} {mm : Addr → Str → Option Value} {K : Addr → Shared → Prop} {I : Addr} {s₂ : Shared} {fp wr : List Addr} {n : Nat} {P Md : Nat → Value → Heap → Prop} {St : Nat → Heap → Prop} {keep news : List (Addr × Obj)} {Sp : Nat → (Str → Option Value) → Prop} {J : Nat → List Value → List (Addr × Obj) → Prop}
    (T : CompIt prog w A h₀ L m env elt target scope cl mm K I s₂ fp wr n P Md St keep news Sp J) : CompAt prog w A h₀ L m env elt target scope cl mm K (.ref I) s₂ := ⟨I, fp, wr, n, P, Md, St, keep, news, Sp, J, rfl, T⟩
theorem comp_eval {elt iter target : Expr} {scope : Scope} {cl : List (Str × Addr)} {pos : Pos} {Q : Value → Shared → Prop} (_F₀ : Fr h₀ L s.heap m) (hclos : closureFor scope env = pure cl) (hcell : ∀ y ∈ scope.names, y.2 ≠ .cell) (hkind : scope.kind = .function)
    (hnames : ∀ y ∈ scope.names, y.2 = .local → scope.names.lookup y.1 = some .local)
    (h : wpAny (model prog w) A (eval iter env) (fun xv s₁ => wpAny (model prog w) A (pyIter xv) (CompAt prog w A h₀ L m env elt target scope cl (fun _ => m) (fun D s' => Q (.ref D) s')) E s₁) E s)
    (hs : ∀ x, foldedSetIterable iter env x = pure x := by intro _; rfl) :
    wpAny (model prog w) A (eval (.ListComp elt [⟨target, iter, [], 0⟩] scope pos) env) Q E s := by
  rw [eval_ListComp]
  refine wpAny_comprehension_free (use := none) rfl hs hclos hkind hnames (wpAny_mono h (fun xv s₁ h₁ => wpAny_mono h₁ (fun it s₂ h₂ => ?_) fun _ _ e => e) fun _ _ e => e)
  refine frz fun Gz fz => ?_
  obtain ⟨I, fp, wr, n, P, Md, St, keep, news, Sp, J, rfl, T⟩ := h₂
  refine fz ?_
  clear fz Gz
  refine comp_block T hcell hkind fun D C h tk m' ys nw F N off hDC hn hC₀ hCL hJ hlt => ?_
  refine ⟨m', hn, fun h'' hs'' => T.fin D h'' tk ys nw (F.change hs'' hCL hC₀) (fun p hp => ?_) (fun p hp => (off p hp).2) hJ hlt⟩
  refine ⟨hs''.extBut _ _ ?_ (N p hp).1, (N p hp).2⟩
  rcases List.mem_cons.mp hp with rfl | hp
  · exact hDC
  · exact (off p hp).1
theorem comp_assign {elt iter target : Expr} {y : Str} {py : Pos} {scope : Scope} {cl : List (Str × Addr)} {pos spos : Pos} {Q : Flow → Shared → Prop} (_F₀ : Fr h₀ L s.heap m) (hLe : env.locals = L)
    (hsw : swapsWith (.ListComp elt [⟨target, iter, [], 0⟩] scope pos) (some (.Name y py)) spos.line env = pure true)
    (hclos : closureFor scope env = pure cl) (hcell : ∀ z ∈ scope.names, z.2 ≠ .cell) (hkind : scope.kind = .function)
    (hnames : ∀ z ∈ scope.names, z.2 = .local → scope.names.lookup z.1 = some .local)
    (hy : env.kindOf y = some .local) (hp : (env.scope.kind == .class || (env.scope.kind == .module && env.locals != env.globals)) = false)
    (h : wpAny (model prog w) A (eval iter env) (fun xv s₁ => wpAny (model prog w) A (pyIter xv) (CompAt prog w A h₀ L m env elt target scope cl (fun D z => if z = y then some (.ref D) else m z) (fun _ s' => Q .next s')) E s₁) E s)
    (hs : ∀ x, foldedSetIterable iter env x = pure x := by intro _; rfl) :
    wpAny (model prog w) A (exec (.Assign [.Name y py] (.ListComp elt [⟨target, iter, [], 0⟩] scope pos) spos) env) Q E s := by
  subst hLe
  rw [exec_Assign_Name_used _ _ _ _ hsw]
  refine wpAny_bind (wpAny_standAt (wpAny_bind ?_))
  show wpAny _ A (do let _ ← comprehension (.ListComp elt [⟨target, iter, [], 0⟩] scope pos) scope env _ (newList []) false (eval iter env) (some (assign (.Name y py) env))) _ _ s
  refine wpAny_bind (wpAny_mono (wpAny_comprehension_free (use := some (assign (.Name y py) env)) (Q := fun _ s' => Q .next s') rfl hs hclos hkind hnames
    (wpAny_mono h (fun xv s₁ h₁ => wpAny_mono h₁ (fun it s₂ h₂ => ?_) fun _ _ e => e) fun _ _ e => e)) (fun _ s' hq => wpAny_pure (wpAny_pure hq)) fun _ _ e => e)
  refine frz fun Gz fz => ?_
  obtain ⟨I, fp, wr, n, P, Md, St, keep, news, Sp, J, rfl, T⟩ := h₂
  refine fz ?_
  clear fz Gz
  refine comp_block T hcell hkind fun D C h tk m' ys nw F N off hDC hn hC₀ hCL hJ hlt => ?_
  show wpAny _ A (assign (.Name y py) env (.ref D)) _ _ _
  refine wpAny_assign_Name (wpAny_storeName_local hy F.ns (fun h₂ hn₂ hs₂ => ?_) hp)
  have hL₀ : h₀.get? env.locals = none := Heap.get?_none_of_le F.above
  have F₂ : Fr h₀ env.locals h₂ (fun z => if z = y then some (.ref D) else m z) := ⟨hn₂, fun b o e => hs₂.extBut b o (fun q => by rw [q, hL₀] at e; cases e) (F.keep b o e), F.above⟩
  refine ⟨m', hn.sameBut hs₂ hCL, fun h'' hs'' => T.fin D h'' _ ys nw (F₂.change hs'' hCL hC₀) (fun p hp => ?_) (fun p hp => (off p hp).2) hJ hlt⟩
  refine ⟨hs''.extBut _ _ ?_ (hs₂.extBut _ _ (N p hp).2.1 (N p hp).1), (N p hp).2⟩
  rcases List.mem_cons.mp hp with rfl | hp
  · exact hDC
  · exact (off p hp).1
/-- what a pass is asked to do -/
def StepAt (prog : Program) (w : World) (A : Around) (h₀ : Heap) (L : Addr) (m : Str → Option Value) (env : Env) (elt : Expr) (scope : Scope) (cl : List (Str × Addr)) (s : Shared) (own : List (Addr × Obj)) (J : List Value → List (Addr × Obj) → Prop) (ys : List Value) (h₁ : Heap) (tk : Nat) (C : Addr) (oC : Obj) (D : Addr) : Prop :=
  ∀ E' : Value → Shared → Prop, wpAny (model prog w) A (eval elt (compEnvC scope cl C env)) (fun y s₄ => ∃ h' tk' nw', s₄ = { s with heap := h', toks := tk' } ∧ Fr h₀ L h' m ∧ News h₀ L h' ((C, oC) :: (D, lst ys) :: (own ++ nw')) ∧ OffC (own.map (·.1)) C D nw' ∧ J (ys ++ [y]) nw') E' { s with heap := h₁, toks := tk }
theorem comp_enum {elt : Expr} {x x₂ : Str} {px px₂ tp : Pos} {kk} {scope : Scope} {cl : List (Str × Addr)} {mm : Addr → Str → Option Value} {K : Addr → Shared → Prop} {l : Addr} {lo : Obj} {vs : List Value} {n : Nat} {news : List (Addr × Obj)}
    (hkind : scope.kind = .function) (hx : scope.names.lookup x = some .local) (hx₂ : scope.names.lookup x₂ = some .local) (hxx : x ≠ x₂)
    (hh : A.handled = none) (F : Fr h₀ L s.heap m) (N : News h₀ L s.heap news) (hm : (l, lo) ∈ news) (hc : lo.cls = .type "list") (hd : lo.data = .seq vs.toArray n) (hsz : vs.length ≤ sizeLine)
    (J : Nat → List Value → List (Addr × Obj) → Prop) (h0 : J 0 [] news) (hkeep : ∀ i ys nw, J i ys nw → (l, lo) ∈ nw)
    (step : ∀ I, (∀ p ∈ news, p.1 < I) → ∀ i v t ys nw h₁ tk o1 o2 C oC D m₂, vs[i]? = some v → J i ys nw → NsObj oC m₂ → m₂ x = some (.int (i : Int) t) → m₂ x₂ = some v → Fr h₀ L h₁ m → News h₀ L h₁ ((C, oC) :: (D, lst ys) :: (I + 1, o1) :: (I, o2) :: nw) → OffC [I + 1, I] C D nw → I + 1 < D → D < C →
      StepAt prog w A h₀ L m env elt scope cl s [(I + 1, o1), (I, o2)] (J (i + 1)) ys h₁ tk C oC D)
    (fin : ∀ D h tk ys nw, Fr h₀ L h (mm D) → News h₀ L h ((D, lst ys) :: nw) → (∀ p ∈ nw, @Ne Nat p.1 D) → J vs.length ys nw → (∀ p ∈ news, p.1 < D) → K D { s with heap := h, toks := tk }) :
    wpAny (model prog w) A (call (.type "enumerate") [.ref l]) (fun xv s₁ => wpAny (model prog w) A (pyIter xv) (CompAt prog w A h₀ L m env elt (.Tuple [.Name x px, .Name x₂ px₂] kk tp) scope cl mm K) E s₁) E s := by
  have hax := N _ hm
  have hl : s.heap.IsList l vs.toArray := ⟨lo, hax.1, hc, n, hd⟩
  have hlt : l < s.heap.objs.size := Heap.lt_size hax.1
  have hLs : L < s.heap.objs.size := F.ns.lt
  refine call_enumerate_list hl fun h' hE hI hsz' hk => ?_
  refine wpAny_pyIter_enum hE ?_
  have WE := WalksT.enumerate (prog := prog) (w := w) hh (s.heap.objs.size + 1) s.heap.objs.size l (Nat.succ_ne_self _) (ktu_ne 1 hlt) (Nat.ne_of_lt hlt) vs.toArray
  refine CompAt.mk (keep := [(l, lo)]) (news := news) (Sp := fun i m₂ => ∃ t v, vs[i]? = some v ∧ m₂ x = some (.int (i : Int) t) ∧ m₂ x₂ = some v) (J := J) (CompIt.mk (KTurns.ofWalksU WE.toU) (fun s' Q' E' st q => WE.self 0 s' Q' E' st q) (by simpa using hsz) ?live ?fpk ?st ?wr0 ?nw (F.keeps hk) (N.grown hk) ?kept h0 ?asg ?step ?fin)
  case live =>
    intro i h z9
    refine frz fun Gz fz => ?_
    obtain ⟨⟨old, he⟩, ⟨oi, hoi, hic, _⟩, _⟩ := z9
    refine fz ?_
    clear fz Gz
    intro b hb
    rcases List.mem_cons.mp hb with rfl | hb
    · exact ⟨_, he⟩
    · rw [List.mem_singleton.mp hb]; exact ⟨_, hoi⟩
  case fpk =>
    intro b hb
    have hb' : b = s.heap.objs.size + 1 ∨ b = s.heap.objs.size ∨ b = l := by simpa using hb
    rcases hb' with rfl | rfl | rfl
    · exact .inl (List.mem_cons_self ..)
    · exact .inl (List.mem_cons_of_mem _ (List.mem_cons_self ..))
    · exact .inr ⟨lo, List.mem_cons_self ..⟩
  case st => exact ⟨⟨.none, hE⟩, hI, hl.at fun o e => hk l o e⟩
  case wr0 =>
    intro b hb
    have hb' : b = s.heap.objs.size + 1 ∨ b = s.heap.objs.size := by simpa using hb
    rcases hb' with rfl | rfl
    · exact ⟨ktu_new F (Nat.le_add_right _ _), fun e => ktu_ne 1 hLs e.symm⟩
    · exact ⟨ktu_new F (Nat.le_refl _), fun e => Nat.ne_of_lt hLs e.symm⟩
  case nw =>
    intro p hp hb
    have hb' : p.1 = s.heap.objs.size + 1 ∨ p.1 = s.heap.objs.size := by simpa using hb
    have hlp := Heap.lt_size (N p hp).1
    rcases hb' with e | e
    · exact ktu_ne 1 hlp e
    · exact Nat.ne_of_lt hlp e
  case kept => exact fun i ys nw hJ p hp => by rw [List.mem_singleton.mp hp]; exact hkeep i ys nw hJ
  case asg =>
    intro i v h tk C m₁ Q' E' z9
    refine frz fun Gz fz => ?_
    obtain ⟨T, vals, rfl, ⟨t, xv, hxv, rfl⟩, hT⟩ := z9
    refine fz ?_
    clear fz Gz
    intro _ hn hQ
    refine assign_Tuple_tuple hh hT rfl rfl fun h₅ he => ?_
    have he' : ∀ b o, h.get? b = some o → h₅.get? b = some o := fun b o e => he b o (Nat.ne_of_lt (Heap.lt_size e)) e
    refine assignInOrder_cons (wpAny_assign_Name (wpAny_storeName_local (lookup_relabel_local hx) (hn.at' fun o e => he' _ o e) (fun h₆ hn₆ hs₆ => ?_) (by simp [compEnvC, relabel, hkind])))
    refine assignInOrder_cons (wpAny_assign_Name (wpAny_storeName_local (lookup_relabel_local hx₂) hn₆ (fun h₃ hn₃ hs₃ => ?_) (by simp [compEnvC, relabel, hkind])))
    refine assignInOrder_nil (hQ _ _ _ hn₃ ⟨t, xv, by simpa using hxv, by simp [hxx], by simp⟩ fun b o hb e => hs₃.extBut b o hb (hs₆.extBut b o hb (he' b o e)))
  case step =>
    intro i ys nw h₁ tk own C oC D m₂ E' hin z9
    refine frz fun Gz fz => ?_
    obtain ⟨t, v, hv, e1, e2⟩ := z9
    refine fz ?_
    clear fz Gz
    intro hJ hown hoC F₁ N₁ off hbig hwr hDC
    obtain ⟨o1, o2, rfl⟩ := own_two hown
    exact step _ (fun p hp => Heap.lt_size (N p hp).1) i v t ys nw h₁ tk o1 o2 C oC D m₂ hv hJ hoC e1 e2 F₁ N₁ off (hwr _ (.head _)).1 hDC E'
  case fin => exact fun D h tk ys nw F' N' off hJ hbig => fin D h tk ys nw F' N' off (by simpa using hJ) hbig
/-- a comprehension down a tuple, one name -/
theorem comp_tup {elt : Expr} {x : Str} {px : Pos} {scope : Scope} {cl : List (Str × Addr)} {mm : Addr → Str → Option Value} {K : Addr → Shared → Prop} {l : Addr} {vs : List Value} {news : List (Addr × Obj)}
    (hkind : scope.kind = .function) (hx : scope.names.lookup x = some .local)
    (hh : A.handled = none) (F : Fr h₀ L s.heap m) (N : News h₀ L s.heap news) (hl : IsTup s.heap l vs.toArray) (lo : Obj) (hm : (l, lo) ∈ news) (hsz : vs.length ≤ sizeLine)
    (J : Nat → List Value → List (Addr × Obj) → Prop) (h0 : J 0 [] news) (hkeep : ∀ i ys nw, J i ys nw → (l, lo) ∈ nw)
    (step : ∀ I, (∀ p ∈ news, p.1 < I) → ∀ i v ys nw h₁ tk o1 C oC D m₂, vs[i]? = some v → J i ys nw → NsObj oC m₂ → m₂ x = some v → Fr h₀ L h₁ m → News h₀ L h₁ ((C, oC) :: (D, lst ys) :: (I, o1) :: nw) → OffC [I] C D nw → I < D → D < C →
      StepAt prog w A h₀ L m env elt scope cl s [(I, o1)] (J (i + 1)) ys h₁ tk C oC D)
    (fin : ∀ D h tk ys nw, Fr h₀ L h (mm D) → News h₀ L h ((D, lst ys) :: nw) → (∀ p ∈ nw, @Ne Nat p.1 D) → J vs.length ys nw → (∀ p ∈ news, p.1 < D) → K D { s with heap := h, toks := tk }) :
    wpAny (model prog w) A (pyIter (.ref l)) (CompAt prog w A h₀ L m env elt (.Name x px) scope cl mm K) E s := by
  have hax := N _ hm
  have hlt : l < s.heap.objs.size := Heap.lt_size hax.1
  have hne : l ≠ s.heap.objs.size := Nat.ne_of_lt hlt
  have hLs : L < s.heap.objs.size := F.ns.lt
  have hl' : s.heap.IsTuple l vs.toArray := hl
  refine wpAny_pyIter_tuple hl' ?_
  have W := Walks.tuple (prog := prog) (w := w) hh s.heap.objs.size l hne vs.toArray
  refine CompAt.mk (keep := [(l, lo)]) (news := news) (Sp := fun i m₂ => ∃ v, vs[i]? = some v ∧ m₂ x = some v) (J := J) (CompIt.mk (KTurns.ofWalks W fun i v s Q E st q => letGo_tupleiter st.1 q) (fun s' Q' E' st q => W.self 0 s' Q' E' st q) (by simpa using hsz) ?live ?fpk ?st ?wr0 ?nw (F.push _) (fun p hp => ⟨Heap.get?_push_of_some _ (N p hp).1, (N p hp).2⟩) ?kept h0 ?asg ?step ?fin)
  case live =>
    intro i h z9
    refine frz fun Gz fz => ?_
    obtain ⟨⟨oi, hoi, hic, _⟩, _⟩ := z9
    refine fz ?_
    clear fz Gz
    intro b hb
    rw [List.mem_singleton.mp hb]; exact ⟨_, hoi⟩
  case fpk =>
    intro b hb
    have hb' : b = s.heap.objs.size ∨ b = l := by simpa using hb
    rcases hb' with rfl | rfl
    · exact .inl (List.mem_cons_self ..)
    · exact .inr ⟨lo, List.mem_cons_self ..⟩
  case st => exact ⟨⟨_, Heap.get?_push_size _ rfl, rfl, rfl⟩, hl'.at fun o e => Heap.get?_push_of_some _ e⟩
  case wr0 =>
    intro b hb
    rw [List.mem_singleton.mp hb]
    exact ⟨ktu_new F (Nat.le_refl _), fun e => Nat.ne_of_lt hLs e.symm⟩
  case nw => exact fun p hp hb => Nat.ne_of_lt (Heap.lt_size (N p hp).1) (List.mem_singleton.mp hb)
  case kept => exact fun i ys nw hJ p hp => by rw [List.mem_singleton.mp hp]; exact hkeep i ys nw hJ
  case asg =>
    rintro i v h tk C m₁ Q' E' hxv _ hn hQ
    have hxv' : vs[i]? = some v := by simpa using hxv
    exact wpAny_assign_Name (wpAny_storeName_local (lookup_relabel_local hx) hn (fun h₆ hn₆ hs₆ => hQ _ _ _ hn₆ ⟨v, hxv', by simp⟩ fun b o hb e => hs₆.extBut b o hb e) (by simp [compEnvC, relabel, hkind]))
  case step =>
    rintro i ys nw h₁ tk own C oC D m₂ E' hin ⟨v, hv, e1⟩ hJ hown hoC F₁ N₁ off hbig hwr hDC
    obtain ⟨o1, rfl⟩ := own_one hown
    exact step _ (fun p hp => Heap.lt_size (N p hp).1) i v ys nw h₁ tk o1 C oC D m₂ hv hJ hoC e1 F₁ N₁ off (hwr _ (.head _)).1 hDC E'
  case fin => exact fun D h tk ys nw F' N' off hJ hbig => fin D h tk ys nw F' N' off (by simpa using hJ) hbig
/-- a comprehension down a list, one name -/
theorem comp_list {elt : Expr} {x : Str} {px : Pos} {scope : Scope} {cl : List (Str × Addr)} {mm : Addr → Str → Option Value} {K : Addr → Shared → Prop} {l : Addr} {vs : List Value} {news : List (Addr × Obj)}
    (hkind : scope.kind = .function) (hx : scope.names.lookup x = some .local)
    (hh : A.handled = none) (F : Fr h₀ L s.heap m) (N : News h₀ L s.heap news) (hl : s.heap.IsList l vs.toArray) (lo : Obj) (hm : (l, lo) ∈ news) (hsz : vs.length ≤ sizeLine)
    (J : Nat → List Value → List (Addr × Obj) → Prop) (h0 : J 0 [] news) (hkeep : ∀ i ys nw, J i ys nw → (l, lo) ∈ nw)
    (step : ∀ I, (∀ p ∈ news, p.1 < I) → ∀ i v ys nw h₁ tk o1 C oC D m₂, vs[i]? = some v → J i ys nw → NsObj oC m₂ → m₂ x = some v → Fr h₀ L h₁ m → News h₀ L h₁ ((C, oC) :: (D, lst ys) :: (I, o1) :: nw) → OffC [I] C D nw → I < D → D < C →
      StepAt prog w A h₀ L m env elt scope cl s [(I, o1)] (J (i + 1)) ys h₁ tk C oC D)
    (fin : ∀ D h tk ys nw, Fr h₀ L h (mm D) → News h₀ L h ((D, lst ys) :: nw) → (∀ p ∈ nw, @Ne Nat p.1 D) → J vs.length ys nw → (∀ p ∈ news, p.1 < D) → K D { s with heap := h, toks := tk }) :
    wpAny (model prog w) A (pyIter (.ref l)) (CompAt prog w A h₀ L m env elt (.Name x px) scope cl mm K) E s := by
  have hax := N _ hm
  have hlt : l < s.heap.objs.size := Heap.lt_size hax.1
  have hne : l ≠ s.heap.objs.size := Nat.ne_of_lt hlt
  have hLs : L < s.heap.objs.size := F.ns.lt
  have hl' := hl
  refine wpAny_pyIter_list hl' ?_
  have W := Walks.list (prog := prog) (w := w) hh s.heap.objs.size l hne vs.toArray
  refine CompAt.mk (keep := [(l, lo)]) (news := news) (Sp := fun i m₂ => ∃ v, vs[i]? = some v ∧ m₂ x = some v) (J := J) (CompIt.mk (KTurns.ofWalks W fun i v s Q E st q => letGo_listiter st.1 q) (fun s' Q' E' st q => W.self 0 s' Q' E' st q) (by simpa using hsz) ?live ?fpk ?st ?wr0 ?nw (F.push _) (fun p hp => ⟨Heap.get?_push_of_some _ (N p hp).1, (N p hp).2⟩) ?kept h0 ?asg ?step ?fin)
  case live =>
    intro i h z9
    refine frz fun Gz fz => ?_
    obtain ⟨⟨oi, hoi, hic, _⟩, _⟩ := z9
    refine fz ?_
    clear fz Gz
    intro b hb
    rw [List.mem_singleton.mp hb]; exact ⟨_, hoi⟩
  case fpk =>
    intro b hb
    have hb' : b = s.heap.objs.size ∨ b = l := by simpa using hb
    rcases hb' with rfl | rfl
    · exact .inl (List.mem_cons_self ..)
    · exact .inr ⟨lo, List.mem_cons_self ..⟩
  case st => exact ⟨⟨_, Heap.get?_push_size _ rfl, rfl, rfl⟩, hl'.at fun o e => Heap.get?_push_of_some _ e⟩
  case wr0 =>
    intro b hb
    rw [List.mem_singleton.mp hb]
    exact ⟨ktu_new F (Nat.le_refl _), fun e => Nat.ne_of_lt hLs e.symm⟩
  case nw => exact fun p hp hb => Nat.ne_of_lt (Heap.lt_size (N p hp).1) (List.mem_singleton.mp hb)
  case kept => exact fun i ys nw hJ p hp => by rw [List.mem_singleton.mp hp]; exact hkeep i ys nw hJ
  case asg =>
    rintro i v h tk C m₁ Q' E' hxv _ hn hQ
    have hxv' : vs[i]? = some v := by simpa using hxv
    exact wpAny_assign_Name (wpAny_storeName_local (lookup_relabel_local hx) hn (fun h₆ hn₆ hs₆ => hQ _ _ _ hn₆ ⟨v, hxv', by simp⟩ fun b o hb e => hs₆.extBut b o hb e) (by simp [compEnvC, relabel, hkind]))
  case step =>
    rintro i ys nw h₁ tk own C oC D m₂ E' hin ⟨v, hv, e1⟩ hJ hown hoC F₁ N₁ off hbig hwr hDC
    obtain ⟨o1, rfl⟩ := own_one hown
    exact step _ (fun p hp => Heap.lt_size (N p hp).1) i v ys nw h₁ tk o1 C oC D m₂ hv hJ hoC e1 F₁ N₁ off (hwr _ (.head _)).1 hDC E'
  case fin => exact fun D h tk ys nw F' N' off hJ hbig => fin D h tk ys nw F' N' off (by simpa using hJ) hbig
/-- a comprehension down a list of lists of two, two names -/
theorem comp_twos {elt : Expr} {x x₂ : Str} {px px₂ tp : Pos} {kk} {scope : Scope} {cl : List (Str × Addr)} {mm : Addr → Str → Option Value} {K : Addr → Shared → Prop} {l : Addr} {els : List (Addr × Value × Value × Nat)} {e : Nat} {news : List (Addr × Obj)}
    (hkind : scope.kind = .function) (hx : scope.names.lookup x = some .local) (hx₂ : scope.names.lookup x₂ = some .local) (hxx : x ≠ x₂)
    (hh : A.handled = none) (F : Fr h₀ L s.heap m) (N : News h₀ L s.heap news) (hm : (l, W.listOf (els.map fun q => Value.ref q.1).toArray e) ∈ news) (hms : ∀ q ∈ els, (q.1, W.listOf [q.2.1, q.2.2.1].toArray q.2.2.2) ∈ news) (hsz : els.length ≤ sizeLine)
    (J : Nat → List Value → List (Addr × Obj) → Prop) (h0 : J 0 [] news) (hkeep : ∀ i ys nw, J i ys nw → (l, W.listOf (els.map fun q => Value.ref q.1).toArray e) ∈ nw ∧ ∀ q ∈ els, (q.1, W.listOf [q.2.1, q.2.2.1].toArray q.2.2.2) ∈ nw)
    (step : ∀ I, (∀ p ∈ news, p.1 < I) → ∀ i q ys nw h₁ tk o1 C oC D m₂, els[i]? = some q → J i ys nw → NsObj oC m₂ → m₂ x = some q.2.1 → m₂ x₂ = some q.2.2.1 → Fr h₀ L h₁ m → News h₀ L h₁ ((C, oC) :: (D, lst ys) :: (I, o1) :: nw) → OffC [I] C D nw → I < D → D < C →
      StepAt prog w A h₀ L m env elt scope cl s [(I, o1)] (J (i + 1)) ys h₁ tk C oC D)
    (fin : ∀ D h tk ys nw, Fr h₀ L h (mm D) → News h₀ L h ((D, lst ys) :: nw) → (∀ p ∈ nw, @Ne Nat p.1 D) → J els.length ys nw → (∀ p ∈ news, p.1 < D) → K D { s with heap := h, toks := tk }) :
    wpAny (model prog w) A (pyIter (.ref l)) (CompAt prog w A h₀ L m env elt (.Tuple [.Name x px, .Name x₂ px₂] kk tp) scope cl mm K) E s := by
  have hax := N _ hm
  have hl : s.heap.IsList l (els.map fun q => Value.ref q.1).toArray := News.isList N hm
  have hlt : l < s.heap.objs.size := Heap.lt_size hax.1
  have hne : l ≠ s.heap.objs.size := Nat.ne_of_lt hlt
  have hLs : L < s.heap.objs.size := F.ns.lt
  refine wpAny_pyIter_list hl ?_
  have WL := Walks.list (prog := prog) (w := w) hh s.heap.objs.size l hne (els.map fun q => Value.ref q.1).toArray
  refine CompAt.mk (keep := (l, W.listOf (els.map fun q => Value.ref q.1).toArray e) :: els.map fun q => (q.1, W.listOf [q.2.1, q.2.2.1].toArray q.2.2.2)) (news := news) (Sp := fun i m₂ => ∃ q, els[i]? = some q ∧ m₂ x = some q.2.1 ∧ m₂ x₂ = some q.2.2.1) (J := J) (CompIt.mk (KTurns.ofWalks WL fun i v s Q E st q => letGo_listiter st.1 q) (fun s' Q' E' st q => WL.self 0 s' Q' E' st q) (by simpa using hsz) ?live ?fpk ?st ?wr0 ?nw (F.push _) (fun p hp => ⟨Heap.get?_push_of_some _ (N p hp).1, (N p hp).2⟩) ?kept h0 ?asg ?step ?fin)
  case live =>
    intro i h z9
    refine frz fun Gz fz => ?_
    obtain ⟨⟨oi, hoi, hic, _⟩, _⟩ := z9
    refine fz ?_
    clear fz Gz
    intro b hb
    rw [List.mem_singleton.mp hb]; exact ⟨_, hoi⟩
  case fpk =>
    intro b hb
    have hb' : b = s.heap.objs.size ∨ b = l := by simpa using hb
    rcases hb' with rfl | rfl
    · exact .inl (List.mem_cons_self ..)
    · exact .inr ⟨_, List.mem_cons_self ..⟩
  case st => exact ⟨⟨_, Heap.get?_push_size _ rfl, rfl, rfl⟩, hl.at fun o e => Heap.get?_push_of_some _ e⟩
  case wr0 =>
    intro b hb
    rw [List.mem_singleton.mp hb]
    exact ⟨ktu_new F (Nat.le_refl _), fun e => Nat.ne_of_lt hLs e.symm⟩
  case nw => exact fun p hp hb => Nat.ne_of_lt (Heap.lt_size (N p hp).1) (List.mem_singleton.mp hb)
  case kept =>
    intro i ys nw hJ p hp
    rcases List.mem_cons.mp hp with rfl | hp
    · exact (hkeep i ys nw hJ).1
    · obtain ⟨q, hq, rfl⟩ := List.mem_map.mp hp
      exact (hkeep i ys nw hJ).2 q hq
  case asg =>
    rintro i v h tk C m₁ Q' E' hxv hkp hn hQ
    have hxv' : (els.map fun q => Value.ref q.1)[i]? = some v := by simpa using hxv
    rw [List.getElem?_map] at hxv'
    cases hq : els[i]? with
    | none => rw [hq] at hxv'; cases hxv'
    | some q =>
      rw [hq] at hxv'
      have hv : v = .ref q.1 := (Option.some.inj hxv').symm
      subst hv
      have hqm : q ∈ els := List.mem_of_getElem? hq
      have hT : h.IsList q.1 #[q.2.1, q.2.2.1] := ⟨_, hkp _ (.tail _ (List.mem_map_of_mem (f := fun q => (q.1, W.listOf [q.2.1, q.2.2.1].toArray q.2.2.2)) hqm)), rfl, _, rfl⟩
      rw [assign_Tuple]
      refine wpAny_bind (wpAny_standAt ?_)
      unfold unpack
      rw [show (assignEach [Expr.Name x px, Expr.Name x₂ px₂] (compEnvC scope cl C env)).length = (#[q.2.1, q.2.2.1] : Array Value).size from rfl, show (assignEach [Expr.Name x px, Expr.Name x₂ px₂] (compEnvC scope cl C env)).findIdx? (·.1) = none from rfl]
      refine wpAny_bind (wpAny_holding (kun_itemsOf hh hT fun h₅ he => ?_))
      have he' : ∀ b o, h.get? b = some o → h₅.get? b = some o := fun b o e => he b o (Nat.ne_of_lt (Heap.lt_size e)) e
      refine assignInOrder_cons (wpAny_assign_Name (wpAny_storeName_local (lookup_relabel_local hx) (hn.at' fun o e => he' _ o e) (fun h₆ hn₆ hs₆ => ?_) (by simp [compEnvC, relabel, hkind])))
      refine assignInOrder_cons (wpAny_assign_Name (wpAny_storeName_local (lookup_relabel_local hx₂) hn₆ (fun h₃ hn₃ hs₃ => ?_) (by simp [compEnvC, relabel, hkind])))
      refine assignInOrder_nil (hQ _ _ _ hn₃ ⟨q, hq, by simp [hxx], by simp⟩ fun b o hb e => hs₃.extBut b o hb (hs₆.extBut b o hb (he' b o e)))
  case step =>
    intro i ys nw h₁ tk own C oC D m₂ E' hin z9
    refine frz fun Gz fz => ?_
    obtain ⟨q, hv, e1, e2⟩ := z9
    refine fz ?_
    clear fz Gz
    intro hJ hown hoC F₁ N₁ off hbig hwr hDC
    obtain ⟨o1, rfl⟩ := own_one hown
    exact step _ (fun p hp => Heap.lt_size (N p hp).1) i q ys nw h₁ tk o1 C oC D m₂ hv hJ hoC e1 e2 F₁ N₁ off (hwr _ (.head _)).1 hDC E'
  case fin => exact fun D h tk ys nw F' N' off hJ hbig => fin D h tk ys nw F' N' off (by simpa using hJ) hbig
end
end
section
local macro_rules | `(tactic| walk_at "none here") => `(tactic| fail)
open PySem PySem.W PyProof.Rows PySem.Calls
noncomputable def lawBody (o : Obj) : List Stmt := match o.data with | .func f => (match f.body with | .stmts b => b | _ => []) | _ => []
noncomputable def lawScope (o : Obj) : Scope := match o.data with | .func f => f.scope | _ => default
theorem litO {K : Frag} {o o' : Obj} {G : Prop} (h1 : List.lookup 153 K = some o) (h2 : List.lookup 153 K = some o') (h : o = o' → G) : G := h (Option.some.inj (h1.symm.trans h2))
noncomputable abbrev lawEnv (o : Obj) (L a : Addr) (cd : Value) : Env := envX (Str.ofString "law") (lawScope o) L a cd (cellsFrom (L + 1) (lawScope o).names [])
noncomputable abbrev lawTop (o : Obj) (dp un : Nat) (gd : Option (List Code)) (L a : Addr) (cd : Value) (outer : List Env) : Around := ktrTop dp un gd (Str.ofString "law") (lawScope o) L a cd (cellsFrom (L + 1) (lawScope o).names []) outer
/-- the law's body from the k-th statement on -/
def LawAt (w : World) (o : Obj) (dp un : Nat) (gd : Option (List Code)) (L a : Addr) (cd : Value) (outer : List Env) (k : Nat) (Q : Flow → Shared → Prop) (s : Shared) : Prop :=
  wpAny (model PySem.Challenge.rw_wb0065_01.row.prog w) (lawTop o dp un gd L a cd outer) (execs ((lawBody o).drop k) (lawEnv o L a cd)) Q (fun _ _ => False) s
/-- the law's ground -/
structure Grd (w : World) (o : Obj) (dp un : Nat) (outer : List Env) (A₀ : Around) (base g : Heap) (p : Program) (loose : List Str) (mean : ExcName → Option Value) (mg mb : Str → Option Value) : Prop where
  look : List.lookup 153 (hd.heap_39 w.params) = some o
  below : Below A₀ base outer g
  frag : (hd.heap_39 w.params).In g
  top : Top p loose mean mg mb g
  c1 : CodeHd g 34 30
  c2 : CodeHd g 41 37
  depth : dp + 100 < recursionLimit
  units : un + 900 < cLine
local macro_rules | `(tactic| wtm_at "zst") => `(tactic| ((wtm_at "zb1"); (fail_if_success any_goals with_reducible refine zs12 ?_)))
local macro_rules | `(tactic| ktr_unf) => `(tactic| repeat ((wtm_at "zst"); (wtm_at "zw4")))
local macro_rules | `(tactic| kn_code) => `(tactic| repeat ((wtm_at "z34"); (wtm_at "zst"); (wtm_at "zw4")))
theorem six_of {xs : List Int} (h : xs.length = 6) (hb : ∀ n ∈ xs, 0 ≤ n ∧ n < 10) : ∃ k : Six, k.Small ∧ xs = [(k.a : Int), k.b, k.c, k.d, k.e, k.f] := by
  match xs, h with
  | [a, b, c, d, e, f], _ =>
    have ha := hb a (by simp)
    have hb' := hb b (by simp)
    have hc := hb c (by simp)
    have hd := hb d (by simp)
    have he := hb e (by simp)
    have hf := hb f (by simp)
    refine ⟨⟨a.toNat, b.toNat, c.toNat, d.toNat, e.toNat, f.toNat⟩, ⟨?_, ?_, ?_, ?_, ?_, ?_⟩, ?_⟩
    · show a.toNat < 10; omega
    · show b.toNat < 10; omega
    · show c.toNat < 10; omega
    · show d.toNat < 10; omega
    · show e.toNat < 10; omega
    · show f.toNat < 10; omega
    · simp only [Int.toNat_of_nonneg ha.1, Int.toNat_of_nonneg hb'.1, Int.toNat_of_nonneg hc.1, Int.toNat_of_nonneg hd.1, Int.toNat_of_nonneg he.1, Int.toNat_of_nonneg hf.1]
theorem ints_get {c : List Int} : ∀ {vs : List Value} {i : Nat} {v : Value}, IntsAre vs c → vs[i]? = some v → ∃ k t, v = .int k t := by
  intro vs i v h
  induction h generalizing i with
  | nil => intro e; cases e
  | cons k t r ih =>
    intro e
    cases i with
    | zero => exact ⟨k, t, (Option.some.inj e).symm⟩
    | succ i => exact ih e
section
variable {prog : Program} {w : World} {A : Around} {E : Value → Shared → Prop} {s : Shared} {h₀ : Heap} {L : Addr} {m : Str → Option Value} {news : List (Addr × Obj)}
theorem op_mod {a b : Int} {t u : Tok} {Q : Value → Shared → Prop} (r : Int) (hb : 0 < b) (hr : a % b = r) (h : ∀ t tk, Q (.int r t) { s with toks := tk }) : wpAny (model prog w) A (binaryOp .Mod (.int a t) (.int b u)) Q E s := by
  refine PyProof.Rows.mod_int (Int.ne_of_gt hb) ?_
  rw [Int.fmod_eq_emod_of_nonneg _ (Int.le_of_lt hb), hr]
  exact h _ _
/-- a slice with a step of a list of ints is a list of ints -/
theorem op_step3 {value slice : Expr} {l : Addr} {vs : List Value} {ns : List Int} {vl vu vk : Value} {lo hi st : Option Int} {ops : List Value} {Q : Value → Shared → Prop} (F : Fr h₀ L s.heap m) (N : News h₀ L s.heap news) (hl : s.heap.IsList l vs.toArray) (hI : IntsAre vs ns) (pl : IsPart vl lo) (pu : IsPart vu hi) (pk : IsPart vk st) (h0 : st ≠ some 0)
    (h : ∀ D us ms h', Fr h₀ L h' m → News h₀ L h' ((D, W.listOf (List.toArray us) 0) :: news) → (∀ p ∈ news, p.1 < D) → IntsAre us ms → ms.length ≤ ns.length → Q (.ref D) { s with heap := h' })
    (hs : subscripted slice false (.ref l) (.ref s.heap.objs.size) = operate ops (getItem (.ref l) (.ref s.heap.objs.size))) (ht : ∀ r, letTemporaryGo value (.ref l) r = pure ()) (hz : ns.length ≤ sizeLine) :
    wpAny (model prog w) A (subscriptTail value slice (.ref l) (.ref s.heap.objs.size)) Q E { s with heap := s.heap.push { cls := .type "slice", data := .fields #[vl, vu, vk] } } := by
  have hz' : vs.toArray.size ≤ sizeLine := by rw [List.size_toArray, hI.length]; exact hz
  have hm := hI.pick lo hi st
  have hle := slicePick_size_le vs.toArray lo hi st
  refine kmk_slice3_lit F N hl pl pu pk h0 (zs := (slicePick vs.toArray lo hi st).toList) rfl (fun D h' F' N' lt => h D _ _ h' F' N' lt hm ?_) hs ht hz'
  rw [← hm.length, Array.length_toList, ← hI.length]
  simpa using hle
end
set_option maxRecDepth 100000 in
set_option maxHeartbeats 8000000 in
theorem seg1 (w : World) (o : Obj) (dp un : Nat) (gd : Option (List Code)) (L a : Addr) (cd : Value) (outer : List Env) (A₀ : Around) (base g : Heap) (p : Program) (loose : List Str) (mean : ExcName → Option Value) (mg mb : Str → Option Value) (Q : Flow → Shared → Prop) (s : Shared) (m : Str → Option Value)
    (G : Grd w o dp un outer A₀ base g p loose mean mg mb) (o1 o2 o3 o4 o5 o6 o7 : Obj) (sc : Addr) (svs : List Value) (ns : List Int) (d1 : o1.data = .cell (some (.ref sc))) (d2 : o2.data = .cell none) (hsc : g.IsList sc svs.toArray) (hns : IntsAre svs ns) (hln : ns.length ≤ 63) (l0 : @LT.lt Nat _ 37 L ∧ @LT.lt Nat _ 30 L) (F : Fr g L s.heap m)
    (N : News g L s.heap ((L + 1 + 1 + 1 + 1 + 1 + 1 + 1, o7) :: (L + 1 + 1 + 1 + 1 + 1 + 1, o6) :: (L + 1 + 1 + 1 + 1 + 1, o5) :: (L + 1 + 1 + 1 + 1, o4) :: (L + 1 + 1 + 1, o3) :: (L + 1 + 1, o2) :: (L + 1, o1) :: (37, tabObj #[]) :: (30, tabObj #[]) :: []))
    (hcont : ∀ h' tk' (k : Six) CE cvs o2', k.Small → IntsAre cvs [(k.a : Int), k.b, k.c, k.d, k.e, k.f] → Fr g L h' m → News g L h' ((CE, W.listOf cvs.toArray cvs.length) :: (L + 1 + 1 + 1 + 1 + 1 + 1 + 1, o7) :: (L + 1 + 1 + 1 + 1 + 1 + 1, o6) :: (L + 1 + 1 + 1 + 1 + 1, o5) :: (L + 1 + 1 + 1 + 1, o4) :: (L + 1 + 1 + 1, o3) :: (L + 1 + 1, o2') :: (L + 1, o1) :: (37, tabObj #[]) :: (30, tabObj #[]) :: []) → o2'.data = .cell (some (.ref CE)) → L + 1 + 1 + 1 + 1 + 1 + 1 + 1 < CE →
      LawAt w o dp un gd L a cd outer 1 Q { s with heap := h', toks := tk' }) : LawAt w o dp un gd L a cd outer 0 Q s := by
  obtain ⟨ho, B, X, T, hC1, hC2, hd', hu⟩ := G
  unfold LawAt
  revert ho
  k_fill
  intro ho
  refine' litO ho ?h ?_
  case h => k_is
  intro e
  subst e
  clear ho
  dsimp only [lawBody, lawScope, lawEnv, lawTop, List.drop]
  ktr_unf
  k_dflt (refine wpAny_Assign_Name ?_)
  k_dflt (refine' comp_eval F ?cl ?cell ?kind ?names ?_ ?hs; (case cl => with_unfolding_all rfl); (case cell => decide); (case kind => rfl); (case names => decide); (case hs => intro _; rfl))
  ktr_unf
  rename Fr _ _ _ _ => F9
  rename News _ _ _ _ => N9
  rename_i LI h8 lLI
  obtain ⟨vs6, hvs, N8⟩ : ∃ vs6, IntsAre vs6 [1, 2, 3, 2, 1, 0] ∧ News g L _ ((LI, PySem.W.listOf vs6.toArray 0) :: (L + 1 + 1 + 1 + 1 + 1 + 1 + 1, o7) :: (L + 1 + 1 + 1 + 1 + 1 + 1, o6) :: (L + 1 + 1 + 1 + 1 + 1, o5) :: (L + 1 + 1 + 1 + 1, o4) :: (L + 1 + 1 + 1, o3) :: (L + 1 + 1, o2) :: (L + 1, o1) :: (37, tabObj #[]) :: (30, tabObj #[]) :: []) := ⟨_, .cons _ _ (.cons _ _ (.cons _ _ (.cons _ _ (.cons _ _ (.cons _ _ .nil))))), N9⟩
  clear N9
  have hl6 : vs6.length = 6 := hvs.length
  generalize hN0 : (LI, PySem.W.listOf vs6.toArray 0) :: (L + 1 + 1 + 1 + 1 + 1 + 1 + 1, o7) :: (L + 1 + 1 + 1 + 1 + 1 + 1, o6) :: (L + 1 + 1 + 1 + 1 + 1, o5) :: (L + 1 + 1 + 1 + 1, o4) :: (L + 1 + 1 + 1, o3) :: (L + 1 + 1, o2) :: (L + 1, o1) :: (37, tabObj #[]) :: (30, tabObj #[]) :: [] = N0 at N8
  k_dflt (refine' comp_enum (J := fun i ys nw => nw = N0 ∧ ∃ xs, IntsAre ys xs ∧ xs.length = i ∧ ∀ n ∈ xs, 0 ≤ n ∧ n < 10) (lo := PySem.W.listOf vs6.toArray 0) (vs := vs6) ?kind ?x ?x2 ?xx ?hh F9 N8 ?m ?c ?d ?sz ?h0 ?kp ?st ?fi; (case kind => rfl); (case x => rfl); (case x2 => rfl); (case xx => decide); (case hh => rfl); (case m => rw [← hN0]; exact .head _); (case c => rfl); (case d => rfl); (case sz => rw [hl6, sizeLine_eq]; omega); (case h0 => exact ⟨rfl, [], .nil, rfl, fun n hn => (nomatch hn)⟩); (case kp => rintro i ys nw ⟨rfl, -⟩; rw [← hN0]; exact .head _))
  case st =>
    rintro I lI i v t ys nw h1 tk1 p1 p2 C oC D m2 hv ⟨rfl, xs, hxs, hxl, hxb⟩ hoC e1 e2 F1 N1 off lD lC
    obtain ⟨c, tc, rfl⟩ : ∃ c t, v = .int c t := ints_get hvs hv
    subst hN0
    clear F9 N8
    intro E'
    ktr_unf
    k_dflt (refine' comp_eval F1 ?cl ?cell ?kind ?names ?_ ?hs; (case cl => with_unfolding_all rfl); (case cell => decide); (case kind => rfl); (case names => decide); (case hs => intro _; rfl))
    ktr_unf
    rename Fr _ _ _ _ => F9
    rename News _ _ _ _ => N9
    rename IntsAre _ (List.take 60 ns) => hws
    k_dflt (refine' op_step3 (s := ⟨_, _, _, _, _⟩) F9 N9 (News.isList N9 ?zm) hws ?zp ?zq ?zk ?zo ?_ ?zs ?zt ?zz; (case zm => exact .head _); (case zp => first | exact .none | exact .int _ _); (case zq => first | exact .none | exact .int _ _); (case zk => first | exact .none | exact .int _ _); (case zo => decide); (case zs => with_unfolding_all rfl); (case zt => (intro _; with_unfolding_all rfl)); (case zz => rw [List.length_take, sizeLine_eq]; omega))
    clear F9 N9
    intro SL us ms h' F9 N9 lSL hus hml
    ktr_unf
    rename Fr _ _ _ _ => F9
    rename News _ _ _ _ => N9
    have hul : us.length ≤ 60 := by rw [hus.length]; rw [List.length_take] at hml; omega
    generalize hN1 : (SL, PySem.W.listOf us.toArray 0) :: _ = N1 at N9
    k_dflt (refine' comp_list (J := fun i ys nw => nw = N1 ∧ ∃ xs, IntsAre ys xs ∧ xs.length = i) (vs := us) ?zkind ?zx ?zhh F9 N9 (News.isList N9 ?zl) _ ?zm ?zsz ?zh0 ?zkp ?zst ?zfi; (case zkind => rfl); (case zx => rfl); (case zhh => rfl); (case zl => rw [← hN1]; exact .head _); (case zm => rw [← hN1]; exact .head _); (case zsz => rw [sizeLine_eq]; omega); (case zh0 => exact ⟨rfl, [], .nil, rfl⟩); (case zkp => rintro i ys nw ⟨rfl, -⟩; rw [← hN1]; exact .head _))
    case zst =>
      rintro I2 lI2 i2 v2 ys2 nw2 h2 tk2 q1 C2 oC2 D2 m3 hv2 ⟨rfl, xs2, hxs2, hxl2⟩ hoC2 e3 F2 N2 off2 lD2 lC2
      obtain ⟨c2, tc2, rfl⟩ : ∃ c t, v2 = .int c t := ints_get hus hv2
      subst hN1
      clear F9 N9
      intro E'
      ktr_unf
      with_reducible refine op_mod _ (by decide) rfl (fun t5 tk5 => ?_)
      rename Fr _ _ _ _ => F9
      rename News _ _ _ _ => N9
      exact ⟨_, _, _, rfl, F9, N9, off2, rfl, _, ints_snoc hxs2, by simp [hxl2]⟩
    case zfi =>
      rintro D3 h3 tk3 ys3 nw3 F3 N3 off3 ⟨rfl, xs3, hxs3, hxl3⟩ lt3
      subst hN1
      clear F9
      ktr_unf
      k_dflt (refine' sumK ?zhh F3 N3 (News.isList N3 ?zm) hxs3 ?_; (case zhh => rfl); (case zm => exact .head _))
      clear F3 N3
      intro h4 tk4 t4 F4 N4
      ktr_unf
      with_reducible refine op_mod _ (by decide) rfl (fun t5 tk5 => ?_)
      rename Fr _ _ _ _ => F9
      rename News _ _ _ _ => N9
      refine ⟨_, _, _, rfl, F9, news_of N9 (fun p hp => ?_), off, rfl, _, ints_snoc hxs, by simp [hxl], fun n hn => ?_⟩
      · exact .tail _ (.tail _ (.tail _ hp))
      · rcases List.mem_append.mp hn with hn | hn
        · exact hxb n hn
        · rw [List.mem_singleton.mp hn]
          exact ⟨Int.emod_nonneg _ (by decide), Int.emod_lt_of_pos _ (by decide)⟩
  case fi =>
    rintro D3 h3 tk3 ys3 nw3 F3 N3 off3 ⟨rfl, xs3, hxs3, hxl3, hxb3⟩ lt3
    subst hN0
    k_lt lt3
    clear F9 N8
    obtain ⟨k, hk6, rfl⟩ := six_of (hxl3.trans hl6) hxb3
    kn_code
    k_dflt (refine' storeX_C F3 N3 ?zc ?zU d2 ?_ ?za ?zb; (case za => rfl); (case zb => rfl); (case zc => exact rfl); (case zU => k_updF))
    clear F3 N3
    intro h9 o2' F9 N9 d2'
    dsimp only at N9 ⊢
    exact hcont h9 _ k D3 ys3 o2' hk6 hxs3 F9 (news_of N9 (fun p hp => by
      rcases List.mem_cons.mp hp with h | h
      · exact h ▸ .head _
      · exact .tail _ (.tail _ h))) d2' lt3.2.1
end
section
local macro_rules | `(tactic| walk_at "none here") => `(tactic| fail)
open PySem PySem.W PyProof.Rows PySem.Calls
local macro_rules | `(tactic| wtm_at "zst") => `(tactic| ((wtm_at "zb1"); (fail_if_success any_goals with_reducible refine zs12 ?_)))
local macro_rules | `(tactic| ktr_unf) => `(tactic| repeat ((wtm_at "zst"); (wtm_at "zw1")))
local macro_rules | `(tactic| walk_at "execs cons") => `(tactic| wtm_at "zfz")
local macro_rules | `(tactic| kn_code) => `(tactic| repeat ((wtm_at "z34"); (wtm_at "zst"); (wtm_at "zw1")))
set_option maxRecDepth 100000 in
set_option maxHeartbeats 8000000 in
theorem seg2 (w : World) (o : Obj) (dp un : Nat) (gd : Option (List Code)) (L a : Addr) (cd : Value) (outer : List Env) (A₀ : Around) (base g : Heap) (p : Program) (loose : List Str) (mean : ExcName → Option Value) (mg mb : Str → Option Value) (Q : Flow → Shared → Prop) (s : Shared) (m : Str → Option Value)
    (G : Grd w o dp un outer A₀ base g p loose mean mg mb) (o1 : Obj) (rest : List (Addr × Obj)) (sc : Addr) (svs : List Value) (ns : List Int) (d1 : o1.data = .cell (some (.ref sc))) (hsc : g.IsList sc svs.toArray) (hns : IntsAre svs ns) (hln : ns.length ≤ 63) (F : Fr g L s.heap m)
    (N : News g L s.heap ((L + 1, o1) :: rest))
    (hcont : ∀ h' tk' FI fvs (x0 y0 : Int), IntsAre fvs [x0, y0] → (0 ≤ x0 ∧ x0 < 10 ^ 1500) → (0 ≤ y0 ∧ y0 < 10 ^ 1500) → Fr g L h' (fun z => if z = Str.ofString "first" then some (.ref FI) else m z) → News g L h' ((FI, W.listOf fvs.toArray fvs.length) :: (L + 1, o1) :: rest) → (∀ p ∈ (L + 1, o1) :: rest, p.1 < FI) →
      LawAt w o dp un gd L a cd outer 2 Q { s with heap := h', toks := tk' }) : LawAt w o dp un gd L a cd outer 1 Q s := by
  refine frz fun Gz fz => ?_
  obtain ⟨ho, B, X, T, hC1, hC2, hd', hu⟩ := G
  refine fz ?_
  clear fz Gz
  unfold LawAt
  revert ho
  k_fill
  intro ho
  refine' litO ho ?h ?_
  case h => k_is
  intro e
  subst e
  clear ho
  dsimp only [lawBody, lawScope, lawEnv, lawTop, List.drop]
  kn_code
  k_dflt (refine' comp_assign F ?zle ?zsw ?zcl ?zcell ?zkind ?znames ?zy ?zp ?_ ?zhs; (case zle => rfl); (case zsw => rfl); (case zcl => with_unfolding_all rfl); (case zcell => decide); (case zkind => rfl); (case znames => decide); (case zy => rfl); (case zp => rfl); (case zhs => intro _; rfl))
  ktr_unf
  rename Fr _ _ _ _ => F9
  rename News _ _ _ _ => N9
  rename_i LI h8 lLI
  obtain ⟨vs6, hvs, N8⟩ : ∃ vs6, IntsAre vs6 [5, 7] ∧ News g L _ ((LI, PySem.W.listOf vs6.toArray 0) :: (L + 1, o1) :: rest) := ⟨_, .cons _ _ (.cons _ _ .nil), N9⟩
  clear N9
  have hl6 : vs6.length = 2 := hvs.length
  generalize hN0 : (LI, PySem.W.listOf vs6.toArray 0) :: (L + 1, o1) :: rest = N0 at N8
  k_dflt (refine' comp_enum (J := fun i ys nw => nw = N0 ∧ ∃ xs, IntsAre ys xs ∧ xs.length = i ∧ ∀ n ∈ xs, 0 ≤ n ∧ n < 10 ^ 1500) (lo := PySem.W.listOf vs6.toArray 0) (vs := vs6) ?kind ?x ?x2 ?xx ?hh F9 N8 ?m ?c ?d ?sz ?h0 ?kp ?st ?fi; (case kind => rfl); (case x => rfl); (case x2 => rfl); (case xx => decide); (case hh => rfl); (case m => rw [← hN0]; exact .head _); (case c => rfl); (case d => rfl); (case sz => rw [hl6, sizeLine_eq]; omega); (case h0 => exact ⟨rfl, [], .nil, rfl, fun n hn => (nomatch hn)⟩); (case kp => rintro i ys nw ⟨rfl, -⟩; rw [← hN0]; exact .head _))
  case st =>
    intro I lI i v t ys nw h1 tk1 p1 p2 C oC D m2 hv z9
    refine frz fun Gz fz => ?_
    obtain ⟨rfl, xs, hxs, hxl, hxb⟩ := z9
    refine fz ?_
    clear fz Gz
    intro hoC e1 e2 F1 N1 off lD lC
    obtain ⟨c, tc, rfl⟩ : ∃ c t, v = .int c t := ints_get hvs hv
    subst hN0
    clear F9 N8
    intro E'
    ktr_unf
    rename Fr _ _ _ _ => F9
    rename News _ _ _ _ => N9
    rename IntsAre _ (List.take 60 ns) => hws
    k_dflt (refine' op_step3 (s := ⟨_, _, _, _, _⟩) F9 N9 (News.isList N9 ?zm) hws ?zp ?zq ?zk ?zo ?_ ?zs ?zt ?zz; (case zm => exact .head _); (case zp => first | exact .none | exact .int _ _); (case zq => first | exact .none | exact .int _ _); (case zk => first | exact .none | exact .int _ _); (case zo => decide); (case zs => with_unfolding_all rfl); (case zt => (intro _; with_unfolding_all rfl)); (case zz => rw [List.length_take, sizeLine_eq]; omega))
    clear F9 N9
    intro SL us ms h' F9 N9 lSL hus hml
    ktr_unf
    rename Fr _ _ _ _ => F9
    rename News _ _ _ _ => N9
    k_dflt (refine' sumK ?zhh F9 N9 (News.isList N9 ?zm) hus ?_; (case zhh => rfl); (case zm => exact .head _))
    clear F9 N9
    intro h4 tk4 t4 F9 N9
    ktr_unf
    with_reducible refine op_mod _ (Int.pow_pos (by decide)) rfl (fun t5 tk5 => ?_)
    rename Fr _ _ _ _ => F9
    rename News _ _ _ _ => N9
    refine ⟨_, _, _, rfl, F9, news_of N9 (fun p hp => ?_), off, rfl, _, ints_snoc hxs, by simp [hxl], fun n hn => ?_⟩
    · exact .tail _ (.tail _ hp)
    · rcases List.mem_append.mp hn with hn | hn
      · exact hxb n hn
      · rw [List.mem_singleton.mp hn]
        exact ⟨Int.emod_nonneg _ (Int.ne_of_gt (Int.pow_pos (by decide))), Int.emod_lt_of_pos _ (Int.pow_pos (by decide))⟩
  case fi =>
    intro D3 h3 tk3 ys3 nw3 F3 N3 off3 z9
    refine frz fun Gz fz => ?_
    obtain ⟨rfl, xs3, hxs3, hxl3, hxb3⟩ := z9
    refine fz ?_
    clear fz Gz
    intro lt3
    subst hN0
    clear F9 N8
    obtain ⟨x0, y0, rfl⟩ : ∃ x0 y0, xs3 = [x0, y0] := by
      rw [hl6] at hxl3
      match xs3, hxl3 with
      | [x, y], _ => exact ⟨x, y, rfl⟩
    dsimp only
    try (wtm_at "zthaw"; try dsimp only)
    exact hcont h3 tk3 D3 ys3 x0 y0 hxs3 (hxb3 x0 (by simp)) (hxb3 y0 (by simp)) F3 (news_of N3 (fun p hp => by
      rcases List.mem_cons.mp hp with h | h
      · exact h ▸ .head _
      · exact .tail _ (.tail _ h))) (fun p hp => lt3 p (.tail _ hp))
end
section
open PySem PySem.W PyProof.Rows PySem.Calls
local macro_rules | `(tactic| wtm_at "zst") => `(tactic| ((wtm_at "zb1"); (fail_if_success any_goals with_reducible (first | refine zs35 ?_ | refine zs36 ?_ | refine zs14 ?_ | refine zs17 ?_ | refine zs37 ?_ | refine zs9 ?_ | refine zs38 ?_ | refine zs39 ?_))))
local macro_rules | `(tactic| ktr_unf) => `(tactic| repeat ((wtm_at "zst"); (wtm_at "zw1")))
local macro_rules | `(tactic| walk_at "execs cons") => `(tactic| wtm_at "zfz")
local macro_rules | `(tactic| kn_code) => `(tactic| repeat ((wtm_at "z34"); (wtm_at "zst"); (wtm_at "zw1")))
local macro_rules | `(tactic| walk_at "eval Name") => `(tactic| wtm_at "zy1")
local macro_rules | `(tactic| kn_hit) => `(tactic| wtm_at "zy4")
local macro_rules | `(tactic| walk_at "eval Name") => `(tactic| wtm_at "zy6")
local macro_rules | `(tactic| walk_at "callWith") => `(tactic| wtm_at "zy7")
local macro_rules | `(tactic| walk_at "getMethod ref") => `(tactic| ((with_reducible show wpAny _ _ (getMethod (Value.ref _) (Str.ofString "append") _) _ _ _); (rename News _ _ _ _ => uN); k_dflt (refine' getMethod_append_N uN ?m ?_ ?hc ?hd; (case m => wtm_at "zmm"); (case hc => rfl); (case hd => rfl))))
section
variable {prog : Program} {w : World} {A : Around} {E : Value → Shared → Prop} {s : Shared} {env : Env} {h₀ : Heap} {x : Str} {body : List Stmt} {Q : Flow → Shared → Prop}
/-- a loop over a range, by what holds ahead of the i-th turn -/
theorem range_inv {I : Addr} {a : Int} {n : Nat} (J : Nat → (Str → Option Value) → List (Addr × Obj) → Prop)
    (turn : ∀ i m news t h tk it, i < n → J i m news → Fr h₀ env.locals h (fun y => if y = x then some (.int (a + (i : Int)) t) else m y) → News h₀ env.locals h ((I, it) :: news) →
      wpAny (model prog w) A (execs body env) (UnrPost h₀ env.locals { s with heap := h, toks := tk } I it (J (i + 1)) Q) E { s with heap := h, toks := tk })
    (done : ∀ m news h tk, J n m news → Fr h₀ env.locals h m → News h₀ env.locals h news → Q .next { s with heap := h, toks := tk }) :
    ∀ (k i : Nat) (m : Str → Option Value) (news : List (Addr × Obj)), k + i = n → J i m news → RangeRest prog w A E h₀ env x body Q s I a n k i m news
  | 0, i, m, news, hk, hJ => RangeRest.zero fun h tk F N => done m news h tk (by rw [← hk, Nat.zero_add]; exact hJ) F N
  | k + 1, i, m, news, hk, hJ => RangeRest.succ fun t h tk F N =>
    wpAny_mono (turn i m news t h tk _ (by omega) hJ F N) (fun f s₂ hp => unrPost_mono (fun m' n' hr => range_inv J turn done k (i + 1) m' n' (by omega) hr) hp) fun _ _ e => e
end
set_option maxRecDepth 100000 in
set_option maxHeartbeats 8000000 in
theorem seg3 (w : World) (o : Obj) (dp un : Nat) (gd : Option (List Code)) (L a : Addr) (cd : Value) (outer : List Env) (A₀ : Around) (base g : Heap) (p : Program) (loose : List Str) (mean : ExcName → Option Value) (mg mb : Str → Option Value) (Q : Flow → Shared → Prop) (s : Shared) (m : Str → Option Value)
    (G : Grd w o dp un outer A₀ base g p loose mean mg mb) (o2 o3 : Obj) (CE FI : Addr) (k : Six) (t0 t1 t2 t3 t4 t5 tx ty : Tok) (x0 y0 : Int) (e1 e2 : Nat) (hk6 : k.Small) (rest : List (Addr × Obj)) (d2 : o2.data = .cell (some (.ref CE))) (d3 : o3.data = .cell none) (hr : ∀ p ∈ rest, @Ne Nat p.1 (L + 1 + 1 + 1)) (l0 : @LT.lt Nat _ (L + 1 + 1 + 1) CE ∧ @LT.lt Nat _ (L + 1 + 1 + 1) FI) (F : Fr g L s.heap m) (hm : m (Str.ofString "first") = some (.ref FI))
    (hx : Builtin.Int.intBits x0 ≤ 4990 ∧ Builtin.Int.intBits y0 ≤ 4990)
    (N : News g L s.heap ((L + 1 + 1 + 1, o3) :: (L + 1 + 1, o2) :: (CE, W.listOf [.int k.a t0, .int k.b t1, .int k.c t2, .int k.d t3, .int k.e t4, .int k.f t5].toArray e1) :: (FI, W.listOf [.int x0 tx, .int y0 ty].toArray e2) :: rest))
    (hcont : ∀ h' tk' m' o3' LI L1 L2 L3 x1 y1 x2 y2 x3 y3 p1 q1 p2 q2 p3 q3, x1 = k.one x0 y0 → y1 = k.two x0 y0 → x2 = k.one x1 y1 → y2 = k.two x1 y1 → x3 = k.one x2 y2 → y3 = k.two x2 y2 → m' (Str.ofString "first") = some (.ref FI) → Fr g L h' m' →
      News g L h' ((LI, W.listOf ([Value.ref FI, Value.ref L1, Value.ref L2, Value.ref L3] : List Value).toArray 3) :: (L + 1 + 1 + 1, o3') :: (L + 1 + 1, o2) :: (CE, W.listOf [.int k.a t0, .int k.b t1, .int k.c t2, .int k.d t3, .int k.e t4, .int k.f t5].toArray e1) :: (FI, W.listOf [.int x0 tx, .int y0 ty].toArray e2) :: (L1, W.listOf [.int x1 p1, .int y1 q1].toArray 0) :: (L2, W.listOf [.int x2 p2, .int y2 q2].toArray 0) :: (L3, W.listOf [.int x3 p3, .int y3 q3].toArray 0) :: rest) → o3'.data = .cell (some (.ref LI)) → (L + 1 + 1 + 1 < LI ∧ L + 1 + 1 < LI ∧ CE < LI ∧ FI < LI ∧ AllLt LI rest) → LI < L1 → L1 < L2 → L2 < L3 →
      LawAt w o dp un gd L a cd outer 4 Q { s with heap := h', toks := tk' }) : LawAt w o dp un gd L a cd outer 2 Q s := by
  refine frz fun Gz fz => ?_
  obtain ⟨ho, B, X, T, hC1, hC2, hd', hu⟩ := G
  refine fz ?_
  clear fz Gz
  unfold LawAt
  revert ho
  k_fill
  intro ho
  refine' litO ho ?h ?_
  case h => k_is
  intro e
  subst e
  clear ho
  dsimp only [lawBody, lawScope, lawEnv, lawTop, List.drop]
  ktr_unf
  rename Fr _ _ _ _ => F9
  rename News _ _ _ _ => N9
  k_dflt (refine' newList_K F9 N9 ?_)
  clear F9 N9
  intro LI h' F9 N9 lLI
  k_lt lLI
  ktr_unf
  k_dflt (refine' storeX_C F9 N9 ?zc (UpdF.tail ?zn (UpdF.head ?zU)) d3 ?_ ?za ?zb; (case za => rfl); (case zb => rfl); (case zc => exact rfl); (case zn => k_ne); (case zU => exact List.forall_mem_cons.mpr ⟨by k_ne, List.forall_mem_cons.mpr ⟨by k_ne, List.forall_mem_cons.mpr ⟨by k_ne, hr⟩⟩⟩))
  clear F9 N9
  intro h9 o3' F9 N9 d3'
  dsimp only at N9 ⊢
  ktr_unf
  walk1
  rename_i I lI
  have mul4 : ∀ (n : Nat) (x : Int), n < 10 → IntMulOk (n : Int) x := fun n x h => IntMulOk.of_left (Nat.le_trans (bits_le (k := 4) (by omega) (by omega)) (by decide))
  refine frz fun Gz fz => ?_
  obtain ⟨h6a, h6b, h6c, h6d, h6e, h6f⟩ := hk6
  refine fz ?_
  clear fz Gz
  k_dflt (refine RangeRest.succ (k := 2) ?_)
  intro tt h' tk' F1 N1
  ktr_unf
  rename News _ _ _ _ => N1
  k_dflt (refine' kde_neg (News.isList N1 ?k1) ?k2 ?k3 ?k4 ?k5 ?_ ?k6; (case k2 => decide); (case k3 => decide); (case k1 => repeat (first | with_reducible assumption | with_reducible exact List.mem_cons_self | with_reducible refine List.mem_cons_of_mem _ ?_)); (case k4 => exact rfl); (case k5 => exact rfl); (case k6 => with_unfolding_all rfl))
  ktr_unf
  rename Fr _ _ _ _ => F9
  rename News _ _ _ _ => N1
  k_dflt (refine' kun_list F9 N1 (News.isList N1 ?zm) ?zh ?zl ?zs ?_; (case zm => repeat (first | with_reducible assumption | with_reducible exact List.mem_cons_self | with_reducible refine List.mem_cons_of_mem _ ?_)); (case zh => rfl); (case zl => rfl); (case zs => rfl))
  clear F9 N1
  intro h' F9 N9
  k_dflt (refine assignInOrder_cons ?_)
  ktr_unf
  k_dflt (refine assignInOrder_cons ?_)
  ktr_unf
  k_dflt (refine assignInOrder_nil ?_)
  ktr_unf
  kn_hit
  ktr_unf
  with_reducible refine op_mul _ (mul4 _ _ h6a) rfl (fun t' tk => ?_)
  ktr_unf
  kn_hit
  ktr_unf
  with_reducible refine op_mul _ (mul4 _ _ h6b) rfl (fun t' tk => ?_)
  ktr_unf
  kn_hit
  ktr_unf
  kn_hit
  ktr_unf
  with_reducible refine op_mul _ (mul4 _ _ h6d) rfl (fun t' tk => ?_)
  ktr_unf
  kn_hit
  ktr_unf
  with_reducible refine op_mul _ (mul4 _ _ h6e) rfl (fun t' tk => ?_)
  ktr_unf
  kn_hit
  ktr_unf
  rename Fr _ _ _ _ => F9
  rename News _ _ _ _ => N9
  k_dflt (refine' newList_K F9 N9 ?_)
  clear F9 N9
  intro L1 h' F9 N9 l1
  k_lt l1
  ktr_unf
  obtain ⟨x1, hx1⟩ : ∃ x, x = k.one x0 y0 := ⟨_, rfl⟩
  obtain ⟨y1, hy1⟩ : ∃ y, y = k.two x0 y0 := ⟨_, rfl⟩
  k_dflt (refine' op_append F9 N9 (Upd.tail ?u1 (Upd.tail ?u2 (Upd.head ?u3))) ?u4 ?_; (case u1 => k_ne); (case u2 => k_ne); (case u4 => exact Nat.le_of_ble_eq_true rfl); (case u3 => exact List.forall_mem_cons.mpr ⟨by k_ne, List.forall_mem_cons.mpr ⟨by k_ne, List.forall_mem_cons.mpr ⟨by k_ne, List.forall_mem_cons.mpr ⟨by k_ne, fun p hp => Nat.ne_of_lt (ktn_ltOf lLI.2.2.2.2 p hp)⟩⟩⟩⟩))
  clear F9 N9
  intro h' F9 N9
  ktr_unf
  rename Fr _ _ _ _ => F9
  rename News _ _ _ _ => N9
  obtain ⟨M1, hM1, F8⟩ : ∃ M : Str → Option Value, M (Str.ofString "first") = some (.ref FI) ∧ Fr g L _ M := ⟨_, by first | exact hm | exact hM0, F9⟩
  clear F9
  obtain ⟨p1, q1, N8⟩ : ∃ p q, News g L _ ((I, itR _ _) :: (LI, PySem.W.listOf ([Value.ref FI, Value.ref L1] : List Value).toArray 1) :: (L + 1 + 1 + 1, o3') :: (L + 1 + 1, o2) :: (CE, PySem.W.listOf [.int k.a t0, .int k.b t1, .int k.c t2, .int k.d t3, .int k.e t4, .int k.f t5].toArray e1) :: (FI, PySem.W.listOf [.int x0 tx, .int y0 ty].toArray e2) :: (L1, PySem.W.listOf [.int x1 p, .int y1 q].toArray 0) :: rest) := ⟨_, _, by
    rw [hx1, hy1]
    exact news_of N9 (fun p hp => by
      refine ZSub.go ?_ p hp; wtm_at "zsub")⟩
  clear N9
  refine UnrEnd.intro F8 N8 _ (fun p hp => hp) (List.forall_mem_cons.mpr ⟨by k_ne, List.forall_mem_cons.mpr ⟨by k_ne, List.forall_mem_cons.mpr ⟨by k_ne, List.forall_mem_cons.mpr ⟨by k_ne, List.forall_mem_cons.mpr ⟨by k_ne, List.forall_mem_cons.mpr ⟨by k_ne, fun p hp => Nat.ne_of_lt (ktn_ltOf lI.2.2.2.2.2 p hp)⟩⟩⟩⟩⟩⟩) ?_
  clear F8 N8
  k_dflt (refine RangeRest.succ (k := 1) ?_)
  intro tt h' tk' F1 N1
  ktr_unf
  rename News _ _ _ _ => N1
  k_dflt (refine' kde_neg (News.isList N1 ?k1) ?k2 ?k3 ?k4 ?k5 ?_ ?k6; (case k2 => decide); (case k3 => decide); (case k1 => repeat (first | with_reducible assumption | with_reducible exact List.mem_cons_self | with_reducible refine List.mem_cons_of_mem _ ?_)); (case k4 => exact rfl); (case k5 => exact rfl); (case k6 => with_unfolding_all rfl))
  ktr_unf
  rename Fr _ _ _ _ => F9
  rename News _ _ _ _ => N1
  k_dflt (refine' kun_list F9 N1 (News.isList N1 ?zm) ?zh ?zl ?zs ?_; (case zm => repeat (first | with_reducible assumption | with_reducible exact List.mem_cons_self | with_reducible refine List.mem_cons_of_mem _ ?_)); (case zh => rfl); (case zl => rfl); (case zs => rfl))
  clear F9 N1
  intro h' F9 N9
  k_dflt (refine assignInOrder_cons ?_)
  ktr_unf
  k_dflt (refine assignInOrder_cons ?_)
  ktr_unf
  k_dflt (refine assignInOrder_nil ?_)
  ktr_unf
  kn_hit
  ktr_unf
  with_reducible refine op_mul _ (mul4 _ _ h6a) rfl (fun t' tk => ?_)
  ktr_unf
  kn_hit
  ktr_unf
  with_reducible refine op_mul _ (mul4 _ _ h6b) rfl (fun t' tk => ?_)
  ktr_unf
  kn_hit
  ktr_unf
  kn_hit
  ktr_unf
  with_reducible refine op_mul _ (mul4 _ _ h6d) rfl (fun t' tk => ?_)
  ktr_unf
  kn_hit
  ktr_unf
  with_reducible refine op_mul _ (mul4 _ _ h6e) rfl (fun t' tk => ?_)
  ktr_unf
  kn_hit
  ktr_unf
  rename Fr _ _ _ _ => F9
  rename News _ _ _ _ => N9
  k_dflt (refine' newList_K F9 N9 ?_)
  clear F9 N9
  intro L2 h' F9 N9 l2
  k_lt l2
  ktr_unf
  obtain ⟨x2, hx2⟩ : ∃ x, x = k.one x1 y1 := ⟨_, rfl⟩
  obtain ⟨y2, hy2⟩ : ∃ y, y = k.two x1 y1 := ⟨_, rfl⟩
  k_dflt (refine' op_append F9 N9 (Upd.tail ?u1 (Upd.tail ?u2 (Upd.head ?u3))) ?u4 ?_; (case u1 => k_ne); (case u2 => k_ne); (case u4 => exact Nat.le_of_ble_eq_true rfl); (case u3 => exact List.forall_mem_cons.mpr ⟨by k_ne, List.forall_mem_cons.mpr ⟨by k_ne, List.forall_mem_cons.mpr ⟨by k_ne, List.forall_mem_cons.mpr ⟨by k_ne, List.forall_mem_cons.mpr ⟨by k_ne, fun p hp => Nat.ne_of_lt (ktn_ltOf lLI.2.2.2.2 p hp)⟩⟩⟩⟩⟩))
  clear F9 N9
  intro h' F9 N9
  ktr_unf
  rename Fr _ _ _ _ => F9
  rename News _ _ _ _ => N9
  obtain ⟨M2, hM2, F8⟩ : ∃ M : Str → Option Value, M (Str.ofString "first") = some (.ref FI) ∧ Fr g L _ M := ⟨_, by first | exact hm | exact hM1, F9⟩
  clear F9
  obtain ⟨p2, q2, N8⟩ : ∃ p q, News g L _ ((I, itR _ _) :: (LI, PySem.W.listOf ([Value.ref FI, Value.ref L1, Value.ref L2] : List Value).toArray 2) :: (L + 1 + 1 + 1, o3') :: (L + 1 + 1, o2) :: (CE, PySem.W.listOf [.int k.a t0, .int k.b t1, .int k.c t2, .int k.d t3, .int k.e t4, .int k.f t5].toArray e1) :: (FI, PySem.W.listOf [.int x0 tx, .int y0 ty].toArray e2) :: (L1, PySem.W.listOf [.int x1 p1, .int y1 q1].toArray 0) :: (L2, PySem.W.listOf [.int x2 p, .int y2 q].toArray 0) :: rest) := ⟨_, _, by
    rw [hx2, hy2]
    exact news_of N9 (fun p hp => by
      refine ZSub.go ?_ p hp; wtm_at "zsub")⟩
  clear N9
  refine UnrEnd.intro F8 N8 _ (fun p hp => hp) (List.forall_mem_cons.mpr ⟨by k_ne, List.forall_mem_cons.mpr ⟨by k_ne, List.forall_mem_cons.mpr ⟨by k_ne, List.forall_mem_cons.mpr ⟨by k_ne, List.forall_mem_cons.mpr ⟨by k_ne, List.forall_mem_cons.mpr ⟨by k_ne, List.forall_mem_cons.mpr ⟨by k_ne, fun p hp => Nat.ne_of_lt (ktn_ltOf lI.2.2.2.2.2 p hp)⟩⟩⟩⟩⟩⟩⟩) ?_
  clear F8 N8
  k_dflt (refine RangeRest.succ (k := 0) ?_)
  intro tt h' tk' F1 N1
  ktr_unf
  rename News _ _ _ _ => N1
  k_dflt (refine' kde_neg (News.isList N1 ?k1) ?k2 ?k3 ?k4 ?k5 ?_ ?k6; (case k2 => decide); (case k3 => decide); (case k1 => repeat (first | with_reducible assumption | with_reducible exact List.mem_cons_self | with_reducible refine List.mem_cons_of_mem _ ?_)); (case k4 => exact rfl); (case k5 => exact rfl); (case k6 => with_unfolding_all rfl))
  ktr_unf
  rename Fr _ _ _ _ => F9
  rename News _ _ _ _ => N1
  k_dflt (refine' kun_list F9 N1 (News.isList N1 ?zm) ?zh ?zl ?zs ?_; (case zm => repeat (first | with_reducible assumption | with_reducible exact List.mem_cons_self | with_reducible refine List.mem_cons_of_mem _ ?_)); (case zh => rfl); (case zl => rfl); (case zs => rfl))
  clear F9 N1
  intro h' F9 N9
  k_dflt (refine assignInOrder_cons ?_)
  ktr_unf
  k_dflt (refine assignInOrder_cons ?_)
  ktr_unf
  k_dflt (refine assignInOrder_nil ?_)
  ktr_unf
  kn_hit
  ktr_unf
  with_reducible refine op_mul _ (mul4 _ _ h6a) rfl (fun t' tk => ?_)
  ktr_unf
  kn_hit
  ktr_unf
  with_reducible refine op_mul _ (mul4 _ _ h6b) rfl (fun t' tk => ?_)
  ktr_unf
  kn_hit
  ktr_unf
  kn_hit
  ktr_unf
  with_reducible refine op_mul _ (mul4 _ _ h6d) rfl (fun t' tk => ?_)
  ktr_unf
  kn_hit
  ktr_unf
  with_reducible refine op_mul _ (mul4 _ _ h6e) rfl (fun t' tk => ?_)
  ktr_unf
  kn_hit
  ktr_unf
  rename Fr _ _ _ _ => F9
  rename News _ _ _ _ => N9
  k_dflt (refine' newList_K F9 N9 ?_)
  clear F9 N9
  intro L3 h' F9 N9 l3
  k_lt l3
  ktr_unf
  obtain ⟨x3, hx3⟩ : ∃ x, x = k.one x2 y2 := ⟨_, rfl⟩
  obtain ⟨y3, hy3⟩ : ∃ y, y = k.two x2 y2 := ⟨_, rfl⟩
  k_dflt (refine' op_append F9 N9 (Upd.tail ?u1 (Upd.tail ?u2 (Upd.head ?u3))) ?u4 ?_; (case u1 => k_ne); (case u2 => k_ne); (case u4 => exact Nat.le_of_ble_eq_true rfl); (case u3 => exact List.forall_mem_cons.mpr ⟨by k_ne, List.forall_mem_cons.mpr ⟨by k_ne, List.forall_mem_cons.mpr ⟨by k_ne, List.forall_mem_cons.mpr ⟨by k_ne, List.forall_mem_cons.mpr ⟨by k_ne, List.forall_mem_cons.mpr ⟨by k_ne, fun p hp => Nat.ne_of_lt (ktn_ltOf lLI.2.2.2.2 p hp)⟩⟩⟩⟩⟩⟩))
  clear F9 N9
  intro h' F9 N9
  ktr_unf
  rename Fr _ _ _ _ => F9
  rename News _ _ _ _ => N9
  obtain ⟨M3, hM3, F8⟩ : ∃ M : Str → Option Value, M (Str.ofString "first") = some (.ref FI) ∧ Fr g L _ M := ⟨_, by first | exact hm | exact hM2, F9⟩
  clear F9
  obtain ⟨p3, q3, N8⟩ : ∃ p q, News g L _ ((I, itR _ _) :: (LI, PySem.W.listOf ([Value.ref FI, Value.ref L1, Value.ref L2, Value.ref L3] : List Value).toArray 3) :: (L + 1 + 1 + 1, o3') :: (L + 1 + 1, o2) :: (CE, PySem.W.listOf [.int k.a t0, .int k.b t1, .int k.c t2, .int k.d t3, .int k.e t4, .int k.f t5].toArray e1) :: (FI, PySem.W.listOf [.int x0 tx, .int y0 ty].toArray e2) :: (L1, PySem.W.listOf [.int x1 p1, .int y1 q1].toArray 0) :: (L2, PySem.W.listOf [.int x2 p2, .int y2 q2].toArray 0) :: (L3, PySem.W.listOf [.int x3 p, .int y3 q].toArray 0) :: rest) := ⟨_, _, by
    rw [hx3, hy3]
    exact news_of N9 (fun p hp => by
      refine ZSub.go ?_ p hp; wtm_at "zsub")⟩
  clear N9
  refine UnrEnd.intro F8 N8 _ (fun p hp => hp) (List.forall_mem_cons.mpr ⟨by k_ne, List.forall_mem_cons.mpr ⟨by k_ne, List.forall_mem_cons.mpr ⟨by k_ne, List.forall_mem_cons.mpr ⟨by k_ne, List.forall_mem_cons.mpr ⟨by k_ne, List.forall_mem_cons.mpr ⟨by k_ne, List.forall_mem_cons.mpr ⟨by k_ne, List.forall_mem_cons.mpr ⟨by k_ne, fun p hp => Nat.ne_of_lt (ktn_ltOf lI.2.2.2.2.2 p hp)⟩⟩⟩⟩⟩⟩⟩⟩) ?_
  clear F8 N8
  k_dflt (refine RangeRest.zero ?_)
  intro h' tk' F9 N9
  dsimp only
  try (wtm_at "zthaw"; try dsimp only)
  exact hcont h' _ M3 o3' LI L1 L2 L3 x1 y1 x2 y2 x3 y3 p1 q1 p2 q2 p3 q3 hx1 hy1 hx2 hy2 hx3 hy3 hM3 F9 N9 d3' lLI l1.2.1 l2.2.2.2.2.2.2.1 l3.2.2.2.2.2.2.2.1
end
section
open PySem PySem.W PyProof.Rows PySem.Calls
local macro_rules | `(tactic| wtm_at "zst") => `(tactic| ((wtm_at "zbL"); (fail_if_success any_goals with_reducible refine zs42 ?_)))
local macro_rules | `(tactic| ktr_unf) => `(tactic| repeat ((wtm_at "zst"); (wtm_at "zw1")))
local macro_rules | `(tactic| walk_at "execs cons") => `(tactic| wtm_at "zfz")
local macro_rules | `(tactic| kn_code) => `(tactic| repeat ((wtm_at "z34"); (wtm_at "zst"); (wtm_at "zw1")))
local macro_rules | `(tactic| walk_at "eval Name") => `(tactic| wtm_at "zy1")
local macro_rules | `(tactic| kn_hit) => `(tactic| wtm_at "zy4")
local macro_rules | `(tactic| walk_at "eval Name") => `(tactic| wtm_at "zy6")
local macro_rules | `(tactic| walk_at "callWith") => `(tactic| wtm_at "zy7")
/-- a row's text -/
def rowText (a b c : Nat) : Str := ⟨#[120, 42, 48 + a, 43, 121, 42, 48 + b, 43, 48 + c]⟩
def rowTexts (k : Six) : List Str := [rowText k.a k.b k.c, rowText k.d k.e k.f]
theorem dig_text {n : Nat} (h : n < 10) : Str.ofString (toString (n : Int)) = ⟨#[48 + n]⟩ := by
  match n, h with
  | 0, _ | 1, _ | 2, _ | 3, _ | 4, _ | 5, _ | 6, _ | 7, _ | 8, _ | 9, _ => decide +kernel
  | n + 10, h => exact absurd h (by omega)
theorem dig_fit {n : Nat} (h : n < 10) : (n : Int).natAbs.log2 < 1920 := by
  match n, h with
  | 0, _ | 1, _ | 2, _ | 3, _ | 4, _ | 5, _ | 6, _ | 7, _ | 8, _ | 9, _ => decide +kernel
  | n + 10, h => exact absurd h (by omega)
theorem row_text (a b c : Nat) : Str.ofString "x*" ++ ⟨#[48 + a]⟩ ++ Str.ofString "+y*" ++ ⟨#[48 + b]⟩ ++ Str.ofString "+" ++ ⟨#[48 + c]⟩ = rowText a b c := by kernel_rfl
theorem join_text (k : Six) : Txt.join (Str.ofString ";") (rowTexts k) = textOf k := by kernel_rfl
set_option maxRecDepth 100000 in
set_option maxHeartbeats 8000000 in
theorem seg4 (w : World) (o : Obj) (dp un : Nat) (gd : Option (List Code)) (L a : Addr) (cd : Value) (outer : List Env) (A₀ : Around) (base g : Heap) (p : Program) (loose : List Str) (mean : ExcName → Option Value) (mg mb : Str → Option Value) (Q : Flow → Shared → Prop) (s : Shared) (m : Str → Option Value)
    (G : Grd w o dp un outer A₀ base g p loose mean mg mb) (o2 : Obj) (CE : Addr) (k : Six) (t0 t1 t2 t3 t4 t5 : Tok) (e1 : Nat) (hk6 : k.Small) (rest : List (Addr × Obj)) (d2 : o2.data = .cell (some (.ref CE))) (F : Fr g L s.heap m)
    (N : News g L s.heap ((L + 1 + 1, o2) :: (CE, W.listOf [.int k.a t0, .int k.b t1, .int k.c t2, .int k.d t3, .int k.e t4, .int k.f t5].toArray e1) :: rest))
    (hcont : ∀ h' tk' tt, Fr g L h' (fun z => if z = Str.ofString "text" then some (.str (textOf k) tt) else m z) → News g L h' ((L + 1 + 1, o2) :: (CE, W.listOf [.int k.a t0, .int k.b t1, .int k.c t2, .int k.d t3, .int k.e t4, .int k.f t5].toArray e1) :: rest) →
      LawAt w o dp un gd L a cd outer 5 Q { s with heap := h', toks := tk' }) : LawAt w o dp un gd L a cd outer 4 Q s := by
  refine frz fun Gz fz => ?_
  obtain ⟨ho, B, X, T, hC1, hC2, hd', hu⟩ := G
  refine fz ?_
  clear fz Gz
  unfold LawAt
  revert ho
  k_fill
  intro ho
  refine' litO ho ?h ?_
  case h => k_is
  intro e
  subst e
  clear ho
  dsimp only [lawBody, lawScope, lawEnv, lawTop, List.drop]
  refine frz fun Gz fz => ?_
  obtain ⟨h6a, h6b, h6c, h6d, h6e, h6f⟩ := hk6
  refine fz ?_
  clear fz Gz
  ktr_unf
  k_dflt (refine' comp_eval F ?cl ?cell ?kind ?names ?_ ?hs; (case cl => with_unfolding_all rfl); (case cell => decide); (case kind => rfl); (case names => decide); (case hs => intro _; rfl))
  ktr_unf
  rename Fr _ _ _ _ => F9
  rename News _ _ _ _ => N9
  rename_i TU h8 lTU
  obtain ⟨ta, tb, N8⟩ : ∃ ta tb, News g L _ ((TU, ({ cls := .type "tuple", data := .seq [Value.int 0 ta, Value.int 3 tb].toArray } : Obj)) :: (L + 1 + 1, o2) :: (CE, PySem.W.listOf [.int k.a t0, .int k.b t1, .int k.c t2, .int k.d t3, .int k.e t4, .int k.f t5].toArray e1) :: rest) := ⟨_, _, N9⟩
  clear N9
  generalize hN0 : (TU, ({ cls := .type "tuple", data := .seq [Value.int 0 ta, Value.int 3 tb].toArray } : Obj)) :: (L + 1 + 1, o2) :: (CE, PySem.W.listOf [.int k.a t0, .int k.b t1, .int k.c t2, .int k.d t3, .int k.e t4, .int k.f t5].toArray e1) :: rest = N0 at N8
  have mT : (TU, ({ cls := .type "tuple", data := .seq [Value.int 0 ta, Value.int 3 tb].toArray } : Obj)) ∈ N0 := by rw [← hN0]; exact .head _
  k_dflt (refine' comp_tup (J := fun i ys nw => nw = N0 ∧ StrsAre ys ((rowTexts k).take i)) (vs := [Value.int 0 ta, Value.int 3 tb]) ?zkind ?zx ?zhh F9 N8 (News.isTup N8 mT) _ mT ?zsz ?zh0 ?zkp ?zst ?zfi; (case zkind => rfl); (case zx => rfl); (case zhh => rfl); (case zsz => exact Nat.le_of_ble_eq_true rfl); (case zh0 => exact ⟨rfl, .nil⟩); (case zkp => rintro i ys nw ⟨rfl, -⟩; exact mT))
  case zst =>
    rintro I lI i v ys nw h1 tk1 p1 C oC D m2 hv ⟨rfl, hys⟩ hoC e1 F1 N1 off lD lC
    subst hN0
    clear F9 N8
    intro E'
    match i, hv with
    | 0, hv =>
      obtain rfl : Value.int 0 ta = v := Option.some.inj hv
      ktr_unf
      kn_hit
      ktr_unf
      refine P.str_of_int (dig_fit h6a) ?_
      rw [dig_text h6a]
      ktr_unf
      kn_hit
      ktr_unf
      refine P.str_of_int (dig_fit h6b) ?_
      rw [dig_text h6b]
      ktr_unf
      kn_hit
      ktr_unf
      refine P.str_of_int (dig_fit h6c) ?_
      rw [dig_text h6c]
      ktr_unf
      rw [row_text]
      rename Fr _ _ _ _ => F9
      rename News _ _ _ _ => N9
      exact ⟨_, _, _, rfl, F9, N9, off, rfl, kct_snoc hys⟩
    | 1, hv =>
      obtain rfl : Value.int 3 tb = v := Option.some.inj hv
      ktr_unf
      kn_hit
      ktr_unf
      refine P.str_of_int (dig_fit h6d) ?_
      rw [dig_text h6d]
      ktr_unf
      kn_hit
      ktr_unf
      refine P.str_of_int (dig_fit h6e) ?_
      rw [dig_text h6e]
      ktr_unf
      kn_hit
      ktr_unf
      refine P.str_of_int (dig_fit h6f) ?_
      rw [dig_text h6f]
      ktr_unf
      rw [row_text]
      rename Fr _ _ _ _ => F9
      rename News _ _ _ _ => N9
      exact ⟨_, _, _, rfl, F9, N9, off, rfl, kct_snoc hys⟩
  case zfi =>
    rintro D3 h3 tk3 ys3 nw3 F3 N3 off3 ⟨rfl, hys3⟩ lt3
    subst hN0
    clear F9 N8
    ktr_unf
    refine PyProof.Rows.join_listW (ys := rowTexts k) (News.isList N3 (.head _)) hys3 (by decide) (by show 9 + (9 + 0) + 2 ≤ 1048576; omega) (fun t' tk' => ?_)
    rw [join_text]
    kn_code
    walk1
    rename Fr _ _ _ _ => F9
    rename News _ _ _ _ => N9
    try dsimp only
    try (wtm_at "zthaw"; try dsimp only)
    exact hcont _ _ _ F9 (news_of N9 (fun p hp => .tail _ (.tail _ hp)))
end
section
local macro_rules | `(tactic| walk_at "none here") => `(tactic| fail)
open PySem PySem.W PyProof.Rows PySem.Calls
local macro_rules | `(tactic| wtm_at "zst") => `(tactic| ((wtm_at "zbL"); (fail_if_success any_goals with_reducible (first | refine zs17 ?_ | refine zs27 ?_))))
local macro_rules | `(tactic| ktr_unf) => `(tactic| repeat ((wtm_at "zst"); (wtm_at "zw1")))
local macro_rules | `(tactic| walk_at "execs cons") => `(tactic| wtm_at "zfz")
local macro_rules | `(tactic| kn_code) => `(tactic| repeat ((wtm_at "z34"); (wtm_at "zst"); (wtm_at "zw1")))
local macro_rules | `(tactic| walk_at "eval Name") => `(tactic| wtm_at "zy1")
local macro_rules | `(tactic| kn_hit) => `(tactic| wtm_at "zy4")
local macro_rules | `(tactic| walk_at "eval Name") => `(tactic| wtm_at "zy6")
local macro_rules | `(tactic| walk_at "callWith") => `(tactic| wtm_at "zy7")
local macro_rules | `(tactic| kn_enter) => `(tactic| wtm_at "zy5")
set_option maxRecDepth 100000 in
set_option maxHeartbeats 8000000 in
theorem seg5 (w : World) (o : Obj) (dp un : Nat) (gd : Option (List Code)) (L a : Addr) (cd : Value) (outer : List Env) (A₀ : Around) (base g : Heap) (p : Program) (loose : List Str) (mean : ExcName → Option Value) (mg mb : Str → Option Value) (Q : Flow → Shared → Prop) (s : Shared) (m : Str → Option Value)
    (G : Grd w o dp un outer A₀ base g p loose mean mg mb) (k : Six) (hk6 : k.Small) (rest : List (Addr × Obj)) (tt : Tok) (hm : m (Str.ofString "text") = some (.str (textOf k) tt)) (F : Fr g L s.heap m) (Ld : Led g L s.heap rest)
    (hcont : ∀ h' tk' m' SY svs e, IntsAre svs (symsOf k) → m' (Str.ofString "symbols") = some (.ref SY) → (∀ z, z ≠ Str.ofString "symbols" → z ≠ Str.ofString "one" → m' z = m z) → Fr g L h' m' → Led g L h' ((SY, W.listOf svs.toArray e) :: rest) → (∀ p ∈ rest, p.1 < SY) →
      LawAt w o dp un gd L a cd outer 7 Q { s with heap := h', toks := tk' }) : LawAt w o dp un gd L a cd outer 5 Q s := by
  refine frz fun Gz fz => ?_
  obtain ⟨ho, B, X, T, hC1, hC2, hd', hu⟩ := G
  refine fz ?_
  clear fz Gz
  unfold LawAt
  revert ho
  k_fill
  intro ho
  refine' litO ho ?h ?_
  case h => k_is
  intro e
  subst e
  clear ho
  dsimp only [lawBody, lawScope, lawEnv, lawTop, List.drop]
  have N := Ld.rest
  ktr_unf
  rename Fr _ _ _ _ => F9
  with_reducible refine' CallsL.use (ct_symbols w k hk6 _) ?hA B F9 X Ld T ?hk hC1 hC2 trivial ?h1 ?h2 ?_
  case hA => exact rfl
  case hk => exact rfl
  case h1 => (show dp + _ < recursionLimit; omega)
  case h2 => (show un + 8 * _ < cLine; omega)
  clear F9 N
  intro v9 new h' tk' F9 Ld9 z9
  refine frz fun Gz fz => ?_
  obtain ⟨SY, svs, e, rfl, rfl, hsv⟩ := z9
  refine fz ?_
  clear fz Gz
  intro lt9
  simp only [List.cons_append, List.nil_append] at Ld9
  have N9 := Ld9
  refine frz fun Gz fz => ?_
  obtain ⟨ps, c, o, qs, d, u, N9, hT, hO⟩ := Ld9
  refine fz ?_
  clear fz Gz
  ktr_unf
  rename Fr _ _ _ _ => F9
  rename News _ _ _ _ => N9
  refine frz fun Gz fz => ?_
  obtain ⟨M0, hM1, hM2, F8⟩ : ∃ M0 : Str → Option Value, M0 (Str.ofString "symbols") = some (.ref SY) ∧ (∀ z, z ≠ Str.ofString "symbols" → z ≠ Str.ofString "one" → M0 z = m z) ∧ Fr g L _ M0 := ⟨_, rfl, fun z h1 h2 => by simp [h1], F9⟩
  refine fz ?_
  clear fz Gz
  clear F9
  with_unfolding_all refine' For_turns F8 ?_
  ktr_unf
  k_dflt (refine' newList_K F8 N9 ?_)
  clear F8 N9
  intro LX h' F9 N9 lLX
  ktr_unf
  k_dflt (refine' kmk_add_ints F9 N9 (News.isList N9 ?za) (News.isList N9 ?zb) hsv (.cons 255 _ (.cons 256 _ .nil)) ?_ ?zz; (case za => exact .tail _ (.tail _ (.tail _ (.tail _ (.tail _ (.head _)))))); (case zb => exact .head _); (case zz => rw [symsOf_eq k hk6, sizeLine_eq]; exact Nat.le_of_ble_eq_true rfl))
  clear F9 N9
  intro LY us h' F9 N9 lLY hus
  ktr_unf
  generalize hys : symsOf k ++ [255, 256] = ys at hus
  generalize hN1 : (LY, PySem.W.listOf us.toArray 0) :: _ = N1 at N9
  have mY : (LY, PySem.W.listOf us.toArray 0) ∈ N1 := by rw [← hN1]; exact .head _
  with_unfolding_all refine' iter_listTurns (lo := PySem.W.listOf us.toArray 0) (vs := us) (by rfl) F9 N9 mY (by rfl) rfl ?_
  intro I lI
  refine list_inv (J := fun rem m' news' => news' = N1 ∧ (∃ l, IntsAre rem l) ∧ m' (Str.ofString "symbols") = some (.ref SY) ∧ (∀ z, z ≠ Str.ofString "symbols" → z ≠ Str.ofString "one" → m' z = m z)) ?turn ?done _ _ _ ?start
  case start => exact ⟨rfl, ⟨ys, hus⟩, hM1, hM2⟩
  case turn =>
    intro v r m1 news1 o1 h1 tk1 z9
    refine frz fun Gz fz => ?_
    obtain ⟨rfl, ⟨l, hi⟩, q1, q2⟩ := z9
    refine fz ?_
    clear fz Gz
    intro F1 N1'
    change Fr g L _ _ at F1
    change News g L _ _ at N1'
    cases hi with
    | cons x tx hi =>
      clear F9 N9
      ktr_unf
      kn_enter
      ktr_unf
      with_reducible refine ite_neg (by simp) ?_
      ktr_unf
      kn_enter
      ktr_unf
      with_reducible refine ite_neg (by rw [show decide (x ≥ 256) = decide (x > 255) from by rw [decide_eq_decide]; omega]; simp) ?_
      ktr_unf
      kn_enter
      ktr_unf
      with_reducible refine ite_neg (by by_cases h : x = 0 <;> simp [h]) ?_
      ktr_unf
      with_reducible refine ite_neg (by decide) ?_
      ktr_unf
      rename Fr _ _ _ _ => F9
      rename News _ _ _ _ => N9
      refine ⟨_, _, _, _, rfl, F9, N9, fun p hp q hq => ?_, ⟨mY, trivial⟩, rfl, ⟨_, hi⟩, q1, fun z h1 h2 => ?_⟩
      · rw [List.mem_singleton.mp hq]; exact Nat.ne_of_lt (lI p hp)
      · dsimp only
        rw [if_neg h2]
        exact q2 z h1 h2
  case done =>
    intro m1 news1 h1 tk1 z9
    refine frz fun Gz fz => ?_
    obtain ⟨rfl, -, q1, q2⟩ := z9
    refine fz ?_
    clear fz Gz
    intro F1 N1'
    change Fr g L _ _ at F1
    change News g L _ _ at N1'
    subst hN1
    try (wtm_at "zthaw"; try dsimp only)
    exact hcont h1 tk1 m1 SY svs e hsv q1 q2 F1 (Led.pack N1' (fun p hp => .tail _ (.tail _ hp)) hT hO) (lt9 _ (.head _))
end
section
open PySem PySem.W PyProof.Rows PySem.Calls
local macro_rules | `(tactic| ktr_unf) => `(tactic| repeat ((wtm_at "zbL"); (wtm_at "zw1")))
local macro_rules | `(tactic| walk_at "execs cons") => `(tactic| wtm_at "zfz")
local macro_rules | `(tactic| kn_code) => `(tactic| repeat ((wtm_at "z34"); (wtm_at "zbL"); (wtm_at "zw1")))
local macro_rules | `(tactic| walk_at "eval Name") => `(tactic| wtm_at "zy1")
local macro_rules | `(tactic| kn_hit) => `(tactic| wtm_at "zy4")
local macro_rules | `(tactic| walk_at "eval Name") => `(tactic| wtm_at "zy6")
local macro_rules | `(tactic| walk_at "callWith") => `(tactic| wtm_at "zy7")
theorem rows_of (k : Six) (hk : k.Small) : rowsGo [] (symsOf k) = [[256, 16, 258 + (k.a : Int), 14, 257, 16, 258 + (k.b : Int), 14, 258 + (k.c : Int)], [256, 16, 258 + (k.d : Int), 14, 257, 16, 258 + (k.e : Int), 14, 258 + (k.f : Int)]] := by
  rw [symsOf_eq k hk]
  have h : ∀ n : Nat, ¬ (258 + (n : Int) = 0 ∨ 258 + (n : Int) = 13) := fun n h => by omega
  simp [rowsGo, h]
@[elab_as_elim] theorem ints_inv {P : List Value → Prop} {vs : List Value} {n : Int} {ns : List Int} (h : IntsAre vs (n :: ns)) (k : ∀ t vs', IntsAre vs' ns → P (.int n t :: vs')) : P vs := by
  cases h with | cons _ t h => exact k t _ h
@[elab_as_elim] theorem ints_nil {P : List Value → Prop} {vs : List Value} (h : IntsAre vs []) (k : P []) : P vs := by
  cases h; exact k
theorem row_at {R : Addr} {vs : List Value} {a b c e : Nat} {l : List (Addr × Obj)} (h : IntsAre vs [256, 16, 258 + (a : Int), 14, 257, 16, 258 + (b : Int), 14, 258 + (c : Int)]) (hm : (R, W.listOf vs.toArray e) ∈ l) : RowAt a b c R l := by
  revert hm
  refine ints_inv h fun t0 vs h => ?_
  refine ints_inv h fun t1 vs h => ?_
  refine ints_inv h fun t2 vs h => ?_
  refine ints_inv h fun t3 vs h => ?_
  refine ints_inv h fun t4 vs h => ?_
  refine ints_inv h fun t5 vs h => ?_
  refine ints_inv h fun t6 vs h => ?_
  refine ints_inv h fun t7 vs h => ?_
  refine ints_inv h fun t8 vs h => ?_
  refine ints_nil h fun hm => ?_
  exact ⟨t0, t1, t2, t3, t4, t5, t6, t7, t8, e, hm⟩
set_option maxRecDepth 100000 in
set_option maxHeartbeats 8000000 in
theorem seg6 (w : World) (o : Obj) (dp un : Nat) (gd : Option (List Code)) (L a : Addr) (cd : Value) (outer : List Env) (A₀ : Around) (base g : Heap) (p : Program) (loose : List Str) (mean : ExcName → Option Value) (mg mb : Str → Option Value) (Q : Flow → Shared → Prop) (s : Shared) (m : Str → Option Value)
    (G : Grd w o dp un outer A₀ base g p loose mean mg mb) (k : Six) (hk6 : k.Small) (o3 o4 : Obj) (SY LI FI L1 L2 L3 : Addr) (svs : List Value) (x0 y0 x1 y1 x2 y2 x3 y3 : Int) (tx ty p1 q1 p2 q2 p3 q3 : Tok) (e2 es : Nat) (R : List (Addr × Obj)) (d3 : o3.data = .cell (some (.ref LI))) (d4 : o4.data = .cell none) (hsv : IntsAre svs (symsOf k))
    (hm : m (Str.ofString "symbols") = some (.ref SY)) (F : Fr g L s.heap m) (Ld : Led g L s.heap ((L + 1 + 1 + 1 + 1, o4) :: (L + 1 + 1 + 1, o3) :: (LI, W.listOf [Value.ref FI, Value.ref L1, Value.ref L2, Value.ref L3].toArray 3) :: (FI, W.listOf [.int x0 tx, .int y0 ty].toArray e2) :: (L1, W.listOf [.int x1 p1, .int y1 q1].toArray 0) :: (L2, W.listOf [.int x2 p2, .int y2 q2].toArray 0) :: (L3, W.listOf [.int x3 p3, .int y3 q3].toArray 0) :: (SY, W.listOf svs.toArray es) :: R))
    (hne : ∀ p ∈ (L + 1 + 1 + 1, o3) :: (LI, W.listOf [Value.ref FI, Value.ref L1, Value.ref L2, Value.ref L3].toArray 3) :: (FI, W.listOf [.int x0 tx, .int y0 ty].toArray e2) :: (L1, W.listOf [.int x1 p1, .int y1 q1].toArray 0) :: (L2, W.listOf [.int x2 p2, .int y2 q2].toArray 0) :: (L3, W.listOf [.int x3 p3, .int y3 q3].toArray 0) :: (SY, W.listOf svs.toArray es) :: R, @Ne Nat p.1 (L + 1 + 1 + 1 + 1))
    (hcont : ∀ h' tk' o4' RO R0 R1 v0 v1 e0 e1 er E te, IntsAre v0 [256, 16, 258 + (k.a : Int), 14, 257, 16, 258 + (k.b : Int), 14, 258 + (k.c : Int)] → IntsAre v1 [256, 16, 258 + (k.d : Int), 14, 257, 16, 258 + (k.e : Int), 14, 258 + (k.f : Int)] →
      E = 1 + [x0 + y0, x1 + y1, x2 + y2, x3 + y3].sum → Fr g L h' (fun y => if y = Str.ofString "rows" then some (.ref RO) else m y) → o4'.data = .cell (some (.int E te)) → Led g L h' ((L + 1 + 1 + 1 + 1, o4') :: (RO, W.listOf [Value.ref R0, Value.ref R1].toArray er) :: (R0, W.listOf v0.toArray e0) :: (R1, W.listOf v1.toArray e1) :: (L + 1 + 1 + 1, o3) :: (LI, W.listOf [Value.ref FI, Value.ref L1, Value.ref L2, Value.ref L3].toArray 3) :: (FI, W.listOf [.int x0 tx, .int y0 ty].toArray e2) :: (L1, W.listOf [.int x1 p1, .int y1 q1].toArray 0) :: (L2, W.listOf [.int x2 p2, .int y2 q2].toArray 0) :: (L3, W.listOf [.int x3 p3, .int y3 q3].toArray 0) :: (SY, W.listOf svs.toArray es) :: R) →
      (∀ q ∈ [(RO, W.listOf (refs [(R0, W.listOf v0.toArray e0), (R1, W.listOf v1.toArray e1)]).toArray er), (R0, W.listOf v0.toArray e0), (R1, W.listOf v1.toArray e1)], ∀ p ∈ (L + 1 + 1 + 1 + 1, o4) :: (L + 1 + 1 + 1, o3) :: (LI, W.listOf [Value.ref FI, Value.ref L1, Value.ref L2, Value.ref L3].toArray 3) :: (FI, W.listOf [.int x0 tx, .int y0 ty].toArray e2) :: (L1, W.listOf [.int x1 p1, .int y1 q1].toArray 0) :: (L2, W.listOf [.int x2 p2, .int y2 q2].toArray 0) :: (L3, W.listOf [.int x3 p3, .int y3 q3].toArray 0) :: (SY, W.listOf svs.toArray es) :: R, p.1 < q.1) →
      LawAt w o dp un gd L a cd outer 8 Q { s with heap := h', toks := tk' }) : LawAt w o dp un gd L a cd outer 7 Q s := by
  refine frz fun Gz fz => ?_
  obtain ⟨ho, B, X, T, hC1, hC2, hd', hu⟩ := G
  refine fz ?_
  clear fz Gz
  unfold LawAt
  revert ho
  k_fill
  intro ho
  refine' litO ho ?h ?_
  case h => k_is
  intro e
  subst e
  clear ho
  dsimp only [lawBody, lawScope, lawEnv, lawTop, List.drop]
  have N := Ld.rest
  ktr_unf
  rename Fr _ _ _ _ => F9
  have hl : (symsOf k).length ≤ 1000 := by rw [symsOf_eq k hk6]; exact Nat.le_of_ble_eq_true rfl
  with_reducible refine' CallsL.use (ct_rows w SY svs (symsOf k) es hsv _ (rows_of k hk6) hl) ?hA B F9 X Ld T ?hk hC1 hC2 ?hn ?h1 ?h2 ?_
  case hA => exact rfl
  case hk => exact rfl
  case hn => repeat (first | with_reducible assumption | with_reducible exact List.mem_cons_self | with_reducible refine List.mem_cons_of_mem _ ?_)
  case h1 => (show dp + _ < recursionLimit; omega)
  case h2 => (show un + 8 * _ < cLine; omega)
  clear F9 N Ld
  intro v9 new h' tk' F9 Ld9 z9
  refine frz fun Gz fz => ?_
  obtain ⟨RO, dn, er, rfl, rfl, hdn⟩ := z9
  refine fz ?_
  clear fz Gz
  intro lt9
  obtain ⟨R0, R1, v0, v1, e0, e1, hv0, hv1, rfl⟩ : Ex6 fun R0 R1 v0 v1 e0 e1 => IntsAre v0 [256, 16, 258 + (k.a : Int), 14, 257, 16, 258 + (k.b : Int), 14, 258 + (k.c : Int)] ∧ IntsAre v1 [256, 16, 258 + (k.d : Int), 14, 257, 16, 258 + (k.e : Int), 14, 258 + (k.f : Int)] ∧ dn = [(R0, PySem.W.listOf v0.toArray e0), (R1, PySem.W.listOf v1.toArray e1)] := by
    cases hdn with
    | cons h0 r => cases r with
      | cons h1 r => cases r; exact ⟨_, _, _, _, _, _, h0, h1, rfl⟩
  simp only [List.cons_append, List.nil_append] at Ld9 lt9
  refine frz fun Gz fz => ?_
  obtain ⟨ps, c, o, qs, d, u, N9, hT, hO⟩ := Ld9
  refine fz ?_
  clear fz Gz
  ktr_unf
  rename Fr _ _ _ _ => F9
  k_dflt (refine' comp_eval F9 ?cl ?cell ?kind ?names ?_ ?hs; (case cl => with_unfolding_all rfl); (case cell => decide); (case kind => rfl); (case names => decide); (case hs => intro _; rfl))
  ktr_unf
  rename Fr _ _ _ _ => F9
  rename News _ _ _ _ => N9
  generalize hN0 : (30, tabObj ps) :: _ = N0 at N9
  have mLI : (LI, PySem.W.listOf [Value.ref FI, Value.ref L1, Value.ref L2, Value.ref L3].toArray 3) ∈ N0 := by rw [← hN0]; repeat (first | with_reducible assumption | with_reducible exact List.mem_cons_self | with_reducible refine List.mem_cons_of_mem _ ?_)
  have m0 : (FI, PySem.W.listOf [.int x0 tx, .int y0 ty].toArray e2) ∈ N0 := by rw [← hN0]; repeat (first | with_reducible assumption | with_reducible exact List.mem_cons_self | with_reducible refine List.mem_cons_of_mem _ ?_)
  have m1 : (L1, PySem.W.listOf [.int x1 p1, .int y1 q1].toArray 0) ∈ N0 := by rw [← hN0]; repeat (first | with_reducible assumption | with_reducible exact List.mem_cons_self | with_reducible refine List.mem_cons_of_mem _ ?_)
  have m2 : (L2, PySem.W.listOf [.int x2 p2, .int y2 q2].toArray 0) ∈ N0 := by rw [← hN0]; repeat (first | with_reducible assumption | with_reducible exact List.mem_cons_self | with_reducible refine List.mem_cons_of_mem _ ?_)
  have m3 : (L3, PySem.W.listOf [.int x3 p3, .int y3 q3].toArray 0) ∈ N0 := by rw [← hN0]; repeat (first | with_reducible assumption | with_reducible exact List.mem_cons_self | with_reducible refine List.mem_cons_of_mem _ ?_)
  have mall : ∀ q ∈ [(FI, Value.int x0 tx, Value.int y0 ty, e2), (L1, Value.int x1 p1, Value.int y1 q1, 0), (L2, Value.int x2 p2, Value.int y2 q2, 0), (L3, Value.int x3 p3, Value.int y3 q3, 0)], (q.1, PySem.W.listOf [q.2.1, q.2.2.1].toArray q.2.2.2) ∈ N0 := List.forall_mem_cons.mpr ⟨m0, List.forall_mem_cons.mpr ⟨m1, List.forall_mem_cons.mpr ⟨m2, List.forall_mem_cons.mpr ⟨m3, fun _ h => (nomatch h)⟩⟩⟩⟩
  k_dflt (refine' comp_twos (e := 3) (els := [(FI, Value.int x0 tx, Value.int y0 ty, e2), (L1, Value.int x1 p1, Value.int y1 q1, 0), (L2, Value.int x2 p2, Value.int y2 q2, 0), (L3, Value.int x3 p3, Value.int y3 q3, 0)]) (J := fun i ys nw => nw = N0 ∧ IntsAre ys ([x0 + y0, x1 + y1, x2 + y2, x3 + y3].take i)) ?zkind ?zx ?zx2 ?zxx ?zhh F9 N9 mLI mall ?zsz ?zh0 ?zkp ?zst ?zfi; (case zkind => rfl); (case zx => rfl); (case zx2 => rfl); (case zxx => decide); (case zhh => rfl); (case zsz => exact Nat.le_of_ble_eq_true rfl); (case zh0 => exact ⟨rfl, .nil⟩); (case zkp => rintro i ys nw ⟨rfl, -⟩; exact ⟨mLI, mall⟩))
  case zst =>
    rintro I lI i q ys nw h1 tk1 s1 C oC D m2' hv ⟨rfl, hys⟩ hoC e1' e2' F1 N1 off lD lC
    clear F9 N9
    obtain ⟨xa, xb, t, u, e1, e2, he⟩ : ∃ (xa xb : Int) (t u : Tok), m2' (Str.ofString "x") = some (.int xa t) ∧ m2' (Str.ofString "y") = some (.int xb u) ∧ [x0 + y0, x1 + y1, x2 + y2, x3 + y3].take (i + 1) = [x0 + y0, x1 + y1, x2 + y2, x3 + y3].take i ++ [xa + xb] := by
      match i, hv with
      | 0, hv => cases hv; exact ⟨x0, y0, tx, ty, e1', e2', rfl⟩
      | 1, hv => cases hv; exact ⟨x1, y1, p1, q1, e1', e2', rfl⟩
      | 2, hv => cases hv; exact ⟨x2, y2, p2, q2, e1', e2', rfl⟩
      | 3, hv => cases hv; exact ⟨x3, y3, p3, q3, e1', e2', rfl⟩
    clear e1' e2' hv
    intro E'
    ktr_unf
    rename Fr _ _ _ _ => F9
    rename News _ _ _ _ => N9
    exact ⟨_, _, _, rfl, F9, N9, off, rfl, he ▸ ints_snoc hys⟩
  case zfi =>
    rintro D3 h3 tk3 ys3 nw3 F3 N3 off3 ⟨rfl, hys3⟩ lt3
    subst hN0
    clear F9
    ktr_unf
    k_dflt (refine' sumK ?zhh F3 N3 (News.isList N3 ?zm) hys3 ?_; (case zhh => rfl); (case zm => exact .head _))
    clear F3 N3
    intro h4 tk4 t4 F9 N9
    ktr_unf
    rename Fr _ _ _ _ => F9
    rename News _ _ _ _ => N9
    have N8 : News g L _ ((L + 1 + 1 + 1 + 1, o4) :: (30, tabObj ps) :: (c, o) :: (37, tabObj qs) :: (d, u) :: (RO, PySem.W.listOf [Value.ref R0, Value.ref R1].toArray er) :: (R0, PySem.W.listOf v0.toArray e0) :: (R1, PySem.W.listOf v1.toArray e1) :: (L + 1 + 1 + 1, o3) :: (LI, PySem.W.listOf [Value.ref FI, Value.ref L1, Value.ref L2, Value.ref L3].toArray 3) :: (FI, PySem.W.listOf [.int x0 tx, .int y0 ty].toArray e2) :: (L1, PySem.W.listOf [.int x1 p1, .int y1 q1].toArray 0) :: (L2, PySem.W.listOf [.int x2 p2, .int y2 q2].toArray 0) :: (L3, PySem.W.listOf [.int x3 p3, .int y3 q3].toArray 0) :: (SY, PySem.W.listOf svs.toArray es) :: R) := news_of N9 (fun p hp => by
      refine ZSub.go ?_ p hp; wtm_at "zsub")
    clear N9
    have h4 := hO _ (.tail _ (.tail _ (.tail _ (.head _))))
    have hall : ∀ p ∈ (30, tabObj ps) :: (c, o) :: (37, tabObj qs) :: (d, u) :: (RO, PySem.W.listOf [Value.ref R0, Value.ref R1].toArray er) :: (R0, PySem.W.listOf v0.toArray e0) :: (R1, PySem.W.listOf v1.toArray e1) :: (L + 1 + 1 + 1, o3) :: (LI, PySem.W.listOf [Value.ref FI, Value.ref L1, Value.ref L2, Value.ref L3].toArray 3) :: (FI, PySem.W.listOf [.int x0 tx, .int y0 ty].toArray e2) :: (L1, PySem.W.listOf [.int x1 p1, .int y1 q1].toArray 0) :: (L2, PySem.W.listOf [.int x2 p2, .int y2 q2].toArray 0) :: (L3, PySem.W.listOf [.int x3 p3, .int y3 q3].toArray 0) :: (SY, PySem.W.listOf svs.toArray es) :: R, p.1 ≠ L + 1 + 1 + 1 + 1 :=
      List.forall_mem_cons.mpr ⟨Ne.symm h4.1, List.forall_mem_cons.mpr ⟨Ne.symm h4.2.2.1, List.forall_mem_cons.mpr ⟨Ne.symm h4.2.1, List.forall_mem_cons.mpr ⟨Ne.symm h4.2.2.2, List.forall_mem_cons.mpr ⟨Nat.ne_of_gt (lt9 _ (.head _) _ (.head _)), List.forall_mem_cons.mpr ⟨Nat.ne_of_gt (lt9 _ (.tail _ (.head _)) _ (.head _)), List.forall_mem_cons.mpr ⟨Nat.ne_of_gt (lt9 _ (.tail _ (.tail _ (.head _))) _ (.head _)), hne⟩⟩⟩⟩⟩⟩⟩
    k_dflt (refine' storeX_C F9 N8 ?zc (UpdF.head ?zU) d4 ?_ ?za ?zb; (case za => rfl); (case zb => rfl); (case zc => exact rfl); (case zU => exact hall))
    clear F9 N8
    intro h9 o4' F9 N9 d4'
    dsimp only at N9 ⊢
    k_dflt (refine assignInOrder_nil ?_)
    try dsimp only
    try (wtm_at "zthaw"; try dsimp only)
    refine hcont h9 _ o4' RO R0 R1 v0 v1 e0 e1 er _ _ hv0 hv1 rfl F9 d4' (Led.pack N9 (fun p hp => ?_) hT (fun p hp => ?_)) (fun q hq p hp => lt9 q hq p hp)
    · refine ZSub.go ?_ p hp; wtm_at "zsub"
    · rcases List.mem_cons.mp hp with rfl | hp
      · exact h4
      · refine hO p ?_
        refine ZSub.go ?_ p hp; wtm_at "zsub"
end
section
local macro_rules | `(tactic| walk_at "none here") => `(tactic| fail)
open PySem PySem.W PyProof.Rows PySem.Calls
local macro_rules | `(tactic| wtm_at "zst") => `(tactic| ((wtm_at "zbL"); (fail_if_success any_goals with_reducible (first | refine zs36 ?_ | refine zs42 ?_))))
local macro_rules | `(tactic| ktr_unf) => `(tactic| repeat ((wtm_at "zst"); (wtm_at "zw1")))
local macro_rules | `(tactic| walk_at "execs cons") => `(tactic| wtm_at "zfz")
local macro_rules | `(tactic| kn_code) => `(tactic| repeat ((wtm_at "z34"); (wtm_at "zst"); (wtm_at "zw1")))
local macro_rules | `(tactic| walk_at "eval Name") => `(tactic| wtm_at "zy1")
local macro_rules | `(tactic| kn_hit) => `(tactic| wtm_at "zy4")
local macro_rules | `(tactic| walk_at "eval Name") => `(tactic| wtm_at "zy6")
local macro_rules | `(tactic| walk_at "callWith") => `(tactic| wtm_at "zy7")
/-- the four divisors -/
def dvs (E : Int) : List Int := [1 + 12 * 1 * E, 1 + 12 * 2 * E, 1 + 12 * 3 * E, 1 + 12 * 4 * E]
theorem dv_bits {E : Int} {c : Int} (hc : Builtin.Int.intBits c ≤ 6) (h : Builtin.Int.intBits E ≤ 5100) : Builtin.Int.intBits (1 + c * E) ≤ 5110 :=
  Nat.le_trans (intBits_add_le (m := 1) (n := 6 + 5100) (by decide) (intBits_mul_le hc h)) (by decide)
set_option maxRecDepth 100000 in
set_option maxHeartbeats 8000000 in
theorem seg7 (w : World) (o : Obj) (dp un : Nat) (gd : Option (List Code)) (L a : Addr) (cd : Value) (outer : List Env) (A₀ : Around) (base g : Heap) (p : Program) (loose : List Str) (mean : ExcName → Option Value) (mg mb : Str → Option Value) (Q : Flow → Shared → Prop) (s : Shared) (m : Str → Option Value)
    (G : Grd w o dp un outer A₀ base g p loose mean mg mb) (o4 o5 o6 : Obj) (E0 : Int) (te : Tok) (R : List (Addr × Obj)) (d4 : o4.data = .cell (some (.int E0 te))) (d5 : o5.data = .cell none) (d6 : o6.data = .cell none) (hE : Builtin.Int.intBits E0 ≤ 5100)
    (F : Fr g L s.heap m) (Ld : Led g L s.heap ((L + 1 + 1 + 1 + 1, o4) :: (L + 1 + 1 + 1 + 1 + 1, o5) :: (L + 1 + 1 + 1 + 1 + 1 + 1, o6) :: R)) (hne : ∀ p ∈ R, @Ne Nat p.1 (L + 1 + 1 + 1 + 1 + 1) ∧ @Ne Nat p.1 (L + 1 + 1 + 1 + 1 + 1 + 1))
    (hcont : ∀ h' tk' o5' o6' DI u1 u2 u3 u4 P tp, P = (1 + 12 * 1 * E0) * (1 + 12 * 2 * E0) * (1 + 12 * 3 * E0) * (1 + 12 * 4 * E0) → Fr g L h' m → o5'.data = .cell (some (.ref DI)) → o6'.data = .cell (some (.int P tp)) →
      Led g L h' ((L + 1 + 1 + 1 + 1 + 1 + 1, o6') :: (L + 1 + 1 + 1 + 1 + 1, o5') :: (DI, W.listOf [Value.int (1 + 12 * 1 * E0) u1, Value.int (1 + 12 * 2 * E0) u2, Value.int (1 + 12 * 3 * E0) u3, Value.int (1 + 12 * 4 * E0) u4].toArray 4) :: (L + 1 + 1 + 1 + 1, o4) :: R) → (∀ p ∈ (L + 1 + 1 + 1 + 1, o4) :: (L + 1 + 1 + 1 + 1 + 1, o5) :: (L + 1 + 1 + 1 + 1 + 1 + 1, o6) :: R, p.1 < DI) →
      LawAt w o dp un gd L a cd outer 10 Q { s with heap := h', toks := tk' }) : LawAt w o dp un gd L a cd outer 8 Q s := by
  refine frz fun Gz fz => ?_
  obtain ⟨ho, B, X, T, hC1, hC2, hd', hu⟩ := G
  refine fz ?_
  clear fz Gz
  unfold LawAt
  revert ho
  k_fill
  intro ho
  refine' litO ho ?h ?_
  case h => k_is
  intro e
  subst e
  clear ho
  dsimp only [lawBody, lawScope, lawEnv, lawTop, List.drop]
  have N := Ld.rest
  refine frz fun Gz fz => ?_
  obtain ⟨ps, c, o, qs, d, u, N9, hT, hO⟩ := Ld
  refine fz ?_
  clear fz Gz
  clear N
  have h4 := hO _ (.head _)
  have h5 := hO _ (.tail _ (.head _))
  have h6 := hO _ (.tail _ (.tail _ (.head _)))
  kn_code
  k_dflt (refine wpAny_Assign_Name ?_)
  k_dflt (refine' comp_eval F ?cl ?cell ?kind ?names ?_ ?hs; (case cl => with_unfolding_all rfl); (case cell => decide); (case kind => rfl); (case names => decide); (case hs => intro _; rfl))
  ktr_unf
  rename Fr _ _ _ _ => F9
  rename News _ _ _ _ => N9
  rename_i TU h8 lTU
  refine frz fun Gz fz => ?_
  obtain ⟨ta, tb, tc, td, N8⟩ : ∃ ta tb tc td, News g L _ ((TU, ({ cls := .type "tuple", data := .seq [Value.int 1 ta, Value.int 2 tb, Value.int 3 tc, Value.int 4 td].toArray } : Obj)) :: (30, tabObj ps) :: (c, o) :: (37, tabObj qs) :: (d, u) :: (L + 1 + 1 + 1 + 1, o4) :: (L + 1 + 1 + 1 + 1 + 1, o5) :: (L + 1 + 1 + 1 + 1 + 1 + 1, o6) :: R) := ⟨_, _, _, _, N9⟩
  refine fz ?_
  clear fz Gz
  clear N9
  generalize hN0 : (TU, ({ cls := .type "tuple", data := .seq [Value.int 1 ta, Value.int 2 tb, Value.int 3 tc, Value.int 4 td].toArray } : Obj)) :: _ = N0 at N8
  have mT : (TU, ({ cls := .type "tuple", data := .seq [Value.int 1 ta, Value.int 2 tb, Value.int 3 tc, Value.int 4 td].toArray } : Obj)) ∈ N0 := by rw [← hN0]; exact .head _
  k_dflt (refine' comp_tup (J := fun i ys nw => nw = N0 ∧ IntsAre ys ((dvs E0).take i)) (vs := [Value.int 1 ta, Value.int 2 tb, Value.int 3 tc, Value.int 4 td]) ?zkind ?zx ?zhh F9 N8 (News.isTup N8 mT) _ mT ?zsz ?zh0 ?zkp ?zst ?zfi; (case zkind => rfl); (case zx => rfl); (case zhh => rfl); (case zsz => exact Nat.le_of_ble_eq_true rfl); (case zh0 => exact ⟨rfl, .nil⟩); (case zkp => rintro i ys nw ⟨rfl, -⟩; exact mT))
  case zst =>
    rintro I lI i v ys nw h1 tk1 p1 C oC D m2 hv ⟨rfl, hys⟩ hoC e1 F1 N1 off lD lC
    subst hN0
    clear F9 N8
    obtain ⟨kk, tk, rfl, hkb, he⟩ : ∃ (kk : Int) (t : Tok), v = .int kk t ∧ Builtin.Int.intBits (12 * kk) ≤ 64 ∧ (dvs E0).take (i + 1) = (dvs E0).take i ++ [1 + 12 * kk * E0] := by
      match i, hv with
      | 0, hv => cases hv; exact ⟨1, ta, rfl, by decide, rfl⟩
      | 1, hv => cases hv; exact ⟨2, tb, rfl, by decide, rfl⟩
      | 2, hv => cases hv; exact ⟨3, tc, rfl, by decide, rfl⟩
      | 3, hv => cases hv; exact ⟨4, td, rfl, by decide, rfl⟩
    intro E'
    ktr_unf
    with_reducible refine op_mul _ (IntMulOk.of_left (by decide)) rfl (fun t' tk => ?_)
    ktr_unf
    with_reducible refine op_mul _ (IntMulOk.of_left hkb) rfl (fun t' tk => ?_)
    ktr_unf
    rename Fr _ _ _ _ => F9
    rename News _ _ _ _ => N9
    exact ⟨_, _, _, rfl, F9, N9, off, rfl, he ▸ ints_snoc hys⟩
  case zfi =>
    rintro D3 h3 tk3 ys3 nw3 F3 N3 off3 ⟨rfl, hys3⟩ lt3
    subst hN0
    clear F9 N8
    obtain ⟨u1, u2, u3, u4, rfl⟩ : ∃ u1 u2 u3 u4, ys3 = [Value.int (1 + 12 * 1 * E0) u1, Value.int (1 + 12 * 2 * E0) u2, Value.int (1 + 12 * 3 * E0) u3, Value.int (1 + 12 * 4 * E0) u4] := by
      have h : IntsAre ys3 [1 + 12 * 1 * E0, 1 + 12 * 2 * E0, 1 + 12 * 3 * E0, 1 + 12 * 4 * E0] := hys3
      exact ints_inv h fun t0 _ h => ints_inv h fun t1 _ h => ints_inv h fun t2 _ h => ints_inv h fun t3 _ h => ints_nil h ⟨_, _, _, _, rfl⟩
    kn_code
    have N8 : News g L _ ((L + 1 + 1 + 1 + 1 + 1, o5) :: (D3, PySem.W.listOf [Value.int (1 + 12 * 1 * E0) u1, Value.int (1 + 12 * 2 * E0) u2, Value.int (1 + 12 * 3 * E0) u3, Value.int (1 + 12 * 4 * E0) u4].toArray 4) :: (30, tabObj ps) :: (c, o) :: (37, tabObj qs) :: (d, u) :: (L + 1 + 1 + 1 + 1, o4) :: (L + 1 + 1 + 1 + 1 + 1 + 1, o6) :: R) := news_of N3 (fun p hp => by
      refine ZSub.go ?_ p hp; wtm_at "zsub")
    clear N3
    have ltD : ∀ p ∈ (30, tabObj ps) :: (c, o) :: (37, tabObj qs) :: (d, u) :: (L + 1 + 1 + 1 + 1, o4) :: (L + 1 + 1 + 1 + 1 + 1, o5) :: (L + 1 + 1 + 1 + 1 + 1 + 1, o6) :: R, p.1 < D3 := fun p hp => lt3 p (.tail _ hp)
    have hD5 : @LT.lt Nat _ (L + 1 + 1 + 1 + 1 + 1) D3 := ltD _ (.tail _ (.tail _ (.tail _ (.tail _ (.tail _ (.head _))))))
    have hD6 : @LT.lt Nat _ (L + 1 + 1 + 1 + 1 + 1 + 1) D3 := ltD _ (.tail _ (.tail _ (.tail _ (.tail _ (.tail _ (.tail _ (.head _)))))))
    have hall5 : ∀ p ∈ (D3, PySem.W.listOf [Value.int (1 + 12 * 1 * E0) u1, Value.int (1 + 12 * 2 * E0) u2, Value.int (1 + 12 * 3 * E0) u3, Value.int (1 + 12 * 4 * E0) u4].toArray 4) :: (30, tabObj ps) :: (c, o) :: (37, tabObj qs) :: (d, u) :: (L + 1 + 1 + 1 + 1, o4) :: (L + 1 + 1 + 1 + 1 + 1 + 1, o6) :: R, p.1 ≠ L + 1 + 1 + 1 + 1 + 1 :=
      List.forall_mem_cons.mpr ⟨Nat.ne_of_gt hD5, List.forall_mem_cons.mpr ⟨Ne.symm h5.1, List.forall_mem_cons.mpr ⟨Ne.symm h5.2.2.1, List.forall_mem_cons.mpr ⟨Ne.symm h5.2.1, List.forall_mem_cons.mpr ⟨Ne.symm h5.2.2.2, List.forall_mem_cons.mpr ⟨Nat.ne_of_lt (Nat.lt_succ_self _), List.forall_mem_cons.mpr ⟨Nat.ne_of_gt (Nat.lt_succ_self _), fun p hp => (hne p hp).1⟩⟩⟩⟩⟩⟩⟩
    k_dflt (refine' storeX_C F3 N8 ?zc (UpdF.head ?zU) d5 ?_ ?za ?zb; (case za => rfl); (case zb => rfl); (case zc => exact rfl); (case zU => exact hall5))
    clear F3 N8
    intro h9 o5' F9 N9 d5'
    dsimp only at N9 ⊢
    have b1 := dv_bits (c := 12 * 1) (by decide) hE
    have b2 := dv_bits (c := 12 * 2) (by decide) hE
    have b3 := dv_bits (c := 12 * 3) (by decide) hE
    have b4 := dv_bits (c := 12 * 4) (by decide) hE
    have b12 := intBits_mul_le b1 b2
    have b123 := intBits_mul_le b12 b3
    ktr_unf
    kn_hit
    ktr_unf
    kn_hit
    ktr_unf
    with_reducible refine op_mul _ (mulOk (by omega)) rfl (fun t' tk => ?_)
    ktr_unf
    kn_hit
    ktr_unf
    with_reducible refine op_mul _ (mulOk (by omega)) rfl (fun t' tk => ?_)
    ktr_unf
    kn_hit
    ktr_unf
    with_reducible refine op_mul _ (mulOk (by omega)) rfl (fun t' tk => ?_)
    kn_code
    rename Fr _ _ _ _ => F9
    rename News _ _ _ _ => N9
    have N8 : News g L _ ((L + 1 + 1 + 1 + 1 + 1 + 1, o6) :: (L + 1 + 1 + 1 + 1 + 1, o5') :: (D3, PySem.W.listOf [Value.int (1 + 12 * 1 * E0) u1, Value.int (1 + 12 * 2 * E0) u2, Value.int (1 + 12 * 3 * E0) u3, Value.int (1 + 12 * 4 * E0) u4].toArray 4) :: (30, tabObj ps) :: (c, o) :: (37, tabObj qs) :: (d, u) :: (L + 1 + 1 + 1 + 1, o4) :: R) := news_of N9 (fun p hp => by
      refine ZSub.go ?_ p hp; wtm_at "zsub")
    clear N9
    have hall6 : ∀ p ∈ (L + 1 + 1 + 1 + 1 + 1, o5') :: (D3, PySem.W.listOf [Value.int (1 + 12 * 1 * E0) u1, Value.int (1 + 12 * 2 * E0) u2, Value.int (1 + 12 * 3 * E0) u3, Value.int (1 + 12 * 4 * E0) u4].toArray 4) :: (30, tabObj ps) :: (c, o) :: (37, tabObj qs) :: (d, u) :: (L + 1 + 1 + 1 + 1, o4) :: R, p.1 ≠ L + 1 + 1 + 1 + 1 + 1 + 1 :=
      List.forall_mem_cons.mpr ⟨Nat.ne_of_lt (Nat.lt_succ_self _), List.forall_mem_cons.mpr ⟨Nat.ne_of_gt hD6, List.forall_mem_cons.mpr ⟨Ne.symm h6.1, List.forall_mem_cons.mpr ⟨Ne.symm h6.2.2.1, List.forall_mem_cons.mpr ⟨Ne.symm h6.2.1, List.forall_mem_cons.mpr ⟨Ne.symm h6.2.2.2, List.forall_mem_cons.mpr ⟨Nat.ne_of_lt (Nat.lt_succ_of_lt (Nat.lt_succ_self _)), fun p hp => (hne p hp).2⟩⟩⟩⟩⟩⟩⟩
    k_dflt (refine' storeX_C F9 N8 ?zc (UpdF.head ?zU) d6 ?_ ?za ?zb; (case za => rfl); (case zb => rfl); (case zc => exact rfl); (case zU => exact hall6))
    clear F9 N8
    intro h9 o6' F9 N9 d6'
    dsimp only at N9 ⊢
    try (wtm_at "zthaw"; try dsimp only)
    refine hcont h9 _ o5' o6' D3 u1 u2 u3 u4 _ _ rfl F9 d5' d6' (Led.pack N9 (fun p hp => ?_) hT (fun p hp => ?_)) (fun p hp => ltD p (.tail _ (.tail _ (.tail _ (.tail _ hp)))))
    · refine ZSub.go ?_ p hp; wtm_at "zsub"
    · simp only [List.mem_cons] at hp
      rcases hp with rfl | rfl | rfl | rfl | h
      · exact h6
      · exact h5
      · exact ⟨Nat.ne_of_gt (ltD _ (.head _)), Nat.ne_of_gt (ltD _ (.tail _ (.tail _ (.head _)))), Nat.ne_of_gt (ltD _ (.tail _ (.head _))), Nat.ne_of_gt (ltD _ (.tail _ (.tail _ (.tail _ (.head _)))))⟩
      · exact h4
      · exact hO p (.tail _ (.tail _ (.tail _ h)))
end
section
open PySem PySem.W PyProof.Rows PySem.Calls LCg
section
variable {prog : Program} {w : World} {A : Around} {E : Value → Shared → Prop} {s : Shared} {h₀ : Heap} {L : Addr} {m : Str → Option Value} {env : Env}
def OffK (I C K D : Addr) (l : List (Addr × Obj)) : Prop := ∀ p ∈ l, @Ne Nat p.1 I ∧ @Ne Nat p.1 C ∧ @Ne Nat p.1 K ∧ @Ne Nat p.1 D
/-- a comprehension down a tuple whose name an inner block reads -/
def CompTC (prog : Program) (w : World) (A : Around) (h₀ : Heap) (L : Addr) (m : Str → Option Value) (env : Env) (elt : Expr) (x : Str) (scope : Scope) (cl : List (Str × Addr)) (Q : Value → Shared → Prop) (xv : Value) (s₁ : Shared) : Prop :=
  Ex3 fun (l : Addr) (lo : Obj) (vs : List Value) => ∃ (news : List (Addr × Obj)) (J : Nat → List Value → List (Addr × Obj) → Prop), An4 (xv = .ref l) (Fr h₀ L s₁.heap m) (News h₀ L s₁.heap news) (An4 (IsTup s₁.heap l vs.toArray) ((l, lo) ∈ news) (vs.length ≤ sizeLine) (An4 (J 0 [] news) ((∀ i ys nw, J i ys nw → (l, lo) ∈ nw)) ((∀ I C K D, (∀ p ∈ news, p.1 < I) → I < D → D < C → C < K → ∀ i v ys nw h₁ tk o1 oC oK m₂, vs[i]? = some v → J i ys nw → NsObj oC m₂ → oK.data = .cell (some v) → Fr h₀ L h₁ m → News h₀ L h₁ ((C, oC) :: (K, oK) :: (D, lst ys) :: (I, o1) :: nw) → OffK I C K D nw → ∀ E' : Value → Shared → Prop,
      wpAny (model prog w) A (eval elt (compEnvC scope ((x, K) :: cl) C env)) (fun y s₄ => ∃ h' tk' nw', s₄ = { s₁ with heap := h', toks := tk' } ∧ Fr h₀ L h' m ∧ News h₀ L h' ((C, oC) :: (K, oK) :: (D, lst ys) :: (I, o1) :: nw') ∧ OffK I C K D nw' ∧ J (i + 1) (ys ++ [y]) nw') E' { s₁ with heap := h₁, toks := tk })) ((∀ D h tk ys nw, Fr h₀ L h m → News h₀ L h ((D, lst ys) :: nw) → (∀ p ∈ nw, @Ne Nat p.1 D) → J vs.length ys nw → (∀ p ∈ news, p.1 < D) → Q (.ref D) { s₁ with heap := h, toks := tk }))))
theorem comp_evalC {elt iter : Expr} {x : Str} {px : Pos} {scope : Scope} {cl : List (Str × Addr)} {pos : Pos} {Q : Value → Shared → Prop} (_F₀ : Fr h₀ L s.heap m) (hh : A.handled = none) (hclos : closureFor scope env = pure cl) (hcf : ∀ n, cellsFrom n scope.names cl = (x, n) :: cl) (hpc : ∀ h : Heap, pushCells h scope.names = h.push { cls := .type "cell", data := .cell none })
    (hkind : scope.kind = .function) (hxk : (relabel scope env).names.lookup x = some .cell) (hnames : ∀ y ∈ scope.names, y.2 = .local → scope.names.lookup y.1 = some .local)
    (h : wpAny (model prog w) A (eval iter env) (CompTC prog w A h₀ L m env elt x scope cl Q) E s)
    (hs : ∀ x, foldedSetIterable iter env x = pure x := by intro _; rfl) :
    wpAny (model prog w) A (eval (.ListComp elt [⟨.Name x px, iter, [], 0⟩] scope pos) env) Q E s := by
  rw [eval_ListComp]
  refine wpAny_comprehension_free (use := none) rfl hs hclos hkind hnames (wpAny_mono h (fun xv s₁ h₁ => ?_) fun _ _ e => e)
  refine frz fun Gz fz => ?_
  obtain ⟨l, lo, vs, news, J, rfl, F, N, hl, hm, hsz, h0, hkeep, step, fin⟩ := h₁
  refine fz ?_
  clear fz Gz
  have hax := N _ hm
  have hlt : l < s₁.heap.objs.size := Heap.lt_size hax.1
  have hne : l ≠ s₁.heap.objs.size := Nat.ne_of_lt hlt
  have hLs : L < s₁.heap.objs.size := F.ns.lt
  have hl' : s₁.heap.IsTuple l vs.toArray := hl
  refine wpAny_pyIter_tuple hl' ?_
  have W := Walks.tuple (prog := prog) (w := w) hh s₁.heap.objs.size l hne vs.toArray
  have F1 : Fr h₀ L (s₁.heap.push { cls := .type "tuple_iterator", data := .fields #[.ref l, .int 0 0] }) m := F.push _
  have N1 : News h₀ L (s₁.heap.push { cls := .type "tuple_iterator", data := .fields #[.ref l, .int 0 0] }) news := fun p hp => ⟨Heap.get?_push_of_some _ (N p hp).1, (N p hp).2⟩
  have hst : (s₁.heap.push { cls := .type "tuple_iterator", data := .fields #[.ref l, .int 0 0] }).IsTupleIter s₁.heap.objs.size l 0 ∧ (s₁.heap.push { cls := .type "tuple_iterator", data := .fields #[.ref l, .int 0 0] }).IsTuple l vs.toArray := ⟨⟨_, Heap.get?_push_size _ rfl, rfl, rfl⟩, hl'.at fun o e => Heap.get?_push_of_some _ e⟩
  have hnI : ∀ p ∈ news, p.1 < s₁.heap.objs.size := fun p hp => Heap.lt_size (N p hp).1
  have hI₀ : h₀.get? s₁.heap.objs.size = none := ktu_new F (Nat.le_refl _)
  have hszI : (s₁.heap.push { cls := .type "tuple_iterator", data := .fields #[.ref l, .int 0 0] }).objs.size = s₁.heap.objs.size + 1 := Heap.size_push ..
  generalize hH1 : s₁.heap.push { cls := .type "tuple_iterator", data := .fields #[.ref l, .int 0 0] } = H1 at *
  generalize hI : s₁.heap.objs.size = I at *
  have hD : H1.objs.size = I + 1 := hszI
  refine wpAny_newObj_type ?_
  simp only [newFunctionEnv, Option.isSome_some, if_true]
  refine wpAny_bind (wpAny_alloc ?_)
  refine wpAny_bind (wpAny_layCells _ (fun name kind cells => by cases hkc : kind == NameKind.cell <;> simp [hkc]) _ _ _ _ ?_)
  dsimp only
  rw [hcf, hpc, List.forIn_nil]
  refine wpAny_bind (wpAny_pure (wpAny_pure ?_))
  have hlist : H1.objs.size < (H1.push { cls := .type "list", data := .seq ([] : List Value).toArray }).objs.size := by rw [Heap.size_push]; exact Nat.lt_succ_self _
  generalize hH2 : H1.push { cls := .type "list", data := .seq ([] : List Value).toArray } = H2 at *
  have hC : H2.objs.size = I + 2 := by rw [← hH2, Heap.size_push, hD]
  have hNs : (H2.push { cls := .type "dict", data := .dict #[] }).Ns H2.objs.size (fun _ => none) := Heap.Ns.new H2 (.type "dict")
  have hszH3 : (H2.push { cls := .type "dict", data := .dict #[] }).objs.size = I + 3 := by rw [Heap.size_push, hC]
  have hold3 : ∀ b o, H2.get? b = some o → (H2.push { cls := .type "dict", data := .dict #[] }).get? b = some o := fun b o e => Heap.get?_push_of_some _ e
  generalize hH3 : H2.push { cls := .type "dict", data := .dict #[] } = H3 at *
  have hK : (H3.push { cls := .type "cell", data := .cell none }).get? (I + 3) = some { cls := .type "cell", data := .cell none } := by rw [← hszH3]; exact Heap.get?_push_size _ rfl
  have hold4 : ∀ b o, H3.get? b = some o → (H3.push { cls := .type "cell", data := .cell none }).get? b = some o := fun b o e => Heap.get?_push_of_some _ e
  generalize hH4 : H3.push { cls := .type "cell", data := .cell none } = H4 at *
  have old : ∀ b o, H1.get? b = some o → H4.get? b = some o := fun b o e => hold4 b o (hold3 b o (hH2 ▸ Heap.get?_push_of_some _ e))
  have hacc : H4.get? (I + 1) = some (lst []) := hold4 _ _ (hold3 _ _ (by rw [← hH2, ← hD]; exact Heap.get?_push_size _ rfl))
  rw [hC] at hNs
  have hns4 : H4.Ns (I + 2) (fun _ => none) := hNs.keeps hold4
  rw [hD, hC, hszH3]
  clear hH1 hH2 hH3 hH4 hold3 hold4 hlist hszI
  have fresh₀ : ∀ a, I ≤ a → h₀.get? a = none := fun a ha => ktu_new F (by rw [hI]; exact ha)
  have hLI : @LT.lt Nat _ L I := hLs
  have hLD : @Ne Nat (I + 1) L := fun e => by omega
  have hLC : @Ne Nat (I + 2) L := fun e => by omega
  have hLK : @Ne Nat (I + 3) L := fun e => by omega
  have hLI' : @Ne Nat I L := fun e => by omega
  have off₀ : OffK I (I + 2) (I + 3) (I + 1) news := fun p hp => by
    have := hnI p hp
    exact ⟨Nat.ne_of_lt this, Nat.ne_of_lt (Nat.lt_of_lt_of_le this (Nat.le_add_right _ _)), Nat.ne_of_lt (Nat.lt_of_lt_of_le this (Nat.le_add_right _ _)), Nat.ne_of_lt (Nat.lt_of_lt_of_le this (Nat.le_add_right _ _))⟩
  have frU : ∀ {h h' : Heap} (z : Addr), z ≠ L → h₀.get? z = none → Fr h₀ L h m → (∀ b o, b ≠ z → h.get? b = some o → h'.get? b = some o) → Fr h₀ L h' m := fun z hz hz0 F hk =>
    ⟨F.ns.at' fun o e => hk _ o (Ne.symm hz) e, fun b o e => hk b o (fun q => by rw [q, hz0] at e; cases e) (F.keep b o e), F.above⟩
  have nwU : ∀ {h h' : Heap} {l : List (Addr × Obj)} (z : Addr), News h₀ L h l → (∀ b o, b ≠ z → h.get? b = some o → h'.get? b = some o) → (∀ p ∈ l, p.1 ≠ z) → News h₀ L h' l := fun z N hk ho p hp => ⟨hk _ _ (ho p hp) (N p hp).1, (N p hp).2⟩
  have loop : codeAny (model prog w) A (.compLoop (.ListComp elt [⟨.Name x px, iter, [], 0⟩] scope pos) 0 (.ref I) (.ref (I + 1)) (compEnvC scope ((x, I + 3) :: cl) (I + 2) env)) (compPost (model prog w) A E none Q (.ref (I + 1)) (I + 2)) { s₁ with heap := H4 } := by
    refine comp_loop
      (fun k s' => Ex6 fun h' tk i ys oC mC => Ex3 fun oK ov nw => An4 (s' = { s₁ with heap := h', toks := tk }) (i ≤ vs.length) (k = vs.length + 1 - i) (An4 (ys.length = i) ((h'.IsTupleIter I l i ∧ h'.IsTuple l vs.toArray)) (Fr h₀ L h' m) (An4 (NsObj oC mC) (oK.data = .cell ov) (News h₀ L h' ((I + 2, oC) :: (I + 3, oK) :: (I + 1, lst ys) :: nw)) (OffK I (I + 2) (I + 3) (I + 1) nw ∧ J i ys nw)))) ?_ (vs.length + 1) ?_
    · intro k s' z9
      refine frz fun Gz fz => ?_
      obtain ⟨h', tk, i, ys, oC, mC, oK, ov, nw, rfl, hi, rfl, hyl, hst', F', hoC, hoK, N', off', hJ⟩ := z9
      refine fz ?_
      clear fz Gz
      have offI : ∀ p ∈ (I + 2, oC) :: (I + 3, oK) :: (I + 1, lst ys) :: nw, p.1 ≠ I := List.forall_mem_cons.mpr ⟨fun e => by have : I + 2 = I := e; omega, List.forall_mem_cons.mpr ⟨fun e => by have : I + 3 = I := e; omega, List.forall_mem_cons.mpr ⟨fun e => by have : I + 1 = I := e; omega, fun p hp => (off' p hp).1⟩⟩⟩
      have hlm := hkeep i ys nw hJ
      by_cases hilt : i < vs.length
      · refine W.item i _ _ _ (by simpa using hilt) hst' fun v h₂ tk₂ hPv hst₂ hk₂ => ?_
        have hk₂' : ∀ b o, b ≠ I → h'.get? b = some o → h₂.get? b = some o := fun b o hb e => hk₂ b o (by simpa using hb) e
        refine letGo_tupleiter hst₂.1 ?_
        have F₂ := frU I hLI' hI₀ F' hk₂'
        have N₂ := nwU I N' hk₂' offI
        have hkn : (compEnvC scope ((x, I + 3) :: cl) (I + 2) env).kindOf x = some .cell := hxk
        refine wpAny_assign_Name (wpAny_storeName_cell (by simp [compEnvC, relabel, hkind]) hkn (by simp [compEnvC]) ⟨oK, (N₂ _ (.tail _ (.head _))).1, hoK⟩ fun h₃ hv₃ hs₃ => ?_)
        obtain ⟨oK', hoK', hdK'⟩ := hv₃
        have hk₃ : ∀ b o, b ≠ I + 3 → h₂.get? b = some o → h₃.get? b = some o := fun b o hb e => hs₃.extBut b o hb e
        have F₃ := frU (I + 3) hLK (fresh₀ _ (by omega)) F₂ hk₃
        have hst₃ : h₃.IsTupleIter I l (i + 1) ∧ h₃.IsTuple l vs.toArray := ⟨hst₂.1.at fun o e => hk₃ _ o (fun q => by omega) e, hst₂.2.at fun o e => hk₃ _ o (fun q => (off' _ hlm).2.2.1 q) e⟩
        refine frz fun Gz fz => ?_
        obtain ⟨oI, hoI, hoIc, hoId⟩ := hst₃.1
        refine fz ?_
        clear fz Gz
        have N₃ : News h₀ L h₃ ((I + 2, oC) :: (I + 3, oK') :: (I + 1, lst ys) :: (I, oI) :: nw) := by
          refine List.forall_mem_cons.mpr ⟨⟨hk₃ _ _ (fun q => by have : I + 2 = I + 3 := q; omega) (N₂ _ (.head _)).1, hLC, fresh₀ _ (by omega)⟩, List.forall_mem_cons.mpr ⟨⟨hoK', hLK, fresh₀ _ (by omega)⟩, List.forall_mem_cons.mpr ⟨⟨hk₃ _ _ (fun q => by have : I + 1 = I + 3 := q; omega) (N₂ _ (.tail _ (.tail _ (.head _)))).1, hLD, fresh₀ _ (by omega)⟩, List.forall_mem_cons.mpr ⟨⟨hoI, hLI', hI₀⟩, fun p hp => ?_⟩⟩⟩⟩
          exact ⟨hk₃ _ _ (off' p hp).2.2.1 (N₂ p (.tail _ (.tail _ (.tail _ hp)))).1, (N₂ p (.tail _ (.tail _ (.tail _ hp)))).2⟩
        refine wpAny_mono (step I (I + 2) (I + 3) (I + 1) hnI (Nat.lt_succ_self _) (Nat.lt_succ_self _) (Nat.lt_succ_self _) i v ys nw h₃ _ oI oC oK' mC (by simpa using hPv) hJ hoC hdK' F₃ N₃ off' _) (fun y s₅ h₅ => ?_) fun _ _ e => e
        refine frz fun Gz fz => ?_
        obtain ⟨h₅, tk₅, nw₅, rfl, F₅, N₅, off₅, hJ₅⟩ := h₅
        refine fz ?_
        clear fz Gz
        have hst₅ : h₅.IsTupleIter I l (i + 1) ∧ h₅.IsTuple l vs.toArray := by
          refine ⟨⟨oI, (N₅ (I, oI) (.tail _ (.tail _ (.tail _ (.head _))))).1, hoIc, hoId⟩, hst₃.2.at fun o e => ?_⟩
          have e2 := (N₃ (l, lo) (.tail _ (.tail _ (.tail _ (.tail _ hlm))))).1
          have e3 := (N₅ (l, lo) (.tail _ (.tail _ (.tail _ (.tail _ (hkeep _ _ _ hJ₅)))))).1
          dsimp only at e2 e3
          rw [e3, ← e2, e]
        refine append_at (hsz := by show ys.toArray.size ≤ sizeLine; rw [List.size_toArray, hyl]; exact Nat.le_trans hi hsz) (N₅ (I + 1, lst ys) (.tail _ (.tail _ (.head _)))).1 fun h₆ hs₆ hD₆ => ?_
        have hk₆ : ∀ b o, b ≠ I + 1 → h₅.get? b = some o → h₆.get? b = some o := fun b o hb e => hs₆.extBut b o hb e
        refine ⟨vs.length + 1 - (i + 1), by omega, h₆, tk₅, i + 1, ys ++ [y], oC, mC, oK', some v, nw₅, rfl, hilt, rfl, by rw [List.length_append, List.length_singleton, hyl], ⟨hst₅.1.at fun o e => hk₆ _ o (fun q => by omega) e, hst₅.2.at fun o e => hk₆ _ o (fun q => (off₅ _ (hkeep _ _ _ hJ₅)).2.2.2 q) e⟩, frU (I + 1) hLD (fresh₀ _ (by omega)) F₅ hk₆, hoC, hdK', ?_, off₅, hJ₅⟩
        refine List.forall_mem_cons.mpr ⟨⟨hk₆ _ _ (fun q => by have : I + 2 = I + 1 := q; omega) (N₅ _ (.head _)).1, hLC, fresh₀ _ (by omega)⟩, List.forall_mem_cons.mpr ⟨⟨hk₆ _ _ (fun q => by have : I + 3 = I + 1 := q; omega) (N₅ _ (.tail _ (.head _))).1, hLK, fresh₀ _ (by omega)⟩, List.forall_mem_cons.mpr ⟨⟨hD₆.trans (congrArg some (lst_snoc ys y)), hLD, fresh₀ _ (by omega)⟩, fun p hp => ?_⟩⟩⟩
        exact ⟨hk₆ _ _ (off₅ p hp).2.2.2 (N₅ p (.tail _ (.tail _ (.tail _ (.tail _ hp))))).1, (N₅ p (.tail _ (.tail _ (.tail _ (.tail _ hp))))).2⟩
      · obtain rfl : i = vs.length := Nat.le_antisymm hi (Nat.not_lt.mp hilt)
        refine W.done _ _ _ (by simpa using hst') fun h₂ tk₂ hk₂ => ?_
        have hk₂' : ∀ b o, b ≠ I → h'.get? b = some o → h₂.get? b = some o := fun b o hb e => hk₂ b o (by simpa using hb) e
        have F₂ := frU I hLI' hI₀ F' hk₂'
        have N₂ := nwU I N' hk₂' offI
        refine ⟨mC, hoC.ns (N₂ _ (.head _)).1, fun h'' hs'' => fin (I + 1) h'' tk₂ ys nw (frU (I + 2) hLC (fresh₀ _ (by omega)) F₂ fun b o hb e => hs''.extBut b o hb e) ?_ (fun p hp => (off' p hp).2.2.2) hJ (fun p hp => Nat.lt_succ_of_lt (hnI p hp))⟩
        refine List.forall_mem_cons.mpr ⟨⟨hs''.extBut _ _ (fun q => by have : I + 1 = I + 2 := q; omega) (N₂ _ (.tail _ (.tail _ (.head _)))).1, hLD, fresh₀ _ (by omega)⟩, fun p hp => ⟨hs''.extBut _ _ (off' p hp).2.1 (N₂ p (.tail _ (.tail _ (.tail _ hp)))).1, (N₂ p (.tail _ (.tail _ (.tail _ hp)))).2⟩⟩
    · obtain ⟨oC, heC, hoC⟩ := ns_obj hns4
      refine ⟨H4, s₁.toks, 0, [], oC, _, ({ cls := .type "cell", data := .cell none } : Obj), none, news, rfl, Nat.zero_le _, rfl, rfl, ⟨hst.1.at fun o e => old _ o e, hst.2.at fun o e => old _ o e⟩, F1.keeps old, hoC, rfl, ?_, off₀, h0⟩
      exact List.forall_mem_cons.mpr ⟨⟨heC, hLC, fresh₀ _ (by omega)⟩, List.forall_mem_cons.mpr ⟨⟨hK, hLK, fresh₀ _ (by omega)⟩, List.forall_mem_cons.mpr ⟨⟨hacc, hLD, fresh₀ _ (by omega)⟩, fun p hp => ⟨old _ _ (N1 p hp).1, (N1 p hp).2⟩⟩⟩⟩
  exact codeAny_compStart_list loop (W.self 0 _ _ _ ⟨hst.1.at fun o e => old _ o e, hst.2.at fun o e => old _ o e⟩ loop)
end
end
section
open PySem PySem.W PyProof.Rows PySem.Calls
local macro_rules | `(tactic| wtm_at "zst") => `(tactic| ((wtm_at "zbL"); (fail_if_success any_goals with_reducible refine zs42 ?_)))
local macro_rules | `(tactic| ktr_unf) => `(tactic| repeat ((wtm_at "zst"); (wtm_at "zw1")))
local macro_rules | `(tactic| walk_at "execs cons") => `(tactic| wtm_at "zfz")
local macro_rules | `(tactic| kn_code) => `(tactic| repeat ((wtm_at "z34"); (wtm_at "zst"); (wtm_at "zw1")))
local macro_rules | `(tactic| walk_at "eval Name") => `(tactic| wtm_at "zy1")
local macro_rules | `(tactic| kn_hit) => `(tactic| wtm_at "zy4")
local macro_rules | `(tactic| walk_at "eval Name") => `(tactic| wtm_at "zy6")
local macro_rules | `(tactic| walk_at "callWith") => `(tactic| wtm_at "zy7")
/-- a column's code -/
def codeOf (E P : Int) (col : List Int) : Int := sumW (wts E) (dvs E) 0 0 col % P
inductive PairQ (v : Value) (l0 l1 l2 l3 : List Value) (E0 P : Int) (cs : List Int) (i : Nat) : Prop
  | intro (kk : Int) (t : Tok) (hv : v = .int kk t) (h0 : 0 ≤ kk) (h1 : kk < 2 ^ 63) (w0 w1 w2 w3 : Int) (s2 s3 s4 s5 : Tok) (e0 : l0[kk.toNat]? = some (.int w0 s2)) (e1 : l1[kk.toNat]? = some (.int w1 s3)) (e2 : l2[kk.toNat]? = some (.int w2 s4)) (e3 : l3[kk.toNat]? = some (.int w3 s5))
    (hb : ∀ z ∈ [w0, w1, w2, w3], Builtin.Int.intBits z ≤ 6000) (hf : Fit (sumW (wts E0) (dvs E0) 0 0 [w0, w1, w2, w3]) P) (he : cs.take (i + 1) = cs.take i ++ [codeOf E0 P [w0, w1, w2, w3]]) : PairQ v l0 l1 l2 l3 E0 P cs i
inductive TabInv (R nw : List (Addr × Obj)) (X : Prop) : Prop
  | intro (ps : Array Value) (c : Addr) (o : Obj) (qs : Array Value) (d : Addr) (u : Obj) (e : nw = (30, tabObj ps) :: (c, o) :: (37, tabObj qs) :: (d, u) :: R) (hT : TabsOk ps c o qs d u) (hO : OffT c d R) (x : X) : TabInv R nw X
set_option maxRecDepth 100000 in
set_option maxHeartbeats 8000000 in
theorem seg8 (w : World) (o : Obj) (dp un : Nat) (gd : Option (List Code)) (L a : Addr) (cd : Value) (outer : List Env) (A₀ : Around) (base g : Heap) (p : Program) (loose : List Str) (mean : ExcName → Option Value) (mg mb : Str → Option Value) (Q : Flow → Shared → Prop) (s : Shared) (m : Str → Option Value)
    (G : Grd w o dp un outer A₀ base g p loose mean mg mb) (o3 o4 o5 o6 o7 : Obj) (E0 P : Int) (te tp u1 u2 u3 u4 tx ty p1 q1 p2 q2 p3 q3 : Tok) (LI FI L1 L2 L3 DI : Addr) (x0 y0 x1 y1 x2 y2 x3 y3 : Int) (e2 : Nat) (R : List (Addr × Obj)) (d3 : o3.data = .cell (some (.ref LI))) (d4 : o4.data = .cell (some (.int E0 te))) (d5 : o5.data = .cell (some (.ref DI))) (d6 : o6.data = .cell (some (.int P tp))) (d7 : o7.data = .cell none)
    (hE : Builtin.Int.intBits E0 ≤ 5100) (hP : 0 < P) (hxb : ∀ z ∈ [x0, x1, x2, x3], Builtin.Int.intBits z ≤ 6000) (hyb : ∀ z ∈ [y0, y1, y2, y3], Builtin.Int.intBits z ≤ 6000) (hfx : Fit (sumW (wts E0) (dvs E0) 0 0 [x0, x1, x2, x3]) P) (hfy : Fit (sumW (wts E0) (dvs E0) 0 0 [y0, y1, y2, y3]) P)
    (F : Fr g L s.heap m) (Ld : Led g L s.heap ((L + 1 + 1 + 1 + 1 + 1 + 1 + 1, o7) :: (L + 1 + 1 + 1, o3) :: (L + 1 + 1 + 1 + 1, o4) :: (L + 1 + 1 + 1 + 1 + 1, o5) :: (L + 1 + 1 + 1 + 1 + 1 + 1, o6) :: (LI, W.listOf [Value.ref FI, Value.ref L1, Value.ref L2, Value.ref L3].toArray 3) :: (FI, W.listOf [.int x0 tx, .int y0 ty].toArray e2) :: (L1, W.listOf [.int x1 p1, .int y1 q1].toArray 0) :: (L2, W.listOf [.int x2 p2, .int y2 q2].toArray 0) :: (L3, W.listOf [.int x3 p3, .int y3 q3].toArray 0) :: (DI, W.listOf [Value.int (1 + 12 * 1 * E0) u1, Value.int (1 + 12 * 2 * E0) u2, Value.int (1 + 12 * 3 * E0) u3, Value.int (1 + 12 * 4 * E0) u4].toArray 4) :: R)) (hne : ∀ p ∈ (L + 1 + 1 + 1, o3) :: (L + 1 + 1 + 1 + 1, o4) :: (L + 1 + 1 + 1 + 1 + 1, o5) :: (L + 1 + 1 + 1 + 1 + 1 + 1, o6) :: (LI, W.listOf [Value.ref FI, Value.ref L1, Value.ref L2, Value.ref L3].toArray 3) :: (FI, W.listOf [.int x0 tx, .int y0 ty].toArray e2) :: (L1, W.listOf [.int x1 p1, .int y1 q1].toArray 0) :: (L2, W.listOf [.int x2 p2, .int y2 q2].toArray 0) :: (L3, W.listOf [.int x3 p3, .int y3 q3].toArray 0) :: (DI, W.listOf [Value.int (1 + 12 * 1 * E0) u1, Value.int (1 + 12 * 2 * E0) u2, Value.int (1 + 12 * 3 * E0) u3, Value.int (1 + 12 * 4 * E0) u4].toArray 4) :: R, @Ne Nat p.1 (L + 1 + 1 + 1 + 1 + 1 + 1 + 1))
    (hcont : ∀ h' tk' o7' CO tc0 tc1, Fr g L h' m → o7'.data = .cell (some (.ref CO)) → Led g L h' ((L + 1 + 1 + 1 + 1 + 1 + 1 + 1, o7') :: (CO, W.listOf [Value.int (codeOf E0 P [x0, x1, x2, x3]) tc0, Value.int (codeOf E0 P [y0, y1, y2, y3]) tc1].toArray 2) :: (L + 1 + 1 + 1, o3) :: (L + 1 + 1 + 1 + 1, o4) :: (L + 1 + 1 + 1 + 1 + 1, o5) :: (L + 1 + 1 + 1 + 1 + 1 + 1, o6) :: (LI, W.listOf [Value.ref FI, Value.ref L1, Value.ref L2, Value.ref L3].toArray 3) :: (FI, W.listOf [.int x0 tx, .int y0 ty].toArray e2) :: (L1, W.listOf [.int x1 p1, .int y1 q1].toArray 0) :: (L2, W.listOf [.int x2 p2, .int y2 q2].toArray 0) :: (L3, W.listOf [.int x3 p3, .int y3 q3].toArray 0) :: (DI, W.listOf [Value.int (1 + 12 * 1 * E0) u1, Value.int (1 + 12 * 2 * E0) u2, Value.int (1 + 12 * 3 * E0) u3, Value.int (1 + 12 * 4 * E0) u4].toArray 4) :: R) → (∀ p ∈ (L + 1 + 1 + 1 + 1 + 1 + 1 + 1, o7) :: (L + 1 + 1 + 1, o3) :: (L + 1 + 1 + 1 + 1, o4) :: (L + 1 + 1 + 1 + 1 + 1, o5) :: (L + 1 + 1 + 1 + 1 + 1 + 1, o6) :: (LI, W.listOf [Value.ref FI, Value.ref L1, Value.ref L2, Value.ref L3].toArray 3) :: (FI, W.listOf [.int x0 tx, .int y0 ty].toArray e2) :: (L1, W.listOf [.int x1 p1, .int y1 q1].toArray 0) :: (L2, W.listOf [.int x2 p2, .int y2 q2].toArray 0) :: (L3, W.listOf [.int x3 p3, .int y3 q3].toArray 0) :: (DI, W.listOf [Value.int (1 + 12 * 1 * E0) u1, Value.int (1 + 12 * 2 * E0) u2, Value.int (1 + 12 * 3 * E0) u3, Value.int (1 + 12 * 4 * E0) u4].toArray 4) :: R, p.1 < CO) →
      LawAt w o dp un gd L a cd outer 11 Q { s with heap := h', toks := tk' }) : LawAt w o dp un gd L a cd outer 10 Q s := by
  refine frz fun Gz fz => ?_
  obtain ⟨ho, B, X, T, hC1, hC2, hd', hu⟩ := G
  refine fz ?_
  clear fz Gz
  unfold LawAt
  revert ho
  k_fill
  intro ho
  refine' litO ho ?h ?_
  case h => k_is
  intro e
  subst e
  clear ho
  dsimp only [lawBody, lawScope, lawEnv, lawTop, List.drop]
  have N := Ld.rest
  refine frz fun Gz fz => ?_
  obtain ⟨ps, c, o, qs, d, u, N9, hT, hO⟩ := Ld
  refine fz ?_
  clear fz Gz
  clear N
  kn_code
  k_dflt (refine wpAny_Assign_Name ?_)
  k_dflt (refine' comp_evalC F ?zhh ?cl ?zcf ?zpc ?kind ?zxk ?names ?_ ?hs; (case zhh => rfl); (case cl => with_unfolding_all rfl); (case zcf => intro n; rfl); (case zpc => intro h; rfl); (case kind => rfl); (case zxk => rfl); (case names => decide); (case hs => intro _; rfl))
  ktr_unf
  rename Fr _ _ _ _ => F9
  rename News _ _ _ _ => N9
  rename_i TU h8 lTU
  obtain ⟨ta, tb, N8⟩ : ∃ ta tb, News g L _ ((TU, ({ cls := .type "tuple", data := .seq [Value.int 0 ta, Value.int 1 tb].toArray } : Obj)) :: (30, tabObj ps) :: (c, o) :: (37, tabObj qs) :: (d, u) :: (L + 1 + 1 + 1 + 1 + 1 + 1 + 1, o7) :: (L + 1 + 1 + 1, o3) :: (L + 1 + 1 + 1 + 1, o4) :: (L + 1 + 1 + 1 + 1 + 1, o5) :: (L + 1 + 1 + 1 + 1 + 1 + 1, o6) :: (LI, PySem.W.listOf [Value.ref FI, Value.ref L1, Value.ref L2, Value.ref L3].toArray 3) :: (FI, PySem.W.listOf [.int x0 tx, .int y0 ty].toArray e2) :: (L1, PySem.W.listOf [.int x1 p1, .int y1 q1].toArray 0) :: (L2, PySem.W.listOf [.int x2 p2, .int y2 q2].toArray 0) :: (L3, PySem.W.listOf [.int x3 p3, .int y3 q3].toArray 0) :: (DI, PySem.W.listOf [Value.int (1 + 12 * 1 * E0) u1, Value.int (1 + 12 * 2 * E0) u2, Value.int (1 + 12 * 3 * E0) u3, Value.int (1 + 12 * 4 * E0) u4].toArray 4) :: R) := ⟨_, _, N9⟩
  clear N9
  generalize hR0 : (TU, ({ cls := .type "tuple", data := .seq [Value.int 0 ta, Value.int 1 tb].toArray } : Obj)) :: (L + 1 + 1 + 1 + 1 + 1 + 1 + 1, o7) :: (L + 1 + 1 + 1, o3) :: (L + 1 + 1 + 1 + 1, o4) :: (L + 1 + 1 + 1 + 1 + 1, o5) :: (L + 1 + 1 + 1 + 1 + 1 + 1, o6) :: (LI, PySem.W.listOf [Value.ref FI, Value.ref L1, Value.ref L2, Value.ref L3].toArray 3) :: (FI, PySem.W.listOf [.int x0 tx, .int y0 ty].toArray e2) :: (L1, PySem.W.listOf [.int x1 p1, .int y1 q1].toArray 0) :: (L2, PySem.W.listOf [.int x2 p2, .int y2 q2].toArray 0) :: (L3, PySem.W.listOf [.int x3 p3, .int y3 q3].toArray 0) :: (DI, PySem.W.listOf [Value.int (1 + 12 * 1 * E0) u1, Value.int (1 + 12 * 2 * E0) u2, Value.int (1 + 12 * 3 * E0) u3, Value.int (1 + 12 * 4 * E0) u4].toArray 4) :: R = R0
  have mT0 : (TU, ({ cls := .type "tuple", data := .seq [Value.int 0 ta, Value.int 1 tb].toArray } : Obj)) ∈ R0 := by rw [← hR0]; exact .head _
  have hsub : ∀ p ∈ (30, tabObj ps) :: (c, o) :: (37, tabObj qs) :: (d, u) :: R0, p ∈ (TU, ({ cls := .type "tuple", data := .seq [Value.int 0 ta, Value.int 1 tb].toArray } : Obj)) :: (30, tabObj ps) :: (c, o) :: (37, tabObj qs) :: (d, u) :: (L + 1 + 1 + 1 + 1 + 1 + 1 + 1, o7) :: (L + 1 + 1 + 1, o3) :: (L + 1 + 1 + 1 + 1, o4) :: (L + 1 + 1 + 1 + 1 + 1, o5) :: (L + 1 + 1 + 1 + 1 + 1 + 1, o6) :: (LI, PySem.W.listOf [Value.ref FI, Value.ref L1, Value.ref L2, Value.ref L3].toArray 3) :: (FI, PySem.W.listOf [.int x0 tx, .int y0 ty].toArray e2) :: (L1, PySem.W.listOf [.int x1 p1, .int y1 q1].toArray 0) :: (L2, PySem.W.listOf [.int x2 p2, .int y2 q2].toArray 0) :: (L3, PySem.W.listOf [.int x3 p3, .int y3 q3].toArray 0) :: (DI, PySem.W.listOf [Value.int (1 + 12 * 1 * E0) u1, Value.int (1 + 12 * 2 * E0) u2, Value.int (1 + 12 * 3 * E0) u3, Value.int (1 + 12 * 4 * E0) u4].toArray 4) :: R := fun p hp => by
    rw [← hR0] at hp
    refine ZSub.go ?_ p hp; wtm_at "zsub"
  have N7 := news_of N8 hsub
  have hOT : OffT c d R0 := by
    rw [← hR0]
    exact OffT.lt lTU.1 lTU.2.2.1 lTU.2.1 lTU.2.2.2.1 hO
  clear N8 hsub
  have mT : (TU, ({ cls := .type "tuple", data := .seq [Value.int 0 ta, Value.int 1 tb].toArray } : Obj)) ∈ (30, tabObj ps) :: (c, o) :: (37, tabObj qs) :: (d, u) :: R0 := .tail _ (.tail _ (.tail _ (.tail _ mT0)))
  have hmem : ∀ p ∈ (L + 1 + 1 + 1, o3) :: (L + 1 + 1 + 1 + 1, o4) :: (L + 1 + 1 + 1 + 1 + 1, o5) :: (L + 1 + 1 + 1 + 1 + 1 + 1, o6) :: (LI, PySem.W.listOf [Value.ref FI, Value.ref L1, Value.ref L2, Value.ref L3].toArray 3) :: (FI, PySem.W.listOf [.int x0 tx, .int y0 ty].toArray e2) :: (L1, PySem.W.listOf [.int x1 p1, .int y1 q1].toArray 0) :: (L2, PySem.W.listOf [.int x2 p2, .int y2 q2].toArray 0) :: (L3, PySem.W.listOf [.int x3 p3, .int y3 q3].toArray 0) :: (DI, PySem.W.listOf [Value.int (1 + 12 * 1 * E0) u1, Value.int (1 + 12 * 2 * E0) u2, Value.int (1 + 12 * 3 * E0) u3, Value.int (1 + 12 * 4 * E0) u4].toArray 4) :: R0, p ∈ R0 := fun p hp => by
    simp only [List.mem_cons] at hp
    rcases hp with h | h | h | h | h | h | h | h | h | h | h
    all_goals first | exact h | (rw [h, ← hR0]; repeat (first | with_reducible assumption | with_reducible exact List.mem_cons_self | with_reducible refine List.mem_cons_of_mem _ ?_))
  refine ⟨TU, _, [Value.int 0 ta, Value.int 1 tb], _, fun i ys nw => TabInv R0 nw (IntsAre ys ([codeOf E0 P [x0, x1, x2, x3], codeOf E0 P [y0, y1, y2, y3]].take i)), rfl, F9, N7, News.isTup N7 mT, mT, Nat.le_of_ble_eq_true rfl, ⟨ps, c, o, qs, d, u, rfl, hT, hOT, .nil⟩, ?zkp, ?zst, ?zfi⟩
  case zkp => rintro i ys nw ⟨ps, c, o, qs, d, u, rfl, -⟩; exact .tail _ (.tail _ (.tail _ (.tail _ mT0)))
  case zst =>
    intro I C K D lI lD lC lK i v ys nw h1 tk1 s1 oC oK m2 hv z9
    refine frz fun Gz fz => ?_
    obtain ⟨ps, c, o, qs, d, u, rfl, hT, hOT, hys⟩ := z9
    refine fz ?_
    clear fz Gz
    intro hoC dK F1 N1 off E'
    clear F9 N7
    have lR : ∀ p ∈ R0, p.1 < I := fun p hp => lI p (.tail _ (.tail _ (.tail _ (.tail _ hp))))
    refine frz fun Gz fz => ?_
    obtain ⟨kk, tk, rfl, hk0, hk1, w0, w1, w2, w3, s2, s3, s4, s5, g0, g1, g2, g3, hwb, hfw, he⟩ : PairQ v [Value.int x0 tx, Value.int y0 ty] [Value.int x1 p1, Value.int y1 q1] [Value.int x2 p2, Value.int y2 q2] [Value.int x3 p3, Value.int y3 q3] E0 P [codeOf E0 P [x0, x1, x2, x3], codeOf E0 P [y0, y1, y2, y3]] i := by
      match i, hv with
      | 0, hv => cases hv; exact ⟨0, ta, rfl, by decide, by decide, x0, x1, x2, x3, tx, p1, p2, p3, rfl, rfl, rfl, rfl, hxb, hfx, rfl⟩
      | 1, hv => cases hv; exact ⟨1, tb, rfl, by decide, by decide, y0, y1, y2, y3, ty, q1, q2, q3, rfl, rfl, rfl, rfl, hyb, hfy, rfl⟩
    refine fz ?_
    clear fz Gz
    clear hv
    have N0 := N1
    have N1' := news_of (l' := (C, oC) :: (K, oK) :: (D, LCg.lst ys) :: (I, s1) :: (30, tabObj ps) :: (c, o) :: (37, tabObj qs) :: (d, u) :: (L + 1 + 1 + 1, o3) :: (L + 1 + 1 + 1 + 1, o4) :: (L + 1 + 1 + 1 + 1 + 1, o5) :: (L + 1 + 1 + 1 + 1 + 1 + 1, o6) :: (LI, PySem.W.listOf [Value.ref FI, Value.ref L1, Value.ref L2, Value.ref L3].toArray 3) :: (FI, PySem.W.listOf [.int x0 tx, .int y0 ty].toArray e2) :: (L1, PySem.W.listOf [.int x1 p1, .int y1 q1].toArray 0) :: (L2, PySem.W.listOf [.int x2 p2, .int y2 q2].toArray 0) :: (L3, PySem.W.listOf [.int x3 p3, .int y3 q3].toArray 0) :: (DI, PySem.W.listOf [Value.int (1 + 12 * 1 * E0) u1, Value.int (1 + 12 * 2 * E0) u2, Value.int (1 + 12 * 3 * E0) u3, Value.int (1 + 12 * 4 * E0) u4].toArray 4) :: R0) N1 (fun p hp => by
      simp only [List.mem_cons] at hp ⊢
      rcases hp with h | h | h | h | h | h | h | h | h
      · exact .inl h
      · exact .inr (.inl h)
      · exact .inr (.inr (.inl h))
      · exact .inr (.inr (.inr (.inl h)))
      · exact .inr (.inr (.inr (.inr (.inl h))))
      · exact .inr (.inr (.inr (.inr (.inr (.inl h)))))
      · exact .inr (.inr (.inr (.inr (.inr (.inr (.inl h))))))
      · exact .inr (.inr (.inr (.inr (.inr (.inr (.inr (.inl h)))))))
      · exact .inr (.inr (.inr (.inr (.inr (.inr (.inr (.inr (hmem p (by simpa only [List.mem_cons] using h))))))))))
    clear N1
    ktr_unf
    rename Fr _ _ _ _ => F9
    k_dflt (refine' comp_eval F9 ?cl ?cell ?kind ?names ?_ ?hs; (case cl => with_unfolding_all rfl); (case cell => decide); (case kind => rfl); (case names => decide); (case hs => intro _; rfl))
    ktr_unf
    rename Fr _ _ _ _ => F9
    rename News _ _ _ _ => N9
    generalize hN2 : (C, oC) :: (K, oK) :: (D, LCg.lst ys) :: (I, s1) :: (30, tabObj ps) :: (c, o) :: (37, tabObj qs) :: (d, u) :: (L + 1 + 1 + 1, o3) :: (L + 1 + 1 + 1 + 1, o4) :: (L + 1 + 1 + 1 + 1 + 1, o5) :: (L + 1 + 1 + 1 + 1 + 1 + 1, o6) :: (LI, PySem.W.listOf [Value.ref FI, Value.ref L1, Value.ref L2, Value.ref L3].toArray 3) :: (FI, PySem.W.listOf [.int x0 tx, .int y0 ty].toArray e2) :: (L1, PySem.W.listOf [.int x1 p1, .int y1 q1].toArray 0) :: (L2, PySem.W.listOf [.int x2 p2, .int y2 q2].toArray 0) :: (L3, PySem.W.listOf [.int x3 p3, .int y3 q3].toArray 0) :: (DI, PySem.W.listOf [Value.int (1 + 12 * 1 * E0) u1, Value.int (1 + 12 * 2 * E0) u2, Value.int (1 + 12 * 3 * E0) u3, Value.int (1 + 12 * 4 * E0) u4].toArray 4) :: R0 = N2 at N9
    have mLI : (LI, PySem.W.listOf [Value.ref FI, Value.ref L1, Value.ref L2, Value.ref L3].toArray 3) ∈ N2 := by rw [← hN2]; repeat (first | with_reducible assumption | with_reducible exact List.mem_cons_self | with_reducible refine List.mem_cons_of_mem _ ?_)
    have m0 : (FI, PySem.W.listOf [.int x0 tx, .int y0 ty].toArray e2) ∈ N2 := by rw [← hN2]; repeat (first | with_reducible assumption | with_reducible exact List.mem_cons_self | with_reducible refine List.mem_cons_of_mem _ ?_)
    have m1 : (L1, PySem.W.listOf [.int x1 p1, .int y1 q1].toArray 0) ∈ N2 := by rw [← hN2]; repeat (first | with_reducible assumption | with_reducible exact List.mem_cons_self | with_reducible refine List.mem_cons_of_mem _ ?_)
    have m2' : (L2, PySem.W.listOf [.int x2 p2, .int y2 q2].toArray 0) ∈ N2 := by rw [← hN2]; repeat (first | with_reducible assumption | with_reducible exact List.mem_cons_self | with_reducible refine List.mem_cons_of_mem _ ?_)
    have m3 : (L3, PySem.W.listOf [.int x3 p3, .int y3 q3].toArray 0) ∈ N2 := by rw [← hN2]; repeat (first | with_reducible assumption | with_reducible exact List.mem_cons_self | with_reducible refine List.mem_cons_of_mem _ ?_)
    k_dflt (refine' comp_list (J := fun i ys nw => nw = N2 ∧ IntsAre ys ([w0, w1, w2, w3].take i)) (vs := [Value.ref FI, Value.ref L1, Value.ref L2, Value.ref L3]) ?ykind ?yx ?yhh F9 N9 (News.isList N9 mLI) _ mLI ?ysz ?yh0 ?ykp ?yst ?yfi; (case ykind => rfl); (case yx => rfl); (case yhh => rfl); (case ysz => exact Nat.le_of_ble_eq_true rfl); (case yh0 => exact ⟨rfl, .nil⟩); (case ykp => rintro i ys nw ⟨rfl, -⟩; exact mLI))
    case yst =>
      rintro I2 lI2 i2 v2 ys2 nw2 h2 tk2 r1 C2 oC2 D2 m4 hv2 ⟨rfl, hys2⟩ hoC2 e3 F2 N2' off2 lD2 lC2
      clear F9 N9
      obtain ⟨Li, lst, wi, si, ei, rfl, hLi, hgi, hti⟩ : Ex3 fun Li lst wi => ∃ si ei, An4 (v2 = .ref Li) ((Li, PySem.W.listOf (List.toArray lst) ei) ∈ nw2) (lst[kk.toNat]? = some (Value.int wi si)) ([w0, w1, w2, w3].take (i2 + 1) = [w0, w1, w2, w3].take i2 ++ [wi]) := by
        match i2, hv2 with
        | 0, hv => cases hv; exact ⟨FI, _, w0, s2, e2, rfl, m0, g0, rfl⟩
        | 1, hv => cases hv; exact ⟨L1, _, w1, s3, 0, rfl, m1, g1, rfl⟩
        | 2, hv => cases hv; exact ⟨L2, _, w2, s4, 0, rfl, m2', g2, rfl⟩
        | 3, hv => cases hv; exact ⟨L3, _, w3, s5, 0, rfl, m3, g3, rfl⟩
      clear hv2
      intro E'
      have mKK : (K, oK) ∈ nw2 := by rw [← hN2]; repeat (first | with_reducible assumption | with_reducible exact List.mem_cons_self | with_reducible refine List.mem_cons_of_mem _ ?_)
      have N3 := news_of (l' := (K, oK) :: (C2, oC2) :: (D2, LCg.lst ys2) :: (I2, r1) :: nw2) N2' (List.forall_mem_cons.mpr ⟨.tail _ (.tail _ (.tail _ mKK)), fun p hp => hp⟩)
      clear N2'
      ktr_unf
      rename Fr _ _ _ _ => F9
      rename News _ _ _ _ => N9
      k_dflt (refine' op_li N9 ?zm hk0 hk1 hgi ?_ ?zs; (case zm => exact .tail _ (.tail _ (.tail _ (.tail _ hLi)))); (case zs => with_unfolding_all rfl))
      exact ⟨_, _, _, rfl, F9, news_of N9 (fun p hp => .tail _ hp), off2, rfl, hti ▸ ints_snoc hys2⟩
    case yfi =>
      rintro D5 h5 tk5 ys5 nw5 F5 N5 off5 ⟨hnw, hys5⟩ lt5
      subst hnw
      subst hN2
      clear F9 N9
      ktr_unf
      rename Fr _ _ _ _ => F9
      rename News _ _ _ _ => N9
      have hO5 : OffT c d ((D5, LCg.lst ys5) :: (C, oC) :: (K, oK) :: (D, LCg.lst ys) :: (I, s1) :: R0) := by
        have g30 := off _ (.head _)
        have gc := off _ (.tail _ (.head _))
        have g37 := off _ (.tail _ (.tail _ (.head _)))
        have gd := off _ (.tail _ (.tail _ (.tail _ (.head _))))
        refine OffT.lt (lt5 _ (.tail _ (.tail _ (.tail _ (.tail _ (.head _)))))) (lt5 _ (.tail _ (.tail _ (.tail _ (.tail _ (.tail _ (.tail _ (.head _)))))))) (lt5 _ (.tail _ (.tail _ (.tail _ (.tail _ (.tail _ (.head _))))))) (lt5 _ (.tail _ (.tail _ (.tail _ (.tail _ (.tail _ (.tail _ (.tail _ (.head _))))))))) ?_
        exact OffT.cons ⟨Ne.symm g30.2.1, Ne.symm g37.2.1, Ne.symm gc.2.1, Ne.symm gd.2.1⟩ (OffT.cons ⟨Ne.symm g30.2.2.1, Ne.symm g37.2.2.1, Ne.symm gc.2.2.1, Ne.symm gd.2.2.1⟩ (OffT.cons ⟨Ne.symm g30.2.2.2, Ne.symm g37.2.2.2, Ne.symm gc.2.2.2, Ne.symm gd.2.2.2⟩ (OffT.cons ⟨Ne.symm g30.1, Ne.symm g37.1, Ne.symm gc.1, Ne.symm gd.1⟩ hOT)))
      have hys5' : IntsAre ys5 [w0, w1, w2, w3] := hys5
      have mDI : (DI, PySem.W.listOf [Value.int (1 + 12 * 1 * E0) u1, Value.int (1 + 12 * 2 * E0) u2, Value.int (1 + 12 * 3 * E0) u3, Value.int (1 + 12 * 4 * E0) u4].toArray 4) ∈ R0 := by rw [← hR0]; repeat (first | with_reducible assumption | with_reducible exact List.mem_cons_self | with_reducible refine List.mem_cons_of_mem _ ?_)
      have hdb : ∀ n ∈ dvs E0, Builtin.Int.intBits n ≤ 6000 := List.forall_mem_cons.mpr ⟨Nat.le_trans (dv_bits (by decide) hE) (by decide), List.forall_mem_cons.mpr ⟨Nat.le_trans (dv_bits (by decide) hE) (by decide), List.forall_mem_cons.mpr ⟨Nat.le_trans (dv_bits (by decide) hE) (by decide), List.forall_mem_cons.mpr ⟨Nat.le_trans (dv_bits (by decide) hE) (by decide), fun _ h => (nomatch h)⟩⟩⟩⟩
      with_reducible refine' CallsL.use (ct_code w D5 DI ys5 [Value.int (1 + 12 * 1 * E0) u1, Value.int (1 + 12 * 2 * E0) u2, Value.int (1 + 12 * 3 * E0) u3, Value.int (1 + 12 * 4 * E0) u4] [w0, w1, w2, w3] (dvs E0) E0 P te tp ys5.length 4 hys5' (.cons _ _ (.cons _ _ (.cons _ _ (.cons _ _ .nil)))) rfl rfl hwb hdb (Nat.le_trans hE (by decide)) hP hfw) ?hA B F9 X (Led.pack (new := (D5, LCg.lst ys5) :: (C, oC) :: (K, oK) :: (D, LCg.lst ys) :: (I, s1) :: R0) N9 ?hs hT hO5) T ?hk hC1 hC2 ?hn ?h1 ?h2 ?_
      case hA => exact rfl
      case hk => exact rfl
      case hn => exact ⟨.head _, .tail _ (.tail _ (.tail _ (.tail _ (.tail _ mDI))))⟩
      case h1 => (show dp + _ < recursionLimit; omega)
      case h2 => (show un + 8 * _ < cLine; omega)
      case hs =>
        intro p hp
        refine ZSub.go ?_ p hp; wtm_at "zsub"
      clear F9 N9 hT hOT
      rintro v9 new h' tk' F9 Ld9 ⟨rfl, t9, rfl⟩ lt9
      refine frz fun Gz fz => ?_
      obtain ⟨ps, c, o, qs, d, u, N9, hT, hO9⟩ := Ld9
      refine fz ?_
      clear fz Gz
      simp only [List.nil_append] at N9 hO9
      k_unfold
      try dsimp only
      have gC := hO9 _ (.tail _ (.head _))
      have gK := hO9 _ (.tail _ (.tail _ (.head _)))
      have gD := hO9 _ (.tail _ (.tail _ (.tail _ (.head _))))
      have gI := hO9 _ (.tail _ (.tail _ (.tail _ (.tail _ (.head _)))))
      refine ⟨_, _, (30, tabObj ps) :: (c, o) :: (37, tabObj qs) :: (d, u) :: R0, rfl, F9, news_of N9 (fun p hp => ?_), ?_, ps, c, o, qs, d, u, rfl, hT, hO9.sub (fun p hp => .tail _ (.tail _ (.tail _ (.tail _ (.tail _ hp))))), he ▸ ints_snoc hys⟩
      · refine ZSub.go ?_ p hp; wtm_at "zsub"
      · refine List.forall_mem_cons.mpr ⟨⟨Ne.symm gI.1, Ne.symm gC.1, Ne.symm gK.1, Ne.symm gD.1⟩, List.forall_mem_cons.mpr ⟨⟨Ne.symm gI.2.2.1, Ne.symm gC.2.2.1, Ne.symm gK.2.2.1, Ne.symm gD.2.2.1⟩, List.forall_mem_cons.mpr ⟨⟨Ne.symm gI.2.1, Ne.symm gC.2.1, Ne.symm gK.2.1, Ne.symm gD.2.1⟩, List.forall_mem_cons.mpr ⟨⟨Ne.symm gI.2.2.2, Ne.symm gC.2.2.2, Ne.symm gK.2.2.2, Ne.symm gD.2.2.2⟩, fun p hp => off p (.tail _ (.tail _ (.tail _ (.tail _ hp))))⟩⟩⟩⟩
  case zfi =>
    intro D3 h3 tk3 ys3 nw3 F3 N3 off3 z9
    refine frz fun Gz fz => ?_
    obtain ⟨ps, c, o, qs, d, u, rfl, hT, hOT, hys3⟩ := z9
    refine fz ?_
    clear fz Gz
    intro lt3
    clear F9 N7
    obtain ⟨tc0, tc1, rfl⟩ : ∃ tc0 tc1, ys3 = [Value.int (codeOf E0 P [x0, x1, x2, x3]) tc0, Value.int (codeOf E0 P [y0, y1, y2, y3]) tc1] := by
      have h : IntsAre ys3 [codeOf E0 P [x0, x1, x2, x3], codeOf E0 P [y0, y1, y2, y3]] := hys3
      exact ints_inv h fun t0 _ h => ints_inv h fun t1 _ h => ints_nil h ⟨_, _, rfl⟩
    kn_code
    subst hR0
    have g7 := hOT _ (.tail _ (.head _))
    have N8 : News g L _ ((L + 1 + 1 + 1 + 1 + 1 + 1 + 1, o7) :: (D3, PySem.W.listOf [Value.int (codeOf E0 P [x0, x1, x2, x3]) tc0, Value.int (codeOf E0 P [y0, y1, y2, y3]) tc1].toArray 2) :: (30, tabObj ps) :: (c, o) :: (37, tabObj qs) :: (d, u) :: (L + 1 + 1 + 1, o3) :: (L + 1 + 1 + 1 + 1, o4) :: (L + 1 + 1 + 1 + 1 + 1, o5) :: (L + 1 + 1 + 1 + 1 + 1 + 1, o6) :: (LI, PySem.W.listOf [Value.ref FI, Value.ref L1, Value.ref L2, Value.ref L3].toArray 3) :: (FI, PySem.W.listOf [.int x0 tx, .int y0 ty].toArray e2) :: (L1, PySem.W.listOf [.int x1 p1, .int y1 q1].toArray 0) :: (L2, PySem.W.listOf [.int x2 p2, .int y2 q2].toArray 0) :: (L3, PySem.W.listOf [.int x3 p3, .int y3 q3].toArray 0) :: (DI, PySem.W.listOf [Value.int (1 + 12 * 1 * E0) u1, Value.int (1 + 12 * 2 * E0) u2, Value.int (1 + 12 * 3 * E0) u3, Value.int (1 + 12 * 4 * E0) u4].toArray 4) :: R) := news_of N3 (fun p hp => by
      refine ZSub.go ?_ p hp; wtm_at "zsub")
    have hall7 : ∀ p ∈ (D3, PySem.W.listOf [Value.int (codeOf E0 P [x0, x1, x2, x3]) tc0, Value.int (codeOf E0 P [y0, y1, y2, y3]) tc1].toArray 2) :: (30, tabObj ps) :: (c, o) :: (37, tabObj qs) :: (d, u) :: (L + 1 + 1 + 1, o3) :: (L + 1 + 1 + 1 + 1, o4) :: (L + 1 + 1 + 1 + 1 + 1, o5) :: (L + 1 + 1 + 1 + 1 + 1 + 1, o6) :: (LI, PySem.W.listOf [Value.ref FI, Value.ref L1, Value.ref L2, Value.ref L3].toArray 3) :: (FI, PySem.W.listOf [.int x0 tx, .int y0 ty].toArray e2) :: (L1, PySem.W.listOf [.int x1 p1, .int y1 q1].toArray 0) :: (L2, PySem.W.listOf [.int x2 p2, .int y2 q2].toArray 0) :: (L3, PySem.W.listOf [.int x3 p3, .int y3 q3].toArray 0) :: (DI, PySem.W.listOf [Value.int (1 + 12 * 1 * E0) u1, Value.int (1 + 12 * 2 * E0) u2, Value.int (1 + 12 * 3 * E0) u3, Value.int (1 + 12 * 4 * E0) u4].toArray 4) :: R, p.1 ≠ L + 1 + 1 + 1 + 1 + 1 + 1 + 1 :=
      List.forall_mem_cons.mpr ⟨Nat.ne_of_gt (lt3 _ (.tail _ (.tail _ (.tail _ (.tail _ (.tail _ (.head _))))))), List.forall_mem_cons.mpr ⟨Ne.symm g7.1, List.forall_mem_cons.mpr ⟨Ne.symm g7.2.2.1, List.forall_mem_cons.mpr ⟨Ne.symm g7.2.1, List.forall_mem_cons.mpr ⟨Ne.symm g7.2.2.2, hne⟩⟩⟩⟩⟩
    clear N3
    k_dflt (refine' storeX_C F3 N8 ?zc (UpdF.head ?zU) d7 ?_ ?za ?zb; (case za => rfl); (case zb => rfl); (case zc => exact rfl); (case zU => exact hall7))
    clear F3 N8
    intro h9 o7' F9 N9 d7'
    dsimp only at N9 ⊢
    try (wtm_at "zthaw"; try dsimp only)
    refine hcont h9 _ o7' D3 tc0 tc1 F9 d7' (Led.pack N9 (fun p hp => ?_) hT (fun p hp => ?_)) (fun p hp => lt3 p (.tail _ (.tail _ (.tail _ (.tail _ (.tail _ hp))))))
    · refine ZSub.go ?_ p hp; wtm_at "zsub"
    · rcases List.mem_cons.mp hp with rfl | hp
      · exact g7
      · rcases List.mem_cons.mp hp with rfl | hp
        · exact ⟨Ne.symm (off3 _ (.head _)), Ne.symm (off3 _ (.tail _ (.tail _ (.head _)))), Ne.symm (off3 _ (.tail _ (.head _))), Ne.symm (off3 _ (.tail _ (.tail _ (.tail _ (.head _)))))⟩
        · exact hOT p (.tail _ (.tail _ hp))
end
section
open PySem PySem.W PyProof.Rows PySem.Calls PyProof.V PySem.Spec PySem.SeqAt
/-- a list of ints as data -/
def dat (l : List Int) : PyData := .list (l.map .int)
theorem rows_read {h : Heap} : ∀ {dn : List (Addr × Obj)} {rows : List (List Int)}, RowsAre dn rows → (∀ p ∈ dn, h.get? p.1 = some p.2) → ∃ as, ReadsAll h (refs dn) (rows.map dat) as
  | _, _, .nil, _ => ⟨[], .nil⟩
  | _, _, .cons (a := a) hi r, hp => by
    obtain ⟨as, ha⟩ := rows_read r (fun p hq => hp p (.tail _ hq))
    exact ⟨_, .cons (reads_of_ints ⟨_, hp _ (.head _), rfl, _, rfl⟩ hi) ha⟩
theorem dat_lay : ∀ rows : List (List Int), PyData.canLayAll0 (rows.map dat) = true
  | [] => by simp [PyData.canLayAll0]
  | l :: r => by simp [PyData.canLayAll0, PyData.canLay0, dat, canLayAll0_ints l, dat_lay r]
theorem dat_depth : ∀ rows : List (List Int), PyData.depthAll (rows.map dat) ≤ 2
  | [] => by simp [PyData.depthAll]
  | l :: r => by
    have h1 := dat_depth r
    have h2 := PySem.W.depthAll_ints l
    simp only [List.map_cons, PyData.depthAll, dat, PyData.depth]
    try simp only [dat] at h1
    omega
theorem dat_shaped (rows : List (List Int)) : shaped (.list (rows.map dat)) = true := by
  have h1 := dat_depth rows
  have h2 : PyData.depth (.list (rows.map dat)) ≤ 64 := by simp only [PyData.depth]; omega
  show (PyData.canLay0 (.list (rows.map dat)) && decide (PyData.depth (.list (rows.map dat)) ≤ 64)) = true
  rw [Bool.and_eq_true]
  exact ⟨by simp only [PyData.canLay0]; exact dat_lay rows, decide_eq_true h2⟩
theorem dat_mix : ∀ a b : List (List Int), noMixAll (a.map dat) (b.map dat) = true
  | [], [] => by simp [noMixAll]
  | [], _ :: _ => by simp [noMixAll]
  | _ :: _, [] => by simp [noMixAll]
  | x :: r, y :: q => by simp [noMixAll, noMix, dat, noMix_ints x y]; exact dat_mix r q
theorem dat_same : ∀ a b : List (List Int), PySem.Spec.sameAll (a.map dat) (b.map dat) = decide (a = b)
  | [], [] => by simp [PySem.Spec.sameAll]
  | [], _ :: _ => by simp [PySem.Spec.sameAll]
  | _ :: _, [] => by simp [PySem.Spec.sameAll]
  | x :: r, y :: q => by
    have h := dat_same r q
    simp only [List.map_cons, PySem.Spec.sameAll]
    rw [h, show PySem.Spec.same (dat x) (dat y) = decide (x = y) from by simp only [dat, PySem.Spec.same]; exact same_ints x y]
    by_cases h1 : x = y <;> by_cases h2 : r = q <;> simp [h1, h2]
section
variable {prog : Program} {w : World} {A : Around} {E : Value → Shared → Prop} {s : Shared} {h₀ : Heap} {L a b : Addr} {news : List (Addr × Obj)} {Q : Value → Shared → Prop}
theorem rows_ne {da db : List (Addr × Obj)} {ra rb : List (List Int)} {na nb : Nat} (N : News h₀ L s.heap news) (ha : (a, W.listOf (refs da).toArray na) ∈ news) (hb : (b, W.listOf (refs db).toArray nb) ∈ news) (hda : ∀ p ∈ da, p ∈ news) (hdb : ∀ p ∈ db, p ∈ news) (hra : RowsAre da ra) (hrb : RowsAre db rb) (hu : A.units + 64 < cLine)
    (h : Q (.bool (!decide (ra = rb))) s) : wpAny (model prog w) A (compareOp .NotEq (.ref a) (.ref b)) Q E s := by
  obtain ⟨as, hA⟩ := rows_read hra (fun p hp => (N p (hda p hp)).1)
  obtain ⟨bs, hB⟩ := rows_read hrb (fun p hp => (N p (hdb p hp)).1)
  refine ne_dataH_same (Reads.list (N _ ha).1 rfl rfl (by simpa using hA)) (Reads.list (N _ hb).1 rfl rfl (by simpa using hB)) (dat_shaped ra) (dat_shaped rb) hu (by simp only [noMix]; exact dat_mix ra rb) ?_
  simp only [PySem.Spec.same]
  rw [dat_same]
  exact h
theorem trues_ne {na nb : Nat} {x y : Bool} (N : News h₀ L s.heap news) (ha : (a, W.listOf [Value.bool x, Value.bool y].toArray na) ∈ news) (hb : (b, W.listOf [Value.bool true, Value.bool true].toArray nb) ∈ news) (hu : A.units + 64 < cLine)
    (h : Q (.bool (!(x && y))) s) : wpAny (model prog w) A (compareOp .NotEq (.ref a) (.ref b)) Q E s := by
  refine ne_dataH_same (Reads.list (N _ ha).1 rfl rfl (.cons (.bool _) (.cons (.bool _) .nil))) (Reads.list (N _ hb).1 rfl rfl (.cons (.bool _) (.cons (.bool _) .nil))) (by cases x <;> cases y <;> decide) (by decide) hu (by cases x <;> cases y <;> decide) ?_
  cases x <;> cases y <;> exact h
end
end
section
local macro_rules | `(tactic| walk_at "none here") => `(tactic| fail)
open PySem PySem.W PyProof.Rows PySem.Calls
local macro_rules | `(tactic| wtm_at "zst") => `(tactic| ((wtm_at "zbL"); (fail_if_success any_goals with_reducible (first | refine zs42 ?_ | refine zs17 ?_ | refine zs23 ?_))))
local macro_rules | `(tactic| ktr_unf) => `(tactic| repeat ((wtm_at "zst"); (wtm_at "zw1")))
local macro_rules | `(tactic| walk_at "execs cons") => `(tactic| wtm_at "zfz")
local macro_rules | `(tactic| kn_code) => `(tactic| repeat ((wtm_at "z34"); (wtm_at "zst"); (wtm_at "zw1")))
local macro_rules | `(tactic| walk_at "eval Name") => `(tactic| wtm_at "zy1")
local macro_rules | `(tactic| kn_hit) => `(tactic| wtm_at "zy4")
local macro_rules | `(tactic| walk_at "eval Name") => `(tactic| wtm_at "zy6")
local macro_rules | `(tactic| walk_at "callWith") => `(tactic| wtm_at "zy7")
set_option maxRecDepth 100000 in
set_option maxHeartbeats 8000000 in
theorem seg9 (w : World) (o : Obj) (dp un : Nat) (gd : Option (List Code)) (L a : Addr) (cd : Value) (outer : List Env) (A₀ : Around) (base g : Heap) (p : Program) (loose : List Str) (mean : ExcName → Option Value) (mg mb : Str → Option Value) (Q : Flow → Shared → Prop) (s : Shared) (m : Str → Option Value)
    (G : Grd w o dp un outer A₀ base g p loose mean mg mb) (o3 o5 o6 o7 : Obj) (P g0 g1 v1 v2 v3 v4 : Int) (tp u1 u2 u3 u4 tc0 tc1 tx ty p1 q1 p2 q2 p3 q3 : Tok) (LI FI L1 L2 L3 DI CO : Addr) (x0 y0 x1 y1 x2 y2 x3 y3 : Int) (e2 : Nat) (R : List (Addr × Obj)) (d3 : o3.data = .cell (some (.ref LI))) (d5 : o5.data = .cell (some (.ref DI))) (d6 : o6.data = .cell (some (.int P tp))) (d7 : o7.data = .cell (some (.ref CO)))
    (hg0 : 0 ≤ g0 ∧ g0 < P) (hg1 : 0 ≤ g1 ∧ g1 < P) (hv : ∀ z ∈ [v1, v2, v3, v4], 0 < z ∧ Fit g0 z ∧ Fit g1 z) (hr : [[g0 % v1, g1 % v1], [g0 % v2, g1 % v2], [g0 % v3, g1 % v3], [g0 % v4, g1 % v4]] = [[x0, y0], [x1, y1], [x2, y2], [x3, y3]])
    (F : Fr g L s.heap m) (Ld : Led g L s.heap ((L + 1 + 1 + 1 + 1 + 1 + 1 + 1, o7) :: (CO, W.listOf [Value.int g0 tc0, Value.int g1 tc1].toArray 2) :: (L + 1 + 1 + 1, o3) :: (L + 1 + 1 + 1 + 1 + 1, o5) :: (L + 1 + 1 + 1 + 1 + 1 + 1, o6) :: (LI, W.listOf [Value.ref FI, Value.ref L1, Value.ref L2, Value.ref L3].toArray 3) :: (FI, W.listOf [.int x0 tx, .int y0 ty].toArray e2) :: (L1, W.listOf [.int x1 p1, .int y1 q1].toArray 0) :: (L2, W.listOf [.int x2 p2, .int y2 q2].toArray 0) :: (L3, W.listOf [.int x3 p3, .int y3 q3].toArray 0) :: (DI, W.listOf [Value.int v1 u1, Value.int v2 u2, Value.int v3 u3, Value.int v4 u4].toArray 4) :: R))
    (hcont : ∀ h' tk', Fr g L h' m → Led g L h' ((L + 1 + 1 + 1 + 1 + 1 + 1 + 1, o7) :: (CO, W.listOf [Value.int g0 tc0, Value.int g1 tc1].toArray 2) :: (L + 1 + 1 + 1, o3) :: (L + 1 + 1 + 1 + 1 + 1, o5) :: (L + 1 + 1 + 1 + 1 + 1 + 1, o6) :: (LI, W.listOf [Value.ref FI, Value.ref L1, Value.ref L2, Value.ref L3].toArray 3) :: (FI, W.listOf [.int x0 tx, .int y0 ty].toArray e2) :: (L1, W.listOf [.int x1 p1, .int y1 q1].toArray 0) :: (L2, W.listOf [.int x2 p2, .int y2 q2].toArray 0) :: (L3, W.listOf [.int x3 p3, .int y3 q3].toArray 0) :: (DI, W.listOf [Value.int v1 u1, Value.int v2 u2, Value.int v3 u3, Value.int v4 u4].toArray 4) :: R) → LawAt w o dp un gd L a cd outer 12 Q { s with heap := h', toks := tk' }) : LawAt w o dp un gd L a cd outer 11 Q s := by
  refine frz fun Gz fz => ?_
  obtain ⟨ho, B, X, T, hC1, hC2, hd', hu⟩ := G
  refine fz ?_
  clear fz Gz
  unfold LawAt
  revert ho
  k_fill
  intro ho
  refine' litO ho ?h ?_
  case h => k_is
  intro e
  subst e
  clear ho
  dsimp only [lawBody, lawScope, lawEnv, lawTop, List.drop]
  have N := Ld.rest
  refine frz fun Gz fz => ?_
  obtain ⟨ps, c, o, qs, d, u, N9, hT, hO⟩ := Ld
  refine fz ?_
  clear fz Gz
  clear N
  ktr_unf
  k_dflt (refine' comp_eval F ?cl ?cell ?kind ?names ?_ ?hs; (case cl => with_unfolding_all rfl); (case cell => decide); (case kind => rfl); (case names => decide); (case hs => intro _; rfl))
  ktr_unf
  rename Fr _ _ _ _ => F9
  rename News _ _ _ _ => N9
  k_dflt (refine' comp_list (J := fun i ys nw => nw = (30, tabObj ps) :: (c, o) :: (37, tabObj qs) :: (d, u) :: (L + 1 + 1 + 1 + 1 + 1 + 1 + 1, o7) :: (CO, PySem.W.listOf [Value.int g0 tc0, Value.int g1 tc1].toArray 2) :: (L + 1 + 1 + 1, o3) :: (L + 1 + 1 + 1 + 1 + 1, o5) :: (L + 1 + 1 + 1 + 1 + 1 + 1, o6) :: (LI, PySem.W.listOf [Value.ref FI, Value.ref L1, Value.ref L2, Value.ref L3].toArray 3) :: (FI, PySem.W.listOf [.int x0 tx, .int y0 ty].toArray e2) :: (L1, PySem.W.listOf [.int x1 p1, .int y1 q1].toArray 0) :: (L2, PySem.W.listOf [.int x2 p2, .int y2 q2].toArray 0) :: (L3, PySem.W.listOf [.int x3 p3, .int y3 q3].toArray 0) :: (DI, PySem.W.listOf [Value.int v1 u1, Value.int v2 u2, Value.int v3 u3, Value.int v4 u4].toArray 4) :: R ∧ ys = List.replicate i (Value.bool true)) (vs := [Value.int g0 tc0, Value.int g1 tc1]) ?ykind ?yx ?yhh F9 N9 (News.isList N9 ?ymm) _ ?ym ?ysz ?yh0 ?ykp ?yst ?yfi; (case ykind => rfl); (case yx => rfl); (case yhh => rfl); (case ymm => repeat (first | with_reducible assumption | with_reducible exact List.mem_cons_self | with_reducible refine List.mem_cons_of_mem _ ?_)); (case ym => repeat (first | with_reducible assumption | with_reducible exact List.mem_cons_self | with_reducible refine List.mem_cons_of_mem _ ?_)); (case ysz => exact Nat.le_of_ble_eq_true rfl); (case yh0 => exact ⟨rfl, rfl⟩); (case ykp => rintro i ys nw ⟨rfl, -⟩; repeat (first | with_reducible assumption | with_reducible exact List.mem_cons_self | with_reducible refine List.mem_cons_of_mem _ ?_)))
  case yst =>
    rintro I lI i v ys nw h1 tk1 s1 C oC D m2 hv2 ⟨rfl, rfl⟩ hoC e1 F1 N1 off lD lC
    clear F9 N9
    obtain ⟨gg0, t, rfl, hgg⟩ : ∃ (gg0 : Int) (t : Tok), v = .int gg0 t ∧ 0 ≤ gg0 ∧ gg0 < P := by
      match i, hv2 with
      | 0, hv => cases hv; exact ⟨g0, tc0, rfl, hg0⟩
      | 1, hv => cases hv; exact ⟨g1, tc1, rfl, hg1⟩
    clear hv2
    intro E'
    ktr_unf
    with_reducible refine ite_pos (decide_eq_true hgg.1) ?_
    ktr_unf
    rename Fr _ _ _ _ => F9
    rename News _ _ _ _ => N9
    exact ⟨_, _, _, rfl, F9, N9, off, rfl, by rw [List.replicate_succ', decide_eq_true hgg.2]⟩
  case yfi =>
    rintro D3 h3 tk3 ys3 nw3 F3 N3 off3 ⟨rfl, rfl⟩ lt3
    clear F9 N9
    ktr_unf
    k_dflt (refine' newList_K F3 N3 ?_)
    clear F3 N3
    intro BT h' F9 N9 lBT
    ktr_unf
    k_dflt (refine' trues_ne (x := true) (y := true) (na := 2) (nb := 0) N9 ?za ?zb ?zc ?_; (case za => exact .tail _ (.head _)); (case zb => exact .head _); (case zc => show un + 64 < cLine; omega))
    ktr_unf
    with_reducible refine ite_neg (by decide) ?_
    ktr_unf
    have N8 : News g L _ ((30, tabObj ps) :: (c, o) :: (37, tabObj qs) :: (d, u) :: ([] ++ ((L + 1 + 1 + 1 + 1 + 1 + 1 + 1, o7) :: (CO, PySem.W.listOf [Value.int g0 tc0, Value.int g1 tc1].toArray 2) :: (L + 1 + 1 + 1, o3) :: (L + 1 + 1 + 1 + 1 + 1, o5) :: (L + 1 + 1 + 1 + 1 + 1 + 1, o6) :: (LI, PySem.W.listOf [Value.ref FI, Value.ref L1, Value.ref L2, Value.ref L3].toArray 3) :: (FI, PySem.W.listOf [.int x0 tx, .int y0 ty].toArray e2) :: (L1, PySem.W.listOf [.int x1 p1, .int y1 q1].toArray 0) :: (L2, PySem.W.listOf [.int x2 p2, .int y2 q2].toArray 0) :: (L3, PySem.W.listOf [.int x3 p3, .int y3 q3].toArray 0) :: (DI, PySem.W.listOf [Value.int v1 u1, Value.int v2 u2, Value.int v3 u3, Value.int v4 u4].toArray 4) :: R))) := news_of N9 (fun p hp => .tail _ (.tail _ hp))
    clear N9
    have N8' : News g L _ ((30, tabObj ps) :: (c, o) :: (37, tabObj qs) :: (d, u) :: (L + 1 + 1 + 1 + 1 + 1 + 1 + 1, o7) :: (CO, PySem.W.listOf [Value.int g0 tc0, Value.int g1 tc1].toArray 2) :: (L + 1 + 1 + 1, o3) :: (L + 1 + 1 + 1 + 1 + 1, o5) :: (L + 1 + 1 + 1 + 1 + 1 + 1, o6) :: (LI, PySem.W.listOf [Value.ref FI, Value.ref L1, Value.ref L2, Value.ref L3].toArray 3) :: (FI, PySem.W.listOf [.int x0 tx, .int y0 ty].toArray e2) :: (L1, PySem.W.listOf [.int x1 p1, .int y1 q1].toArray 0) :: (L2, PySem.W.listOf [.int x2 p2, .int y2 q2].toArray 0) :: (L3, PySem.W.listOf [.int x3 p3, .int y3 q3].toArray 0) :: (DI, PySem.W.listOf [Value.int v1 u1, Value.int v2 u2, Value.int v3 u3, Value.int v4 u4].toArray 4) :: R) := N8
    clear N8
    k_dflt (refine' comp_eval F9 ?cl ?cell ?kind ?names ?_ ?hs; (case cl => with_unfolding_all rfl); (case cell => decide); (case kind => rfl); (case names => decide); (case hs => intro _; rfl))
    ktr_unf
    rename Fr _ _ _ _ => F9
    rename News _ _ _ _ => N9
    generalize hR0 : (L + 1 + 1 + 1 + 1 + 1 + 1 + 1, o7) :: (CO, PySem.W.listOf [Value.int g0 tc0, Value.int g1 tc1].toArray 2) :: (L + 1 + 1 + 1, o3) :: (L + 1 + 1 + 1 + 1 + 1, o5) :: (L + 1 + 1 + 1 + 1 + 1 + 1, o6) :: (LI, PySem.W.listOf [Value.ref FI, Value.ref L1, Value.ref L2, Value.ref L3].toArray 3) :: (FI, PySem.W.listOf [.int x0 tx, .int y0 ty].toArray e2) :: (L1, PySem.W.listOf [.int x1 p1, .int y1 q1].toArray 0) :: (L2, PySem.W.listOf [.int x2 p2, .int y2 q2].toArray 0) :: (L3, PySem.W.listOf [.int x3 p3, .int y3 q3].toArray 0) :: (DI, PySem.W.listOf [Value.int v1 u1, Value.int v2 u2, Value.int v3 u3, Value.int v4 u4].toArray 4) :: R = R0 at N9 hO
    have mDI : (DI, PySem.W.listOf [Value.int v1 u1, Value.int v2 u2, Value.int v3 u3, Value.int v4 u4].toArray 4) ∈ R0 := by rw [← hR0]; repeat (first | with_reducible assumption | with_reducible exact List.mem_cons_self | with_reducible refine List.mem_cons_of_mem _ ?_)
    have mCO : (CO, PySem.W.listOf [Value.int g0 tc0, Value.int g1 tc1].toArray 2) ∈ R0 := by rw [← hR0]; repeat (first | with_reducible assumption | with_reducible exact List.mem_cons_self | with_reducible refine List.mem_cons_of_mem _ ?_)
    have m7 : (L + 1 + 1 + 1 + 1 + 1 + 1 + 1, o7) ∈ R0 := by rw [← hR0]; repeat (first | with_reducible assumption | with_reducible exact List.mem_cons_self | with_reducible refine List.mem_cons_of_mem _ ?_)
    k_dflt (refine' comp_list (J := fun i ys nw => Ex6 fun ps c o qs d u => ∃ dn, An4 (nw = (30, tabObj ps) :: (c, o) :: (37, tabObj qs) :: (d, u) :: (dn ++ R0)) (TabsOk ps c o qs d u) (OffT c d (dn ++ R0)) (ys = refs dn ∧ RowsAre dn ([[g0 % v1, g1 % v1], [g0 % v2, g1 % v2], [g0 % v3, g1 % v3], [g0 % v4, g1 % v4]].take i))) (vs := [Value.int v1 u1, Value.int v2 u2, Value.int v3 u3, Value.int v4 u4]) ?xkind ?xx ?xhh F9 N9 (News.isList N9 ?xmm) (PySem.W.listOf [Value.int v1 u1, Value.int v2 u2, Value.int v3 u3, Value.int v4 u4].toArray 4) ?xm ?xsz ?xh0 ?xkp ?xst ?xfi; (case xkind => rfl); (case xx => rfl); (case xhh => rfl); (case xmm => exact .tail _ (.tail _ (.tail _ (.tail _ mDI)))); (case xm => exact .tail _ (.tail _ (.tail _ (.tail _ mDI)))); (case xsz => exact Nat.le_of_ble_eq_true rfl); (case xh0 => exact ⟨ps, c, o, qs, d, u, [], rfl, hT, hO, rfl, .nil⟩); (case xkp => rintro i ys nw ⟨ps, c, o, qs, d, u, dn, rfl, -⟩; exact .tail _ (.tail _ (.tail _ (.tail _ (List.mem_append_right _ mDI))))))
    case xst =>
      intro I lI i v ys nw h1 tk1 s1 C oC D m2 hv2 z9
      refine frz fun Gz fz => ?_
      obtain ⟨ps, c, o, qs, d, u, dn, rfl, hT, hOT, rfl, hdn⟩ := z9
      refine fz ?_
      clear fz Gz
      intro hoC e1 F1 N1 off lD lC
      clear F9 N9
      obtain ⟨vi, t, rfl, hvi, he⟩ : ∃ (vi : Int) (t : Tok), v = .int vi t ∧ (0 < vi ∧ Fit g0 vi ∧ Fit g1 vi) ∧ [[g0 % v1, g1 % v1], [g0 % v2, g1 % v2], [g0 % v3, g1 % v3], [g0 % v4, g1 % v4]].take (i + 1) = [[g0 % v1, g1 % v1], [g0 % v2, g1 % v2], [g0 % v3, g1 % v3], [g0 % v4, g1 % v4]].take i ++ [[g0 % vi, g1 % vi]] := by
        match i, hv2 with
        | 0, hv2 => cases hv2; exact ⟨v1, u1, rfl, hv v1 (by simp), rfl⟩
        | 1, hv2 => cases hv2; exact ⟨v2, u2, rfl, hv v2 (by simp), rfl⟩
        | 2, hv2 => cases hv2; exact ⟨v3, u3, rfl, hv v3 (by simp), rfl⟩
        | 3, hv2 => cases hv2; exact ⟨v4, u4, rfl, hv v4 (by simp), rfl⟩
      clear hv2
      have N2 := news_of (l' := (C, oC) :: (D, LCg.lst (refs dn)) :: (I, s1) :: (L + 1 + 1 + 1 + 1 + 1 + 1 + 1, o7) :: (30, tabObj ps) :: (c, o) :: (37, tabObj qs) :: (d, u) :: (dn ++ R0)) N1 (fun p hp => by
        simp only [List.mem_cons] at hp ⊢
        rcases hp with h | h | h | h | h | h | h | h | h
        · exact .inl h
        · exact .inr (.inl h)
        · exact .inr (.inr (.inl h))
        · exact .inr (.inr (.inr (.inr (.inr (.inr (.inr (h ▸ List.mem_append_right _ m7)))))))
        · exact .inr (.inr (.inr (.inl h)))
        · exact .inr (.inr (.inr (.inr (.inl h))))
        · exact .inr (.inr (.inr (.inr (.inr (.inl h)))))
        · exact .inr (.inr (.inr (.inr (.inr (.inr (.inl h))))))
        · exact .inr (.inr (.inr (.inr (.inr (.inr (.inr h)))))))
      clear N1
      intro E'
      ktr_unf
      rename Fr _ _ _ _ => F9
      rename News _ _ _ _ => N9
      have g30 := off _ (.head _)
      have gc := off _ (.tail _ (.head _))
      have g37 := off _ (.tail _ (.tail _ (.head _)))
      have gd := off _ (.tail _ (.tail _ (.tail _ (.head _))))
      have hO5 : OffT c d ((C, oC) :: (D, LCg.lst (refs dn)) :: (I, s1) :: (dn ++ R0)) := OffT.cons ⟨Ne.symm g30.2.1, Ne.symm g37.2.1, Ne.symm gc.2.1, Ne.symm gd.2.1⟩ (OffT.cons ⟨Ne.symm g30.2.2, Ne.symm g37.2.2, Ne.symm gc.2.2, Ne.symm gd.2.2⟩ (OffT.cons ⟨fun q => g30.1 (List.mem_singleton.mpr q.symm), fun q => g37.1 (List.mem_singleton.mpr q.symm), fun q => gc.1 (List.mem_singleton.mpr q.symm), fun q => gd.1 (List.mem_singleton.mpr q.symm)⟩ hOT))
      with_reducible refine' CallsL.use (ct_left w CO g0 g1 vi 2 tc0 tc1 t hvi.1 hvi.2.1 hvi.2.2) ?hA B F9 X (Led.pack (new := (C, oC) :: (D, LCg.lst (refs dn)) :: (I, s1) :: (dn ++ R0)) N9 ?hs hT hO5) T ?hk hC1 hC2 ?hn ?h1 ?h2 ?_
      case hA => exact rfl
      case hk => exact rfl
      case hn => exact .tail _ (.tail _ (.tail _ (List.mem_append_right _ mCO)))
      case h1 => (show dp + _ < recursionLimit; omega)
      case h2 => (show un + 8 * _ < cLine; omega)
      case hs =>
        intro p hp
        refine ZSub.go ?_ p hp; wtm_at "zsub"
      clear F9 N9 hT
      intro v9 new h' tk' F9 Ld9 z9
      refine frz fun Gz fz => ?_
      obtain ⟨q, ta, tb, rfl, rfl⟩ := z9
      refine fz ?_
      clear fz Gz
      intro lt9
      refine frz fun Gz fz => ?_
      obtain ⟨ps, c, o, qs, d, u, N9, hT, hO9⟩ := Ld9
      refine fz ?_
      clear fz Gz
      simp only [List.cons_append, List.nil_append] at N9 hO9
      k_unfold
      try dsimp only
      have ltq := fun p hp => lt9 _ (.head _) p hp
      have gC := hO9 _ (.tail _ (.head _))
      have gD := hO9 _ (.tail _ (.tail _ (.head _)))
      have gI := hO9 _ (.tail _ (.tail _ (.tail _ (.head _))))
      refine ⟨_, _, (30, tabObj ps) :: (c, o) :: (37, tabObj qs) :: (d, u) :: ((dn ++ [(q, PySem.W.listOf [.int (g0 % vi) ta, .int (g1 % vi) tb].toArray 0)]) ++ R0), rfl, F9, news_of N9 (fun p hp => ?_), ?_, ps, c, o, qs, d, u, dn ++ [(q, PySem.W.listOf [.int (g0 % vi) ta, .int (g1 % vi) tb].toArray 0)], rfl, hT, fun p hp => ?_, by simp [refs], he ▸ hdn.snoc (.cons _ _ (.cons _ _ .nil))⟩
      · simp only [List.cons_append, List.nil_append, List.mem_cons, List.mem_append, List.not_mem_nil, or_false] at hp ⊢
        rcases hp with h | h | h | h | h | h | h | (h | h) | h
        · exact .inr (.inr (.inr (.inr (.inr (.inl h)))))
        · exact .inr (.inr (.inr (.inr (.inr (.inr (.inl h))))))
        · exact .inr (.inr (.inr (.inr (.inr (.inr (.inr (.inl h)))))))
        · exact .inl h
        · exact .inr (.inl h)
        · exact .inr (.inr (.inl h))
        · exact .inr (.inr (.inr (.inl h)))
        · exact .inr (.inr (.inr (.inr (.inr (.inr (.inr (.inr (.inl h))))))))
        · exact .inr (.inr (.inr (.inr (.inl h))))
        · exact .inr (.inr (.inr (.inr (.inr (.inr (.inr (.inr (.inr h))))))))
      · have toW : ∀ {x : Nat}, @Ne Nat x I → x ∉ [I] := fun hx hm => hx (List.mem_singleton.mp hm)
        refine List.forall_mem_cons.mpr ⟨⟨toW (Ne.symm gI.1), Ne.symm gC.1, Ne.symm gD.1⟩, List.forall_mem_cons.mpr ⟨⟨toW (Ne.symm gI.2.2.1), Ne.symm gC.2.2.1, Ne.symm gD.2.2.1⟩, List.forall_mem_cons.mpr ⟨⟨toW (Ne.symm gI.2.1), Ne.symm gC.2.1, Ne.symm gD.2.1⟩, List.forall_mem_cons.mpr ⟨⟨toW (Ne.symm gI.2.2.2), Ne.symm gC.2.2.2, Ne.symm gD.2.2.2⟩, fun p hp => ?_⟩⟩⟩⟩
        simp only [List.mem_append, List.mem_cons, List.not_mem_nil, or_false] at hp
        rcases hp with (h | rfl) | h
        · exact off p (.tail _ (.tail _ (.tail _ (.tail _ (List.mem_append_left _ h)))))
        · exact ⟨toW (Nat.ne_of_gt (ltq _ (.tail _ (.tail _ (.head _))))), Nat.ne_of_gt (ltq _ (.head _)), Nat.ne_of_gt (ltq _ (.tail _ (.head _)))⟩
        · exact off p (.tail _ (.tail _ (.tail _ (.tail _ (List.mem_append_right _ h)))))
      · simp only [List.mem_append, List.mem_cons, List.not_mem_nil, or_false] at hp
        rcases hp with (h | rfl) | h
        · exact hO9 p (.tail _ (.tail _ (.tail _ (.tail _ (List.mem_append_left _ h)))))
        · exact hO9 _ (.head _)
        · exact hO9 p (.tail _ (.tail _ (.tail _ (.tail _ (List.mem_append_right _ h)))))
    case xfi =>
      intro D5 h5 tk5 ys5 nw5 F5 N5 off5 z9
      refine frz fun Gz fz => ?_
      obtain ⟨ps, c, o, qs, d, u, dn, rfl, hT, hOT, rfl, hdn⟩ := z9
      refine fz ?_
      clear fz Gz
      intro lt5
      clear F9 N9
      have m3 : (L + 1 + 1 + 1, o3) ∈ R0 := by rw [← hR0]; repeat (first | with_reducible assumption | with_reducible exact List.mem_cons_self | with_reducible refine List.mem_cons_of_mem _ ?_)
      have mLI : (LI, PySem.W.listOf [Value.ref FI, Value.ref L1, Value.ref L2, Value.ref L3].toArray 3) ∈ R0 := by rw [← hR0]; repeat (first | with_reducible assumption | with_reducible exact List.mem_cons_self | with_reducible refine List.mem_cons_of_mem _ ?_)
      have mm0 : (FI, PySem.W.listOf [.int x0 tx, .int y0 ty].toArray e2) ∈ R0 := by rw [← hR0]; repeat (first | with_reducible assumption | with_reducible exact List.mem_cons_self | with_reducible refine List.mem_cons_of_mem _ ?_)
      have mm1 : (L1, PySem.W.listOf [.int x1 p1, .int y1 q1].toArray 0) ∈ R0 := by rw [← hR0]; repeat (first | with_reducible assumption | with_reducible exact List.mem_cons_self | with_reducible refine List.mem_cons_of_mem _ ?_)
      have mm2 : (L2, PySem.W.listOf [.int x2 p2, .int y2 q2].toArray 0) ∈ R0 := by rw [← hR0]; repeat (first | with_reducible assumption | with_reducible exact List.mem_cons_self | with_reducible refine List.mem_cons_of_mem _ ?_)
      have mm3 : (L3, PySem.W.listOf [.int x3 p3, .int y3 q3].toArray 0) ∈ R0 := by rw [← hR0]; repeat (first | with_reducible assumption | with_reducible exact List.mem_cons_self | with_reducible refine List.mem_cons_of_mem _ ?_)
      have up : ∀ p ∈ R0, p ∈ ((L + 1 + 1 + 1, o3) :: (D5, LCg.lst (refs dn)) :: (30, tabObj ps) :: (c, o) :: (37, tabObj qs) :: (d, u) :: (dn ++ R0) : List (Addr × Obj)) := fun p hp => .tail _ (.tail _ (.tail _ (.tail _ (.tail _ (.tail _ (List.mem_append_right _ hp))))))
      have N6 := news_of (l' := (L + 1 + 1 + 1, o3) :: (D5, LCg.lst (refs dn)) :: (30, tabObj ps) :: (c, o) :: (37, tabObj qs) :: (d, u) :: (dn ++ R0)) N5 (List.forall_mem_cons.mpr ⟨.tail _ (.tail _ (.tail _ (.tail _ (.tail _ (List.mem_append_right _ m3))))), fun p hp => hp⟩)
      clear N5
      ktr_unf
      rename Fr _ _ _ _ => F9
      rename News _ _ _ _ => N9
      k_dflt (refine' rows_ne (da := dn) (db := [(FI, PySem.W.listOf [.int x0 tx, .int y0 ty].toArray e2), (L1, PySem.W.listOf [.int x1 p1, .int y1 q1].toArray 0), (L2, PySem.W.listOf [.int x2 p2, .int y2 q2].toArray 0), (L3, PySem.W.listOf [.int x3 p3, .int y3 q3].toArray 0)]) (na := (refs dn).length) (nb := 3) (rb := [[x0, y0], [x1, y1], [x2, y2], [x3, y3]]) N9 ?za ?zb ?zc ?zd hdn ?zf ?zg ?_; (case za => exact .tail _ (.head _)); (case zb => exact up _ mLI); (case zc => exact fun p hp => .tail _ (.tail _ (.tail _ (.tail _ (.tail _ (.tail _ (List.mem_append_left _ hp))))))); (case zd => exact List.forall_mem_cons.mpr ⟨up _ mm0, List.forall_mem_cons.mpr ⟨up _ mm1, List.forall_mem_cons.mpr ⟨up _ mm2, List.forall_mem_cons.mpr ⟨up _ mm3, fun _ h => (nomatch h)⟩⟩⟩⟩); (case zf => exact .cons (.cons _ _ (.cons _ _ .nil)) (.cons (.cons _ _ (.cons _ _ .nil)) (.cons (.cons _ _ (.cons _ _ .nil)) (.cons (.cons _ _ (.cons _ _ .nil)) .nil)))); (case zg => show un + 64 < cLine; omega))
      have hr' : decide (List.take [Value.int v1 u1, Value.int v2 u2, Value.int v3 u3, Value.int v4 u4].length [[g0 % v1, g1 % v1], [g0 % v2, g1 % v2], [g0 % v3, g1 % v3], [g0 % v4, g1 % v4]] = [[x0, y0], [x1, y1], [x2, y2], [x3, y3]]) = true := decide_eq_true hr
      ktr_unf
      with_reducible refine ite_neg (by rw [hr']; decide) ?_
      ktr_unf
      with_reducible refine ite_neg (by decide) ?_
      walk1
      rename Fr _ _ _ _ => F9
      rename News _ _ _ _ => N9
      subst hR0
      try dsimp only
      try (wtm_at "zthaw"; try dsimp only)
      refine hcont _ _ F9 (Led.pack N9 (fun p hp => ?_) hT (hOT.sub fun p hp => List.mem_append_right _ hp))
      simp only [List.mem_cons, List.mem_append] at hp ⊢
      rcases hp with h | h | h | h | h
      · exact .inr (.inr (.inl h))
      · exact .inr (.inr (.inr (.inl h)))
      · exact .inr (.inr (.inr (.inr (.inl h))))
      · exact .inr (.inr (.inr (.inr (.inr (.inl h)))))
      · exact .inr (.inr (.inr (.inr (.inr (.inr (.inr h))))))
end
section
local macro_rules | `(tactic| walk_at "none here") => `(tactic| fail)
open PySem PySem.W PyProof.Rows PySem.Calls
local macro_rules | `(tactic| wtm_at "zst") => `(tactic| ((wtm_at "zbL"); (fail_if_success any_goals with_reducible (first | refine zs43 ?_ | refine zs36 ?_))))
local macro_rules | `(tactic| ktr_unf) => `(tactic| repeat ((wtm_at "zst"); (first | (k_unfold; (try dsimp only)) | walk1 | wtm_at "zthaw" | with_reducible refine thawV (by with_reducible assumption) ?_ | (dsimp only; walk1))))
local macro_rules | `(tactic| walk_at "eval BinOp") => `(tactic| ((with_reducible refine binF ?_); intro _ _))
local macro_rules | `(tactic| walk_at "execs cons") => `(tactic| wtm_at "zfz")
local macro_rules | `(tactic| kn_code) => `(tactic| repeat ((wtm_at "z34"); (wtm_at "zst"); (first | (k_unfold; (try dsimp only)) | walk1 | wtm_at "zthaw" | with_reducible refine thawV (by with_reducible assumption) ?_ | (dsimp only; walk1))))
local macro_rules | `(tactic| walk_at "eval Name") => `(tactic| wtm_at "zy1")
local macro_rules | `(tactic| kn_hit) => `(tactic| wtm_at "zy4")
local macro_rules | `(tactic| walk_at "eval Name") => `(tactic| wtm_at "zy6")
local macro_rules | `(tactic| walk_at "callWith") => `(tactic| wtm_at "zy7")
theorem bits_small {x : Int} (h1 : -31 ≤ x) (h2 : x ≤ 31) : Builtin.Int.intBits x ≤ 5 := intBits_le_of_natAbs (y := 31) (by
  cases x with
  | ofNat n => show n ≤ 31; have : (n : Int) ≤ 31 := h2; omega
  | negSucc n => show n + 1 ≤ 31; have : -31 ≤ Int.negSucc n := h1; rw [Int.negSucc_eq] at this; omega) (by decide)
section
variable {prog : Program} {w : World} {A : Around} {E : Value → Shared → Prop} {s : Shared} {h₀ : Heap} {L : Addr} {m : Str → Option Value} {news : List (Addr × Obj)}
/-- a slice of a list of ints is a list of ints out of it -/
theorem lst_keep {h : Heap} {l : Addr} {vs : Array Value} (F : Fr h₀ L h m) (x : h₀.IsList l vs) : h.IsList l vs := let ⟨o, ho, r⟩ := x; ⟨o, F.keep _ _ ho, r⟩
theorem op_slice {value slice : Expr} {l : Addr} {vs : List Value} {ns : List Int} {vl vu vk : Value} {lo hi st : Option Int} {ops : List Value} {Q : Value → Shared → Prop} (F : Fr h₀ L s.heap m) (N : News h₀ L s.heap news) (hl : s.heap.IsList l vs.toArray) (hI : IntsAre vs ns) (pl : IsPart vl lo) (pu : IsPart vu hi) (pk : IsPart vk st) (h0 : st ≠ some 0)
    (h : ∀ D us ms h', Fr h₀ L h' m → News h₀ L h' ((D, W.listOf (List.toArray us) 0) :: news) → (∀ p ∈ news, p.1 < D) → IntsAre us ms → ms.length ≤ ns.length → (∀ x ∈ ms, x ∈ ns) → Q (.ref D) { s with heap := h' })
    (hs : subscripted slice false (.ref l) (.ref s.heap.objs.size) = operate ops (getItem (.ref l) (.ref s.heap.objs.size))) (ht : ∀ r, letTemporaryGo value (.ref l) r = pure ()) (hz : ns.length ≤ sizeLine) :
    wpAny (model prog w) A (subscriptTail value slice (.ref l) (.ref s.heap.objs.size)) Q E { s with heap := s.heap.push { cls := .type "slice", data := .fields #[vl, vu, vk] } } := by
  have hz' : vs.toArray.size ≤ sizeLine := by rw [List.size_toArray, hI.length]; exact hz
  have hm := hI.pick lo hi st
  have hle := slicePick_size_le vs.toArray lo hi st
  refine kmk_slice3_lit F N hl pl pu pk h0 (zs := (slicePick vs.toArray lo hi st).toList) rfl (fun D h' F' N' lt => h D _ _ h' F' N' lt hm ?_ ?_) hs ht hz'
  · rw [← hm.length, Array.length_toList, ← hI.length]
    simpa using hle
  · intro x hx
    unfold pickNums at hx
    simp only [List.mem_filterMap] at hx
    obtain ⟨i, -, hi⟩ := hx
    exact List.mem_of_getElem? (by simpa using hi)
end
set_option maxRecDepth 100000 in
set_option maxHeartbeats 8000000 in
theorem seg10 (w : World) (o : Obj) (dp un : Nat) (gd : Option (List Code)) (L a : Addr) (cd : Value) (outer : List Env) (A₀ : Around) (base g : Heap) (p : Program) (loose : List Str) (mean : ExcName → Option Value) (mg mb : Str → Option Value) (Q : Flow → Shared → Prop) (s : Shared) (m : Str → Option Value)
    (G : Grd w o dp un outer A₀ base g p loose mean mg mb) (o1 o5 : Obj) (sc DI : Addr) (svs : List Value) (ns : List Int) (v1 v2 v3 v4 : Int) (u1 u2 u3 u4 : Tok) (R : List (Addr × Obj)) (d1 : o1.data = .cell (some (.ref sc))) (d5 : o5.data = .cell (some (.ref DI))) (hsc : g.IsList sc svs.toArray) (hns : IntsAre svs ns) (hln : ns.length ≤ 63) (Bb : Nat) (hB : ∀ z ∈ [v1, v2, v3, v4], Builtin.Int.intBits z ≤ Bb) (hBb : Bb ≤ 6000)
    (F : Fr g L s.heap m) (Ld : Led g L s.heap ((L + 1, o1) :: (L + 1 + 1 + 1 + 1 + 1, o5) :: (DI, W.listOf [Value.int v1 u1, Value.int v2 u2, Value.int v3 u3, Value.int v4 u4].toArray 4) :: R))
    (hcont : ∀ h' tk' m' MO LE MV t1 t2 t3, Builtin.Int.intBits MO ≤ 5 → Builtin.Int.intBits LE ≤ 5 → Builtin.Int.intBits MV ≤ 5 + 4 * Bb → m' (Str.ofString "more") = some (.int MO t1) → m' (Str.ofString "less") = some (.int LE t2) → m' (Str.ofString "moved") = some (.int MV t3) →
      m' (Str.ofString "first") = m (Str.ofString "first") → m' (Str.ofString "rows") = m (Str.ofString "rows") → Fr g L h' m' → Led g L h' ((L + 1, o1) :: (L + 1 + 1 + 1 + 1 + 1, o5) :: (DI, W.listOf [Value.int v1 u1, Value.int v2 u2, Value.int v3 u3, Value.int v4 u4].toArray 4) :: R) →
      LawAt w o dp un gd L a cd outer 14 Q { s with heap := h', toks := tk' }) : LawAt w o dp un gd L a cd outer 12 Q s := by
  refine frz fun Gz fz => ?_
  obtain ⟨ho, B, X, T, hC1, hC2, hd', hu⟩ := G
  refine fz ?_
  clear fz Gz
  unfold LawAt
  revert ho
  k_fill
  intro ho
  refine' litO ho ?h ?_
  case h => k_is
  intro e
  subst e
  clear ho
  dsimp only [lawBody, lawScope, lawEnv, lawTop, List.drop]
  have N := Ld.rest
  refine frz fun Gz fz => ?_
  obtain ⟨ps, c, o, qs, d, u, N9, hT, hO⟩ := Ld
  refine fz ?_
  clear fz Gz
  clear N
  have N9' := news_of (l' := (L + 1, o1) :: (L + 1 + 1 + 1 + 1 + 1, o5) :: (DI, PySem.W.listOf [Value.int v1 u1, Value.int v2 u2, Value.int v3 u3, Value.int v4 u4].toArray 4) :: (30, tabObj ps) :: (c, o) :: (37, tabObj qs) :: (d, u) :: (L + 1, o1) :: (L + 1 + 1 + 1 + 1 + 1, o5) :: (DI, PySem.W.listOf [Value.int v1 u1, Value.int v2 u2, Value.int v3 u3, Value.int v4 u4].toArray 4) :: R) N9 (fun p hp => by
    refine ZSub.go ?_ p hp; wtm_at "zsub")
  clear N9
  ktr_unf
  rename Fr _ _ _ _ => F9
  rename News _ _ _ _ => N9
  k_dflt (refine' op_slice (s := ⟨_, _, _, _, _⟩) F9 N9 (lst_keep F9 hsc) hns ?zp ?zq ?zk ?zo ?_ ?zs ?zt ?zz; (case zp => first | exact .none | exact .int _ _); (case zq => first | exact .none | exact .int _ _); (case zk => first | exact .none | exact .int _ _); (case zo => decide); (case zs => with_unfolding_all rfl); (case zt => (intro _; with_unfolding_all rfl)); (case zz => rw [sizeLine_eq]; omega))
  clear F9 N9
  intro S1 us1 ms1 h' F9 N9 lS1 hus1 hml1 hmm1
  ktr_unf
  rename Fr _ _ _ _ => F9
  rename News _ _ _ _ => N9
  k_dflt (refine' sumK ?zhh F9 N9 (News.isList N9 ?zm) hus1 ?_; (case zhh => rfl); (case zm => exact .head _))
  clear F9 N9
  intro h' tk' tt1 F9 N9
  ktr_unf
  with_reducible refine op_mod _ (by decide) rfl (fun t5 tk5 => ?_)
  ktr_unf
  rename Fr _ _ _ _ => F9
  rename News _ _ _ _ => N9
  k_dflt (refine' op_slice (s := ⟨_, _, _, _, _⟩) F9 N9 (lst_keep F9 hsc) hns ?zp ?zq ?zk ?zo ?_ ?zs ?zt ?zz; (case zp => first | exact .none | exact .int _ _); (case zq => first | exact .none | exact .int _ _); (case zk => first | exact .none | exact .int _ _); (case zo => decide); (case zs => with_unfolding_all rfl); (case zt => (intro _; with_unfolding_all rfl)); (case zz => rw [sizeLine_eq]; omega))
  clear F9 N9
  intro S2 us2 ms2 h' F9 N9 lS2 hus2 hml2 hmm2
  ktr_unf
  rename Fr _ _ _ _ => F9
  rename News _ _ _ _ => N9
  k_dflt (refine' op_slice (s := ⟨_, _, _, _, _⟩) F9 N9 (News.isList N9 (.head _)) hus2 ?zp ?zq ?zk ?zo ?_ ?zs ?zt ?zz; (case zp => first | exact .none | exact .int _ _); (case zq => first | exact .none | exact .int _ _); (case zk => first | exact .none | exact .int _ _); (case zo => decide); (case zs => with_unfolding_all rfl); (case zt => (intro _; with_unfolding_all rfl)); (case zz => rw [sizeLine_eq]; omega))
  clear F9 N9
  intro S3 us3 ms3 h' F9 N9 lS3 hus3 hml3 hmm3
  ktr_unf
  rename Fr _ _ _ _ => F9
  rename News _ _ _ _ => N9
  k_dflt (refine' sumK ?zhh F9 N9 (News.isList N9 ?zm) hus3 ?_; (case zhh => rfl); (case zm => exact .head _))
  clear F9 N9
  intro h' tk' tt3 F9 N9
  ktr_unf
  with_reducible refine op_mod _ (by decide) rfl (fun t5 tk5 => ?_)
  ktr_unf
  rename Fr _ _ _ _ => F9
  rename News _ _ _ _ => N9
  k_dflt (refine' op_slice (s := ⟨_, _, _, _, _⟩) F9 N9 (lst_keep F9 hsc) hns ?zp ?zq ?zk ?zo ?_ ?zs ?zt ?zz; (case zp => first | exact .none | exact .int _ _); (case zq => first | exact .none | exact .int _ _); (case zk => first | exact .none | exact .int _ _); (case zo => decide); (case zs => with_unfolding_all rfl); (case zt => (intro _; with_unfolding_all rfl)); (case zz => rw [sizeLine_eq]; omega))
  clear F9 N9
  intro S4 us4 ms4 h' F9 N9 lS4 hus4 hml4 hmm4
  ktr_unf
  rename Fr _ _ _ _ => F9
  rename News _ _ _ _ => N9
  k_dflt (refine' op_slice (s := ⟨_, _, _, _, _⟩) F9 N9 (News.isList N9 (.head _)) hus4 ?zp ?zq ?zk ?zo ?_ ?zs ?zt ?zz; (case zp => first | exact .none | exact .int _ _); (case zq => first | exact .none | exact .int _ _); (case zk => first | exact .none | exact .int _ _); (case zo => decide); (case zs => with_unfolding_all rfl); (case zt => (intro _; with_unfolding_all rfl)); (case zz => rw [sizeLine_eq]; omega))
  clear F9 N9
  intro S5 us5 ms5 h' F9 N9 lS5 hus5 hml5 hmm5
  ktr_unf
  rename Fr _ _ _ _ => F9
  rename News _ _ _ _ => N9
  k_dflt (refine' sumK ?zhh F9 N9 (News.isList N9 ?zm) hus5 ?_; (case zhh => rfl); (case zm => exact .head _))
  clear F9 N9
  intro h' tk' tt5 F9 N9
  ktr_unf
  with_reducible refine op_mod _ (by decide) rfl (fun t5 tk5 => ?_)
  ktr_unf
  rename Fr _ _ _ _ => F9
  rename News _ _ _ _ => N9
  obtain ⟨M0, MO, LE, MV, t1, t2, t3, F8, hMO, hLE, hMV, hM1, hM2, hM3, hM4, hM5⟩ : Ex6 fun (M0 : Str → Option Value) (MO : Int) (LE : Int) (MV : Int) (t1 : Tok) (t2 : Tok) => ∃ (t3 : Tok), An4 (Fr g L _ M0) (Builtin.Int.intBits MO ≤ 5) (Builtin.Int.intBits LE ≤ 5) (An4 (Builtin.Int.intBits MV ≤ 5) (M0 (Str.ofString "more") = some (.int MO t1)) (M0 (Str.ofString "less") = some (.int LE t2)) (M0 (Str.ofString "moved") = some (.int MV t3) ∧ M0 (Str.ofString "first") = m (Str.ofString "first") ∧ M0 (Str.ofString "rows") = m (Str.ofString "rows"))) :=
    ⟨_, ms1.sum % 41 - 18, 17 - ms3.sum % 31, (ms5.sum + 25) % 49 - 24, _, _, _, F9, bits_small (by omega) (by omega), bits_small (by omega) (by omega), bits_small (by omega) (by omega), rfl, rfl, rfl, rfl, rfl⟩
  have N8 : News g L _ ((L + 1, o1) :: (L + 1 + 1 + 1 + 1 + 1, o5) :: (DI, PySem.W.listOf [Value.int v1 u1, Value.int v2 u2, Value.int v3 u3, Value.int v4 u4].toArray 4) :: (30, tabObj ps) :: (c, o) :: (37, tabObj qs) :: (d, u) :: (L + 1, o1) :: (L + 1 + 1 + 1 + 1 + 1, o5) :: (DI, PySem.W.listOf [Value.int v1 u1, Value.int v2 u2, Value.int v3 u3, Value.int v4 u4].toArray 4) :: R) := news_of N9 (fun p hp => .tail _ (.tail _ (.tail _ (.tail _ (.tail _ (.tail _ hp))))))
  clear F9 N9
  with_unfolding_all refine' For_turns F8 ?_
  ktr_unf
  with_reducible refine op_mod _ (by decide) rfl (fun t5 tk5 => ?_)
  ktr_unf
  rename Fr _ _ _ _ => F9
  rename News _ _ _ _ => N9
  k_dflt (refine' op_slice (s := ⟨_, _, _, _, _⟩) F9 N9 (News.isList N9 (.tail _ (.tail _ (.head _)))) (show IntsAre [Value.int v1 u1, Value.int v2 u2, Value.int v3 u3, Value.int v4 u4] [v1, v2, v3, v4] from .cons _ _ (.cons _ _ (.cons _ _ (.cons _ _ .nil)))) ?zp ?zq ?zk ?zo ?_ ?zs ?zt ?zz; (case zp => first | exact .none | exact .int _ _); (case zq => first | exact .none | exact .int _ _); (case zk => first | exact .none | exact .int _ _); (case zo => decide); (case zs => with_unfolding_all rfl); (case zt => (intro _; with_unfolding_all rfl)); (case zz => rw [sizeLine_eq]; exact Nat.le_of_ble_eq_true rfl))
  clear F9 N9
  intro S6 us6 ms6 h' F9 N9 lS6 hus6 hml6 hmm6
  ktr_unf
  have hb6 : ∀ x ∈ ms6, Builtin.Int.intBits x ≤ Bb := fun x hx => hB x (hmm6 x hx)
  have hl6 : ms6.length ≤ 4 := hml6
  generalize hN1 : (S6, PySem.W.listOf us6.toArray 0) :: _ = N1 at N9
  have mS6 : (S6, PySem.W.listOf us6.toArray 0) ∈ N1 := by rw [← hN1]; exact .head _
  with_unfolding_all refine' iter_listTurns (lo := PySem.W.listOf us6.toArray 0) (vs := us6) (by rfl) F9 N9 mS6 (by rfl) rfl ?_
  intro I lI
  refine list_inv (J := fun rem m' news' => news' = N1 ∧ (Ex3 fun l mv t => An4 (IntsAre rem l) ((∀ x ∈ l, Builtin.Int.intBits x ≤ Bb)) (l.length ≤ 4) (An4 (Builtin.Int.intBits mv + Bb * l.length ≤ 5 + 4 * Bb) (m' (Str.ofString "moved") = some (.int mv t)) (m' (Str.ofString "more") = some (.int MO t1)) (m' (Str.ofString "less") = some (.int LE t2) ∧ m' (Str.ofString "first") = m (Str.ofString "first") ∧ m' (Str.ofString "rows") = m (Str.ofString "rows"))))) ?turn ?done _ _ _ ?start
  case start => exact ⟨rfl, ms6, MV, t3, hus6, hb6, hl6, by have := Nat.mul_le_mul_left Bb hl6; omega, hM3, hM1, hM2, hM4, hM5⟩
  case turn =>
    intro v r m1 news1 o9 h1 tk1 z9
    refine frz fun Gz fz => ?_
    obtain ⟨rfl, l, mv, t, hi, hb, hl, hmb, q3, q1, q2, q4, q5⟩ := z9
    refine fz ?_
    clear fz Gz
    revert hb hl hmb
    refine ints_uncons hi fun x tx l hi => ?_
    intro hb hl hmb F1 N1'
    change Fr g L _ _ at F1
    change News g L _ _ at N1'
    · clear F9 N9
      have hbx := hb x (.head _)
      simp only [List.length_cons] at hl hmb
      rw [Nat.mul_add, Nat.mul_one] at hmb
      ktr_unf
      with_reducible refine op_mul _ (mulOk (by omega)) rfl (fun t' tk => ?_)
      ktr_unf
      rename Fr _ _ _ _ => F9
      rename News _ _ _ _ => N9
      have hmm := intBits_mul_le (Nat.le_refl (Builtin.Int.intBits mv)) hbx
      refine ⟨_, _, _, _, rfl, F9, N9, fun p hp q hq => ?_, ⟨mS6, trivial⟩, rfl, l, mv * x, _, hi, fun y hy => hb y (.tail _ hy), by omega, by omega, rfl, q1, q2, q4, q5⟩
      rw [List.mem_singleton.mp hq]; exact Nat.ne_of_lt (lI p hp)
  case done =>
    intro m1 news1 h1 tk1 z9
    refine frz fun Gz fz => ?_
    obtain ⟨rfl, l, mv, t, hi, hb, hl, hmb, q3, q1, q2, q4, q5⟩ := z9
    refine fz ?_
    clear fz Gz
    intro F1 N1'
    change Fr g L _ _ at F1
    change News g L _ _ at N1'
    clear F9 N9
    subst hN1
    try (wtm_at "zthaw"; try dsimp only)
    refine hcont h1 tk1 m1 MO LE mv t1 t2 t hMO hLE (by omega) q1 q2 q3 q4 q5 F1 (Led.pack N1' (fun p hp => ?_) hT hO)
    refine ZSub.go ?_ p hp; wtm_at "zsub"
end
section
open PySem PySem.W PyProof.Rows PySem.Calls
local macro_rules | `(tactic| wtm_at "zst") => `(tactic| ((wtm_at "zbL"); (fail_if_success any_goals with_reducible (first | refine zs42 ?_ | refine zs36 ?_ | refine zs17 ?_ | refine zs38 ?_ | refine zs39 ?_))))
local macro_rules | `(tactic| ktr_unf) => `(tactic| repeat ((wtm_at "zst"); (wtm_at "zw4")))
local macro_rules | `(tactic| kn_code) => `(tactic| repeat ((wtm_at "z34"); (wtm_at "zst"); (wtm_at "zw4")))
local macro_rules | `(tactic| walk_at "eval Name") => `(tactic| wtm_at "zy1")
local macro_rules | `(tactic| kn_hit) => `(tactic| wtm_at "zy4")
local macro_rules | `(tactic| walk_at "eval Name") => `(tactic| wtm_at "zy6")
local macro_rules | `(tactic| walk_at "callWith") => `(tactic| wtm_at "zy7")
section
variable {prog : Program} {w : World} {A : Around} {E : Value → Shared → Prop} {s : Shared} {env : Env} {h₀ : Heap} {target : Expr} {body : List Stmt} {Q : Flow → Shared → Prop}
/-- a loop down a tuple -/
theorem tup_inv {I : Addr} {keep : List (Addr × Obj)} (J : List Value → (Str → Option Value) → List (Addr × Obj) → Prop)
    (turn : ∀ v r m news o1 h tk, J (v :: r) m news → Fr h₀ env.locals h m → News h₀ env.locals h ((I, o1) :: news) →
      wpAny (model prog w) A (assign target env v) (fun _ s₂ => wpAny (model prog w) A (execs body env) (UnrPostW h₀ env.locals { s with heap := h, toks := tk } [(I, o1)] (fun m' n' => SubL keep n' ∧ J r m' n') Q) E s₂) E { s with heap := h, toks := tk })
    (done : ∀ m news h tk, J [] m news → Fr h₀ env.locals h m → News h₀ env.locals h news → Q .next { s with heap := h, toks := tk }) :
    ∀ (vs : List Value) (m : Str → Option Value) (news : List (Addr × Obj)), J vs m news → ItemsRest prog w A E h₀ env target body Q s [(I, "tuple_iterator")] keep (vs.map .val) m news
  | [], m, news, hJ => ItemsRest.zero fun h tk F N => done m news h tk hJ F N
  | v :: r, m, news, hJ => ItemsRest.val fun h tk F => AllObj.cons fun o1 _ => AllObj.nil fun N =>
    wpAny_mono (turn v r m news o1 h tk hJ F N) (fun _ s₂ hp => wpAny_mono hp (fun f s₃ hq => unrPostW_mono (fun m' n' hr => ⟨hr.1, tup_inv J turn done r m' n' hr.2⟩) hq) fun _ _ e => e) fun _ _ e => e
end
/-- a candidate that lies in the ledger -/
def Cand (vs : List Int) (R : List (Addr × Obj)) (v : Value) : Prop := Ex6 fun A z1 z2 t u e => v = .ref A ∧ (A, W.listOf [.int z1 t, .int z2 u].toArray e) ∈ R ∧ ∀ d ∈ vs, 0 < d ∧ Fit z1 d ∧ Fit z2 d
set_option maxRecDepth 100000 in
set_option maxHeartbeats 8000000 in
theorem seg11 (w : World) (o : Obj) (dp un : Nat) (gd : Option (List Code)) (L a : Addr) (cd : Value) (outer : List Env) (A₀ : Around) (base g : Heap) (p : Program) (loose : List Str) (mean : ExcName → Option Value) (mg mb : Str → Option Value) (Q : Flow → Shared → Prop) (s : Shared) (m : Str → Option Value)
    (G : Grd w o dp un outer A₀ base g p loose mean mg mb) (o5 o6 o7 : Obj) (k : Six) (P g0 g1 v1 v2 v3 v4 MO LE MV x0 y0 : Int) (tp u1 u2 u3 u4 tc0 tc1 t1 t2 t3 : Tok) (FI DI CO RO R0 R1 : Addr) (er : Nat) (R : List (Addr × Obj)) (d5 : o5.data = .cell (some (.ref DI))) (d6 : o6.data = .cell (some (.int P tp))) (d7 : o7.data = .cell (some (.ref CO))) (hk6 : k.Small) (hP : 0 < P)
    (hMO : Builtin.Int.intBits MO ≤ 5) (hLE : Builtin.Int.intBits LE ≤ 5) (hv : ∀ d ∈ [v1, v2, v3, v4], 0 < d ∧ (Fit (g0 + MO * P) d ∧ Fit (g1 + LE * P) d) ∧ (Fit g1 d ∧ Fit g0 d) ∧ (Fit (g0 + MV) d ∧ Fit g1 d))
    (htell : ∀ z1 z2, tells k z1 z2 x0 y0 [v1, v2, v3, v4] = (decide ((z1 - g0) % P = 0) && decide ((z2 - g1) % P = 0)))
    (hm1 : m (Str.ofString "more") = some (.int MO t1)) (hm2 : m (Str.ofString "less") = some (.int LE t2)) (hm3 : m (Str.ofString "moved") = some (.int MV t3)) (hm4 : m (Str.ofString "first") = some (.ref FI)) (hm5 : m (Str.ofString "rows") = some (.ref RO))
    (F : Fr g L s.heap m) (Ld : Led g L s.heap ((L + 1 + 1 + 1 + 1 + 1 + 1 + 1, o7) :: (CO, W.listOf [Value.int g0 tc0, Value.int g1 tc1].toArray 2) :: (L + 1 + 1 + 1 + 1 + 1, o5) :: (L + 1 + 1 + 1 + 1 + 1 + 1, o6) :: (DI, W.listOf [Value.int v1 u1, Value.int v2 u2, Value.int v3 u3, Value.int v4 u4].toArray 4) :: R)) (hFI : PairAt x0 y0 FI R) (hRO : (RO, W.listOf [Value.ref R0, Value.ref R1].toArray er) ∈ R) (hR0 : RowAt k.a k.b k.c R0 R) (hR1 : RowAt k.d k.e k.f R1 R)
    (hcont : ∀ h' tk' m' R', Fr g L h' m' → Led g L h' R' → Q (.ret (.bool true)) { s with heap := h', toks := tk' }) : LawAt w o dp un gd L a cd outer 14 Q s := by
  refine frz fun Gz fz => ?_
  obtain ⟨ho, B, X, T, hC1, hC2, hd', hu⟩ := G
  refine fz ?_
  clear fz Gz
  unfold LawAt
  revert ho
  k_fill
  intro ho
  refine' litO ho ?h ?_
  case h => k_is
  intro e
  subst e
  clear ho
  dsimp only [lawBody, lawScope, lawEnv, lawTop, List.drop]
  have N := Ld.rest
  refine frz fun Gz fz => ?_
  obtain ⟨ps, c, o, qs, d, u, N9, hT, hO⟩ := Ld
  refine fz ?_
  clear fz Gz
  clear N
  have N9' := news_of (l' := (L + 1 + 1 + 1 + 1 + 1 + 1 + 1, o7) :: (CO, PySem.W.listOf [Value.int g0 tc0, Value.int g1 tc1].toArray 2) :: (L + 1 + 1 + 1 + 1 + 1, o5) :: (L + 1 + 1 + 1 + 1 + 1 + 1, o6) :: (30, tabObj ps) :: (c, o) :: (37, tabObj qs) :: (d, u) :: (L + 1 + 1 + 1 + 1 + 1 + 1 + 1, o7) :: (CO, PySem.W.listOf [Value.int g0 tc0, Value.int g1 tc1].toArray 2) :: (L + 1 + 1 + 1 + 1 + 1, o5) :: (L + 1 + 1 + 1 + 1 + 1 + 1, o6) :: (DI, PySem.W.listOf [Value.int v1 u1, Value.int v2 u2, Value.int v3 u3, Value.int v4 u4].toArray 4) :: R) N9 (fun p hp => by
    refine ZSub.go ?_ p hp; wtm_at "zsub")
  clear N9
  kn_code
  with_unfolding_all refine' For_turns F ?_
  ktr_unf
  kn_hit
  ktr_unf
  with_reducible refine op_mul _ (IntMulOk.of_left (Nat.le_trans hMO (by decide))) rfl (fun t' tk => ?_)
  ktr_unf
  kn_hit
  ktr_unf
  with_reducible refine op_mul _ (IntMulOk.of_left (Nat.le_trans hLE (by decide))) rfl (fun t' tk => ?_)
  ktr_unf
  rename Fr _ _ _ _ => F9
  rename News _ _ _ _ => N9
  k_dflt (refine' newList_K F9 N9 ?_)
  clear F9 N9
  intro A1 h' F9 N9 lA1
  ktr_unf
  kn_hit
  ktr_unf
  kn_hit
  ktr_unf
  rename Fr _ _ _ _ => F9
  rename News _ _ _ _ => N9
  k_dflt (refine' newList_K F9 N9 ?_)
  clear F9 N9
  intro A2 h' F9 N9 lA2
  ktr_unf
  kn_hit
  ktr_unf
  kn_hit
  ktr_unf
  rename Fr _ _ _ _ => F9
  rename News _ _ _ _ => N9
  k_dflt (refine' newList_K F9 N9 ?_)
  clear F9 N9
  intro A3 h' F9 N9 lA3
  ktr_unf
  rename Fr _ _ _ _ => F9
  rename News _ _ _ _ => N9
  rename_i TU h8 lTU
  refine frz fun Gz fz => ?_
  obtain ⟨q1, q2, q3, N8⟩ : ∃ q1 q2 q3, News g L _ ((TU, ({ cls := .type "tuple", data := .seq [Value.ref A1, Value.ref A2, Value.ref A3].toArray } : Obj)) :: (A3, PySem.W.listOf [Value.int (g0 + MV) q3, Value.int g1 tc1].toArray 0) :: (A2, PySem.W.listOf [Value.int g1 tc1, Value.int g0 tc0].toArray 0) :: (A1, PySem.W.listOf [Value.int (g0 + MO * P) q1, Value.int (g1 + LE * P) q2].toArray 0) :: (L + 1 + 1 + 1 + 1 + 1 + 1 + 1, o7) :: (CO, PySem.W.listOf [Value.int g0 tc0, Value.int g1 tc1].toArray 2) :: (L + 1 + 1 + 1 + 1 + 1, o5) :: (L + 1 + 1 + 1 + 1 + 1 + 1, o6) :: (30, tabObj ps) :: (c, o) :: (37, tabObj qs) :: (d, u) :: (L + 1 + 1 + 1 + 1 + 1 + 1 + 1, o7) :: (CO, PySem.W.listOf [Value.int g0 tc0, Value.int g1 tc1].toArray 2) :: (L + 1 + 1 + 1 + 1 + 1, o5) :: (L + 1 + 1 + 1 + 1 + 1 + 1, o6) :: (DI, PySem.W.listOf [Value.int v1 u1, Value.int v2 u2, Value.int v3 u3, Value.int v4 u4].toArray 4) :: R) := ⟨_, _, _, N9⟩
  refine fz ?_
  clear fz Gz
  clear N9
  have hO2 : OffT c d ((TU, ({ cls := .type "tuple", data := .seq [Value.ref A1, Value.ref A2, Value.ref A3].toArray } : Obj)) :: (A3, PySem.W.listOf [Value.int (g0 + MV) q3, Value.int g1 tc1].toArray 0) :: (A2, PySem.W.listOf [Value.int g1 tc1, Value.int g0 tc0].toArray 0) :: (A1, PySem.W.listOf [Value.int (g0 + MO * P) q1, Value.int (g1 + LE * P) q2].toArray 0) :: (L + 1 + 1 + 1 + 1 + 1 + 1 + 1, o7) :: (CO, PySem.W.listOf [Value.int g0 tc0, Value.int g1 tc1].toArray 2) :: (L + 1 + 1 + 1 + 1 + 1, o5) :: (L + 1 + 1 + 1 + 1 + 1 + 1, o6) :: (DI, PySem.W.listOf [Value.int v1 u1, Value.int v2 u2, Value.int v3 u3, Value.int v4 u4].toArray 4) :: R) :=
    OffT.lt lTU.2.2.2.2.2.2.2.1 lTU.2.2.2.2.2.2.2.2.2.1 lTU.2.2.2.2.2.2.2.2.1 lTU.2.2.2.2.2.2.2.2.2.2.1 (OffT.lt (lA3 _ (.tail _ (.tail _ (.tail _ (.tail _ (.tail _ (.tail _ (.head _)))))))) (lA3 _ (.tail _ (.tail _ (.tail _ (.tail _ (.tail _ (.tail _ (.tail _ (.tail _ (.head _)))))))))) (lA3 _ (.tail _ (.tail _ (.tail _ (.tail _ (.tail _ (.tail _ (.tail _ (.head _))))))))) (lA3 _ (.tail _ (.tail _ (.tail _ (.tail _ (.tail _ (.tail _ (.tail _ (.tail _ (.tail _ (.head _)))))))))))
      (OffT.lt (lA2 _ (.tail _ (.tail _ (.tail _ (.tail _ (.tail _ (.head _))))))) (lA2 _ (.tail _ (.tail _ (.tail _ (.tail _ (.tail _ (.tail _ (.tail _ (.head _))))))))) (lA2 _ (.tail _ (.tail _ (.tail _ (.tail _ (.tail _ (.tail _ (.head _)))))))) (lA2 _ (.tail _ (.tail _ (.tail _ (.tail _ (.tail _ (.tail _ (.tail _ (.tail _ (.head _))))))))))
        (OffT.lt (lA1 _ (.tail _ (.tail _ (.tail _ (.tail _ (.head _)))))) (lA1 _ (.tail _ (.tail _ (.tail _ (.tail _ (.tail _ (.tail _ (.head _)))))))) (lA1 _ (.tail _ (.tail _ (.tail _ (.tail _ (.tail _ (.head _))))))) (lA1 _ (.tail _ (.tail _ (.tail _ (.tail _ (.tail _ (.tail _ (.tail _ (.head _))))))))) hO)))
  generalize hR2 : (TU, ({ cls := .type "tuple", data := .seq [Value.ref A1, Value.ref A2, Value.ref A3].toArray } : Obj)) :: (A3, PySem.W.listOf [Value.int (g0 + MV) q3, Value.int g1 tc1].toArray 0) :: (A2, PySem.W.listOf [Value.int g1 tc1, Value.int g0 tc0].toArray 0) :: (A1, PySem.W.listOf [Value.int (g0 + MO * P) q1, Value.int (g1 + LE * P) q2].toArray 0) :: (L + 1 + 1 + 1 + 1 + 1 + 1 + 1, o7) :: (CO, PySem.W.listOf [Value.int g0 tc0, Value.int g1 tc1].toArray 2) :: (L + 1 + 1 + 1 + 1 + 1, o5) :: (L + 1 + 1 + 1 + 1 + 1 + 1, o6) :: (DI, PySem.W.listOf [Value.int v1 u1, Value.int v2 u2, Value.int v3 u3, Value.int v4 u4].toArray 4) :: R = R2 at hO2
  have N7 : News g L _ ((30, tabObj ps) :: (c, o) :: (37, tabObj qs) :: (d, u) :: R2) := news_of N8 (fun p hp => by
    rw [← hR2] at hp
    refine ZSub.go ?_ p hp; wtm_at "zsub")
  clear N8
  have mTU : (TU, ({ cls := .type "tuple", data := .seq [Value.ref A1, Value.ref A2, Value.ref A3].toArray } : Obj)) ∈ R2 := by rw [← hR2]; exact .head _
  have mA1 : (A1, PySem.W.listOf [Value.int (g0 + MO * P) q1, Value.int (g1 + LE * P) q2].toArray 0) ∈ R2 := by rw [← hR2]; repeat (first | with_reducible assumption | with_reducible exact List.mem_cons_self | with_reducible refine List.mem_cons_of_mem _ ?_)
  have mA2 : (A2, PySem.W.listOf [Value.int g1 tc1, Value.int g0 tc0].toArray 0) ∈ R2 := by rw [← hR2]; repeat (first | with_reducible assumption | with_reducible exact List.mem_cons_self | with_reducible refine List.mem_cons_of_mem _ ?_)
  have mA3 : (A3, PySem.W.listOf [Value.int (g0 + MV) q3, Value.int g1 tc1].toArray 0) ∈ R2 := by rw [← hR2]; repeat (first | with_reducible assumption | with_reducible exact List.mem_cons_self | with_reducible refine List.mem_cons_of_mem _ ?_)
  have mF : ∀ p ∈ ([(L + 1 + 1 + 1 + 1 + 1 + 1 + 1, o7), (CO, PySem.W.listOf [Value.int g0 tc0, Value.int g1 tc1].toArray 2), (L + 1 + 1 + 1 + 1 + 1, o5), (L + 1 + 1 + 1 + 1 + 1 + 1, o6)] : List (Addr × Obj)), p ∈ R2 := List.forall_mem_cons.mpr ⟨by rw [← hR2]; repeat (first | with_reducible assumption | with_reducible exact List.mem_cons_self | with_reducible refine List.mem_cons_of_mem _ ?_), List.forall_mem_cons.mpr ⟨by rw [← hR2]; repeat (first | with_reducible assumption | with_reducible exact List.mem_cons_self | with_reducible refine List.mem_cons_of_mem _ ?_), List.forall_mem_cons.mpr ⟨by rw [← hR2]; repeat (first | with_reducible assumption | with_reducible exact List.mem_cons_self | with_reducible refine List.mem_cons_of_mem _ ?_), List.forall_mem_cons.mpr ⟨by rw [← hR2]; repeat (first | with_reducible assumption | with_reducible exact List.mem_cons_self | with_reducible refine List.mem_cons_of_mem _ ?_), fun _ h => (nomatch h)⟩⟩⟩⟩
  have mDI : (DI, PySem.W.listOf [Value.int v1 u1, Value.int v2 u2, Value.int v3 u3, Value.int v4 u4].toArray 4) ∈ R2 := by rw [← hR2]; repeat (first | with_reducible assumption | with_reducible exact List.mem_cons_self | with_reducible refine List.mem_cons_of_mem _ ?_)
  have mR : ∀ p ∈ R, p ∈ R2 := fun p hp => by rw [← hR2]; exact .tail _ (.tail _ (.tail _ (.tail _ (.tail _ (.tail _ (.tail _ (.tail _ (.tail _ hp))))))))
  have hcand : ∀ v ∈ [Value.ref A1, Value.ref A2, Value.ref A3], Cand [v1, v2, v3, v4] R2 v := List.forall_mem_cons.mpr ⟨⟨A1, _, _, _, _, 0, rfl, mA1, fun d hd => ⟨(hv d hd).1, (hv d hd).2.1⟩⟩, List.forall_mem_cons.mpr ⟨⟨A2, _, _, _, _, 0, rfl, mA2, fun d hd => ⟨(hv d hd).1, (hv d hd).2.2.1⟩⟩, List.forall_mem_cons.mpr ⟨⟨A3, _, _, _, _, 0, rfl, mA3, fun d hd => ⟨(hv d hd).1, (hv d hd).2.2.2⟩⟩, fun _ h => (nomatch h)⟩⟩⟩
  with_unfolding_all refine' iter_tupTurns (lo := ({ cls := .type "tuple", data := .seq [Value.ref A1, Value.ref A2, Value.ref A3].toArray } : Obj)) (vs := [Value.ref A1, Value.ref A2, Value.ref A3]) (by rfl) F9 N7 (.tail _ (.tail _ (.tail _ (.tail _ mTU)))) (by rfl) rfl ?_
  intro I lI
  have lR2 : ∀ p ∈ R2, p.1 < I := fun p hp => lI p (.tail _ (.tail _ (.tail _ (.tail _ hp))))
  refine tup_inv (J := fun rem m' news' => Ex6 fun ps c o qs d u => An4 (news' = (30, tabObj ps) :: (c, o) :: (37, tabObj qs) :: (d, u) :: R2) (TabsOk ps c o qs d u) (OffT c d R2) (An4 (@Ne Nat c I) (@Ne Nat d I) ((∀ v ∈ rem, Cand [v1, v2, v3, v4] R2 v)) (m' (Str.ofString "first") = some (.ref FI) ∧ m' (Str.ofString "rows") = some (.ref RO)))) ?turn ?done _ _ _ ?start
  case start => exact ⟨ps, c, o, qs, d, u, rfl, hT, hO2, Nat.ne_of_lt (lI _ (.tail _ (.head _))), Nat.ne_of_lt (lI _ (.tail _ (.tail _ (.tail _ (.head _))))), hcand, hm4, hm5⟩
  case turn =>
    intro v r m1 news1 o1 h1 tk1 z9
    refine frz fun Gz fz => ?_
    obtain ⟨ps, c, o, qs, d, u, rfl, hT, hO2, nc, nd, hcd, hq4, hq5⟩ := z9
    refine fz ?_
    clear fz Gz
    intro F1 N1
    change Fr g L _ _ at F1
    change News g L _ _ at N1
    clear F9 N7
    refine frz fun Gz fz => ?_
    obtain ⟨A, z1, z2, tt1, tt2, ea, rfl, mA, hfz⟩ := hcd v (.head _)
    refine fz ?_
    clear fz Gz
    k_dflt (refine' kun_list F1 N1 (News.isList N1 ?zm) ?zh ?zl ?zs ?_; (case zm => exact .tail _ (.tail _ (.tail _ (.tail _ (.tail _ mA))))); (case zh => rfl); (case zl => rfl); (case zs => rfl))
    clear F1 N1
    intro h' F9 N9
    have N2 := news_of (l' := (L + 1 + 1 + 1 + 1 + 1 + 1 + 1, o7) :: (CO, PySem.W.listOf [Value.int g0 tc0, Value.int g1 tc1].toArray 2) :: (L + 1 + 1 + 1 + 1 + 1, o5) :: (L + 1 + 1 + 1 + 1 + 1 + 1, o6) :: (I, o1) :: (30, tabObj ps) :: (c, o) :: (37, tabObj qs) :: (d, u) :: R2) N9 (List.forall_mem_cons.mpr ⟨.tail _ (.tail _ (.tail _ (.tail _ (.tail _ (mF _ (.head _)))))), List.forall_mem_cons.mpr ⟨.tail _ (.tail _ (.tail _ (.tail _ (.tail _ (mF _ (.tail _ (.head _))))))), List.forall_mem_cons.mpr ⟨.tail _ (.tail _ (.tail _ (.tail _ (.tail _ (mF _ (.tail _ (.tail _ (.head _)))))))), List.forall_mem_cons.mpr ⟨.tail _ (.tail _ (.tail _ (.tail _ (.tail _ (mF _ (.tail _ (.tail _ (.tail _ (.head _))))))))), fun p hp => hp⟩⟩⟩⟩)
    clear N9
    k_dflt (refine assignInOrder_cons ?_)
    ktr_unf
    k_dflt (refine assignInOrder_cons ?_)
    ktr_unf
    k_dflt (refine assignInOrder_nil ?_)
    ktr_unf
    kn_hit
    ktr_unf
    with_reducible refine op_mod _ hP rfl (fun t5 tk5 => ?_)
    ktr_unf
    by_cases hz : (z1 - g0) % P = 0
    · with_reducible refine ite_pos (by simp [hz]) ?_
      ktr_unf
      kn_hit
      ktr_unf
      with_reducible refine op_mod _ hP rfl (fun t5 tk5 => ?_)
      ktr_unf
      rename Fr _ _ _ _ => F9
      rename News _ _ _ _ => N9
      k_dflt (refine' newList_K F9 N9 ?_)
      clear F9 N9
      intro QL h' F9 N9 lQ
      ktr_unf
      rename Fr _ _ _ _ => F9
      rename News _ _ _ _ => N9
      have hO5 : OffT c d ((QL, PySem.W.listOf [Value.int z1 tt1, Value.int z2 tt2].toArray 0) :: (I, o1) :: R2) := OffT.lt (lQ _ (.tail _ (.tail _ (.tail _ (.tail _ (.tail _ (.head _))))))) (lQ _ (.tail _ (.tail _ (.tail _ (.tail _ (.tail _ (.tail _ (.tail _ (.head _))))))))) (lQ _ (.tail _ (.tail _ (.tail _ (.tail _ (.tail _ (.tail _ (.head _)))))))) (lQ _ (.tail _ (.tail _ (.tail _ (.tail _ (.tail _ (.tail _ (.tail _ (.tail _ (.head _)))))))))) (OffT.cons ⟨Nat.ne_of_gt (lI _ (.head _)), Nat.ne_of_gt (lI _ (.tail _ (.tail _ (.head _)))), Ne.symm nc, Ne.symm nd⟩ hO2)
      have upR : ∀ p ∈ R, p ∈ (QL, PySem.W.listOf [Value.int z1 tt1, Value.int z2 tt2].toArray 0) :: (I, o1) :: R2 := fun p hp => .tail _ (.tail _ (mR p hp))
      with_reducible refine' CallsL.use (ct_tells w QL FI DI RO R0 R1 z1 z2 x0 y0 [Value.int v1 u1, Value.int v2 u2, Value.int v3 u3, Value.int v4 u4] [v1, v2, v3, v4] k 4 er (.cons _ _ (.cons _ _ (.cons _ _ (.cons _ _ .nil)))) hk6 rfl hfz) ?hA B F9 X (Led.pack (new := (QL, PySem.W.listOf [Value.int z1 tt1, Value.int z2 tt2].toArray 0) :: (I, o1) :: R2) N9 ?hs hT hO5) T ?hk hC1 hC2 ?hn ?h1 ?h2 ?_
      case hA => exact rfl
      case hk => exact rfl
      case hn =>
        refine frz fun Gz fz => ?_
        obtain ⟨fa, fb, fc, fm⟩ := hFI
        refine fz ?_
        clear fz Gz
        refine frz fun Gz fz => ?_
        obtain ⟨a0, a1, a2, a3, a4, a5, a6, a7, a8, a9, am⟩ := hR0
        refine fz ?_
        clear fz Gz
        refine frz fun Gz fz => ?_
        obtain ⟨b0, b1, b2, b3, b4, b5, b6, b7, b8, b9, bm⟩ := hR1
        refine fz ?_
        clear fz Gz
        exact ⟨⟨tt1, tt2, 0, .head _⟩, ⟨fa, fb, fc, upR _ fm⟩, .tail _ (.tail _ mDI), upR _ hRO, ⟨a0, a1, a2, a3, a4, a5, a6, a7, a8, a9, upR _ am⟩, ⟨b0, b1, b2, b3, b4, b5, b6, b7, b8, b9, upR _ bm⟩⟩
      case h1 => (show dp + _ < recursionLimit; omega)
      case h2 => (show un + 8 * _ < cLine; omega)
      case hs =>
        intro p hp
        refine ZSub.go ?_ p hp; wtm_at "zsub"
      clear F9 N9 hT hO2 nc nd
      rintro v9 new h' tk' F9 Ld9 ⟨rfl, rfl⟩ lt9
      refine frz fun Gz fz => ?_
      obtain ⟨ps, c, o, qs, d, u, N9, hT, hO9⟩ := Ld9
      refine fz ?_
      clear fz Gz
      simp only [List.nil_append] at N9 hO9
      have gI := hO9 _ (.tail _ (.head _))
      rw [htell z1 z2]
      ktr_unf
      with_reducible refine ite_neg (by by_cases h2 : (z2 - g1) % P = 0 <;> simp [hz, h2]) ?_
      ktr_unf
      rename Fr _ _ _ _ => F9
      rename News _ _ _ _ => N9
      refine ⟨_, _, _, (30, tabObj ps) :: (c, o) :: (37, tabObj qs) :: (d, u) :: R2, rfl, F9, news_of N9 (fun p hp => ?_), fun p hp q hq => ?_, ⟨.tail _ (.tail _ (.tail _ (.tail _ mTU))), trivial⟩, ps, c, o, qs, d, u, rfl, hT, hO9.sub (fun p hp => .tail _ (.tail _ hp)), Ne.symm gI.2.2.1, Ne.symm gI.2.2.2, fun v hv => hcd v (.tail _ hv), hq4, hq5⟩
      · simp only [List.cons_append, List.nil_append, List.mem_cons] at hp ⊢
        rcases hp with h | h | h | h | h | h
        · exact .inr (.inr (.inr (.inr (.inr (.inl h)))))
        · exact .inl h
        · exact .inr (.inl h)
        · exact .inr (.inr (.inl h))
        · exact .inr (.inr (.inr (.inl h)))
        · exact .inr (.inr (.inr (.inr (.inr (.inr h)))))
      · rw [List.mem_singleton.mp hq]
        simp only [List.mem_cons] at hp
        rcases hp with rfl | rfl | rfl | rfl | h
        · exact Ne.symm gI.1
        · exact Ne.symm gI.2.2.1
        · exact Ne.symm gI.2.1
        · exact Ne.symm gI.2.2.2
        · exact Nat.ne_of_lt (lR2 p h)
    · with_reducible refine ite_neg (by simp [hz]) ?_
      ktr_unf
      rename Fr _ _ _ _ => F9
      rename News _ _ _ _ => N9
      k_dflt (refine' newList_K F9 N9 ?_)
      clear F9 N9
      intro QL h' F9 N9 lQ
      ktr_unf
      rename Fr _ _ _ _ => F9
      rename News _ _ _ _ => N9
      have hO5 : OffT c d ((QL, PySem.W.listOf [Value.int z1 tt1, Value.int z2 tt2].toArray 0) :: (I, o1) :: R2) := OffT.lt (lQ _ (.tail _ (.tail _ (.tail _ (.tail _ (.tail _ (.head _))))))) (lQ _ (.tail _ (.tail _ (.tail _ (.tail _ (.tail _ (.tail _ (.tail _ (.head _))))))))) (lQ _ (.tail _ (.tail _ (.tail _ (.tail _ (.tail _ (.tail _ (.head _)))))))) (lQ _ (.tail _ (.tail _ (.tail _ (.tail _ (.tail _ (.tail _ (.tail _ (.tail _ (.head _)))))))))) (OffT.cons ⟨Nat.ne_of_gt (lI _ (.head _)), Nat.ne_of_gt (lI _ (.tail _ (.tail _ (.head _)))), Ne.symm nc, Ne.symm nd⟩ hO2)
      have upR : ∀ p ∈ R, p ∈ (QL, PySem.W.listOf [Value.int z1 tt1, Value.int z2 tt2].toArray 0) :: (I, o1) :: R2 := fun p hp => .tail _ (.tail _ (mR p hp))
      with_reducible refine' CallsL.use (ct_tells w QL FI DI RO R0 R1 z1 z2 x0 y0 [Value.int v1 u1, Value.int v2 u2, Value.int v3 u3, Value.int v4 u4] [v1, v2, v3, v4] k 4 er (.cons _ _ (.cons _ _ (.cons _ _ (.cons _ _ .nil)))) hk6 rfl hfz) ?hA B F9 X (Led.pack (new := (QL, PySem.W.listOf [Value.int z1 tt1, Value.int z2 tt2].toArray 0) :: (I, o1) :: R2) N9 ?hs hT hO5) T ?hk hC1 hC2 ?hn ?h1 ?h2 ?_
      case hA => exact rfl
      case hk => exact rfl
      case hn =>
        refine frz fun Gz fz => ?_
        obtain ⟨fa, fb, fc, fm⟩ := hFI
        refine fz ?_
        clear fz Gz
        refine frz fun Gz fz => ?_
        obtain ⟨a0, a1, a2, a3, a4, a5, a6, a7, a8, a9, am⟩ := hR0
        refine fz ?_
        clear fz Gz
        refine frz fun Gz fz => ?_
        obtain ⟨b0, b1, b2, b3, b4, b5, b6, b7, b8, b9, bm⟩ := hR1
        refine fz ?_
        clear fz Gz
        exact ⟨⟨tt1, tt2, 0, .head _⟩, ⟨fa, fb, fc, upR _ fm⟩, .tail _ (.tail _ mDI), upR _ hRO, ⟨a0, a1, a2, a3, a4, a5, a6, a7, a8, a9, upR _ am⟩, ⟨b0, b1, b2, b3, b4, b5, b6, b7, b8, b9, upR _ bm⟩⟩
      case h1 => (show dp + _ < recursionLimit; omega)
      case h2 => (show un + 8 * _ < cLine; omega)
      case hs =>
        intro p hp
        refine ZSub.go ?_ p hp; wtm_at "zsub"
      clear F9 N9 hT hO2 nc nd
      rintro v9 new h' tk' F9 Ld9 ⟨rfl, rfl⟩ lt9
      refine frz fun Gz fz => ?_
      obtain ⟨ps, c, o, qs, d, u, N9, hT, hO9⟩ := Ld9
      refine fz ?_
      clear fz Gz
      simp only [List.nil_append] at N9 hO9
      have gI := hO9 _ (.tail _ (.head _))
      rw [htell z1 z2]
      ktr_unf
      with_reducible refine ite_neg (by simp [hz]) ?_
      ktr_unf
      rename Fr _ _ _ _ => F9
      rename News _ _ _ _ => N9
      refine ⟨_, _, _, (30, tabObj ps) :: (c, o) :: (37, tabObj qs) :: (d, u) :: R2, rfl, F9, news_of N9 (fun p hp => ?_), fun p hp q hq => ?_, ⟨.tail _ (.tail _ (.tail _ (.tail _ mTU))), trivial⟩, ps, c, o, qs, d, u, rfl, hT, hO9.sub (fun p hp => .tail _ (.tail _ hp)), Ne.symm gI.2.2.1, Ne.symm gI.2.2.2, fun v hv => hcd v (.tail _ hv), hq4, hq5⟩
      · simp only [List.cons_append, List.nil_append, List.mem_cons] at hp ⊢
        rcases hp with h | h | h | h | h | h
        · exact .inr (.inr (.inr (.inr (.inr (.inl h)))))
        · exact .inl h
        · exact .inr (.inl h)
        · exact .inr (.inr (.inl h))
        · exact .inr (.inr (.inr (.inl h)))
        · exact .inr (.inr (.inr (.inr (.inr (.inr h)))))
      · rw [List.mem_singleton.mp hq]
        simp only [List.mem_cons] at hp
        rcases hp with rfl | rfl | rfl | rfl | h
        · exact Ne.symm gI.1
        · exact Ne.symm gI.2.2.1
        · exact Ne.symm gI.2.1
        · exact Ne.symm gI.2.2.2
        · exact Nat.ne_of_lt (lR2 p h)
  case done =>
    intro m1 news1 h1 tk1 z9
    refine frz fun Gz fz => ?_
    obtain ⟨ps, c, o, qs, d, u, rfl, hT, hO2, nc, nd, hcd, hq4, hq5⟩ := z9
    refine fz ?_
    clear fz Gz
    intro F1 N1
    change Fr g L _ _ at F1
    change News g L _ _ at N1
    clear F9 N7
    ktr_unf
    rename Fr _ _ _ _ => F9
    rename News _ _ _ _ => N9
    exact hcont _ _ _ _ F9 (Led.mk N9 hT hO2)
end
section
open PySem PySem.W PyProof.Rows PySem.Calls
section
variable (E : Int)
theorem wq1 : (-1 - 10 * E) * ((1 + 12 * 2 * E) * (1 + 12 * 3 * E) * (1 + 12 * 4 * E)) = 1 + (1 + 12 * 1 * E) * (-2 + -94 * E + -3696 * E * E + -34560 * E * E * E) := by grind
theorem wq2 : (8 + 96 * E) * ((1 + 12 * 1 * E) * (1 + 12 * 3 * E) * (1 + 12 * 4 * E)) = 1 + (1 + 12 * 2 * E) * (7 + 696 * E + 14400 * E * E + 82944 * E * E * E) := by grind
theorem wq3 : (-27 - 486 * E) * ((1 + 12 * 1 * E) * (1 + 12 * 2 * E) * (1 + 12 * 4 * E)) = 1 + (1 + 12 * 3 * E) * (-28 + -1746 * E + -32400 * E * E + -186624 * E * E * E) := by grind
theorem wq4 : (64 + 2560 * E) * ((1 + 12 * 1 * E) * (1 + 12 * 2 * E) * (1 + 12 * 3 * E)) = 1 + (1 + 12 * 4 * E) * (63 + 4144 * E + 86784 * E * E + 552960 * E * E * E) := by grind
end
/-- the sum that the coder makes, written out -/
theorem sum_eq (E n1 n2 n3 n4 : Int) : sumW (wts E) (dvs E) 0 0 [n1, n2, n3, n4] =
    n1 * (-1 - 10 * E) * (1 + 12 * 2 * E) * (1 + 12 * 3 * E) * (1 + 12 * 4 * E) + n2 * (8 + 96 * E) * (1 + 12 * 1 * E) * (1 + 12 * 3 * E) * (1 + 12 * 4 * E) +
    n3 * (-27 - 486 * E) * (1 + 12 * 1 * E) * (1 + 12 * 2 * E) * (1 + 12 * 4 * E) + n4 * (64 + 2560 * E) * (1 + 12 * 1 * E) * (1 + 12 * 2 * E) * (1 + 12 * 3 * E) := by
  simp [sumW, skipMul, wts, dvs, List.getD]
theorem mod_of {a n d q : Int} (h : a = n + d * q) (h0 : 0 ≤ n) (h1 : n < d) : a % d = n := by
  rw [h, Int.add_mul_emod_self_left, Int.emod_eq_of_lt h0 h1]
section
variable {E n1 n2 n3 n4 : Int}
theorem code1 (h0 : 0 ≤ n1) (h1 : n1 < 1 + 12 * 1 * E) : sumW (wts E) (dvs E) 0 0 [n1, n2, n3, n4] % (1 + 12 * 1 * E) = n1 := by
  refine mod_of (q := n1 * (-2 + -94 * E + -3696 * E * E + -34560 * E * E * E) + n2 * (8 + 96 * E) * (1 + 12 * 3 * E) * (1 + 12 * 4 * E) + n3 * (-27 - 486 * E) * (1 + 12 * 2 * E) * (1 + 12 * 4 * E) + n4 * (64 + 2560 * E) * (1 + 12 * 2 * E) * (1 + 12 * 3 * E)) ?_ h0 h1
  rw [sum_eq]
  grind
theorem code2 (h0 : 0 ≤ n2) (h1 : n2 < 1 + 12 * 2 * E) : sumW (wts E) (dvs E) 0 0 [n1, n2, n3, n4] % (1 + 12 * 2 * E) = n2 := by
  refine mod_of (q := n2 * (7 + 696 * E + 14400 * E * E + 82944 * E * E * E) + n1 * (-1 - 10 * E) * (1 + 12 * 3 * E) * (1 + 12 * 4 * E) + n3 * (-27 - 486 * E) * (1 + 12 * 1 * E) * (1 + 12 * 4 * E) + n4 * (64 + 2560 * E) * (1 + 12 * 1 * E) * (1 + 12 * 3 * E)) ?_ h0 h1
  rw [sum_eq]
  grind
theorem code3 (h0 : 0 ≤ n3) (h1 : n3 < 1 + 12 * 3 * E) : sumW (wts E) (dvs E) 0 0 [n1, n2, n3, n4] % (1 + 12 * 3 * E) = n3 := by
  refine mod_of (q := n3 * (-28 + -1746 * E + -32400 * E * E + -186624 * E * E * E) + n1 * (-1 - 10 * E) * (1 + 12 * 2 * E) * (1 + 12 * 4 * E) + n2 * (8 + 96 * E) * (1 + 12 * 1 * E) * (1 + 12 * 4 * E) + n4 * (64 + 2560 * E) * (1 + 12 * 1 * E) * (1 + 12 * 2 * E)) ?_ h0 h1
  rw [sum_eq]
  grind
theorem code4 (h0 : 0 ≤ n4) (h1 : n4 < 1 + 12 * 4 * E) : sumW (wts E) (dvs E) 0 0 [n1, n2, n3, n4] % (1 + 12 * 4 * E) = n4 := by
  refine mod_of (q := n4 * (63 + 4144 * E + 86784 * E * E + 552960 * E * E * E) + n1 * (-1 - 10 * E) * (1 + 12 * 2 * E) * (1 + 12 * 3 * E) + n2 * (8 + 96 * E) * (1 + 12 * 1 * E) * (1 + 12 * 3 * E) + n3 * (-27 - 486 * E) * (1 + 12 * 1 * E) * (1 + 12 * 2 * E)) ?_ h0 h1
  rw [sum_eq]
  grind
end
/-- the four divisors' product -/
def prd (E : Int) : Int := (1 + 12 * 1 * E) * (1 + 12 * 2 * E) * (1 + 12 * 3 * E) * (1 + 12 * 4 * E)
theorem dvd_pair {a b u v n : Int} (hb : a * u + b * v = 1) (h1 : a ∣ n) (h2 : b ∣ n) : a * b ∣ n := by
  obtain ⟨x, hx⟩ := h1
  obtain ⟨y, hy⟩ := h2
  refine ⟨y * u + x * v, ?_⟩
  have : n = n * (a * u + b * v) := by rw [hb, Int.mul_one]
  grind
theorem dvd_prd {E n : Int} (h1 : (1 + 12 * 1 * E) ∣ n) (h2 : (1 + 12 * 2 * E) ∣ n) (h3 : (1 + 12 * 3 * E) ∣ n) (h4 : (1 + 12 * 4 * E) ∣ n) : prd E ∣ n := by
  have w2 := wq2 E
  have w3 := wq3 E
  have w4 := wq4 E
  have a := dvd_pair (a := 1 + 12 * 1 * E) (b := 1 + 12 * 2 * E) (u := (8 + 96 * E) * ((1 + 12 * 3 * E) * (1 + 12 * 4 * E))) (v := -(7 + 696 * E + 14400 * E * E + 82944 * E * E * E)) (by grind) h1 h2
  have b := dvd_pair (a := (1 + 12 * 1 * E) * (1 + 12 * 2 * E)) (b := 1 + 12 * 3 * E) (u := (-27 - 486 * E) * (1 + 12 * 4 * E)) (v := -(-28 + -1746 * E + -32400 * E * E + -186624 * E * E * E)) (by grind) a h3
  exact dvd_pair (a := (1 + 12 * 1 * E) * (1 + 12 * 2 * E) * (1 + 12 * 3 * E)) (b := 1 + 12 * 4 * E) (u := 64 + 2560 * E) (v := -(63 + 4144 * E + 86784 * E * E + 552960 * E * E * E)) (by grind) b h4
end
section
open PySem PySem.W PyProof.Rows PySem.Calls
theorem same_iff {z g d : Int} : z % d = g % d ↔ d ∣ z - g := by
  rw [Int.emod_eq_emod_iff_emod_sub_eq_zero]
  exact Int.dvd_iff_emod_eq_zero.symm
theorem prd1 (E : Int) : (1 + 12 * 1 * E) ∣ prd E := ⟨(1 + 12 * 2 * E) * (1 + 12 * 3 * E) * (1 + 12 * 4 * E), by unfold prd; grind⟩
theorem prd2 (E : Int) : (1 + 12 * 2 * E) ∣ prd E := ⟨(1 + 12 * 1 * E) * (1 + 12 * 3 * E) * (1 + 12 * 4 * E), by unfold prd; grind⟩
theorem prd3 (E : Int) : (1 + 12 * 3 * E) ∣ prd E := ⟨(1 + 12 * 1 * E) * (1 + 12 * 2 * E) * (1 + 12 * 4 * E), by unfold prd; grind⟩
theorem prd4 (E : Int) : (1 + 12 * 4 * E) ∣ prd E := ⟨(1 + 12 * 1 * E) * (1 + 12 * 2 * E) * (1 + 12 * 3 * E), by unfold prd; grind⟩
theorem all_iff {E z g : Int} : (z % (1 + 12 * 1 * E) = g % (1 + 12 * 1 * E) ∧ z % (1 + 12 * 2 * E) = g % (1 + 12 * 2 * E) ∧ z % (1 + 12 * 3 * E) = g % (1 + 12 * 3 * E) ∧ z % (1 + 12 * 4 * E) = g % (1 + 12 * 4 * E)) ↔ (z - g) % prd E = 0 := by
  rw [same_iff, same_iff, same_iff, same_iff, ← Int.dvd_iff_emod_eq_zero]
  exact ⟨fun ⟨a, b, c, d⟩ => dvd_prd a b c d, fun h => ⟨Int.dvd_trans (prd1 E) h, Int.dvd_trans (prd2 E) h, Int.dvd_trans (prd3 E) h, Int.dvd_trans (prd4 E) h⟩⟩
theorem tells_eq (k : Six) {E g0 g1 x0 y0 x1 y1 x2 y2 x3 y3 : Int} (hx1 : x1 = k.one x0 y0) (hy1 : y1 = k.two x0 y0) (hx2 : x2 = k.one x1 y1) (hy2 : y2 = k.two x1 y1) (hx3 : x3 = k.one x2 y2) (hy3 : y3 = k.two x2 y2)
    (a0 : g0 % (1 + 12 * 1 * E) = x0) (b0 : g1 % (1 + 12 * 1 * E) = y0) (a1 : g0 % (1 + 12 * 2 * E) = x1) (b1 : g1 % (1 + 12 * 2 * E) = y1) (a2 : g0 % (1 + 12 * 3 * E) = x2) (b2 : g1 % (1 + 12 * 3 * E) = y2) (a3 : g0 % (1 + 12 * 4 * E) = x3) (b3 : g1 % (1 + 12 * 4 * E) = y3) (z1 z2 : Int) :
    tells k z1 z2 x0 y0 [1 + 12 * 1 * E, 1 + 12 * 2 * E, 1 + 12 * 3 * E, 1 + 12 * 4 * E] = (decide ((z1 - g0) % prd E = 0) && decide ((z2 - g1) % prd E = 0)) := by
  have e1 := all_iff (E := E) (z := z1) (g := g0)
  have e2 := all_iff (E := E) (z := z2) (g := g1)
  rw [a0, a1, a2, a3] at e1
  rw [b0, b1, b2, b3] at e2
  have t : tells k z1 z2 x0 y0 [1 + 12 * 1 * E, 1 + 12 * 2 * E, 1 + 12 * 3 * E, 1 + 12 * 4 * E] = decide ((z1 % (1 + 12 * 1 * E) = x0 ∧ z2 % (1 + 12 * 1 * E) = y0) ∧ (z1 % (1 + 12 * 2 * E) = x1 ∧ z2 % (1 + 12 * 2 * E) = y1) ∧ (z1 % (1 + 12 * 3 * E) = x2 ∧ z2 % (1 + 12 * 3 * E) = y2) ∧ (z1 % (1 + 12 * 4 * E) = x3 ∧ z2 % (1 + 12 * 4 * E) = y3)) := by
    unfold tells
    rw [← hx1, ← hy1]
    unfold tells
    rw [← hx2, ← hy2]
    unfold tells
    rw [← hx3, ← hy3]
    unfold tells
    unfold tells
    by_cases c1 : z1 % (1 + 12 * 1 * E) = x0 ∧ z2 % (1 + 12 * 1 * E) = y0
    · rw [if_pos c1]
      by_cases c2 : z1 % (1 + 12 * 2 * E) = x1 ∧ z2 % (1 + 12 * 2 * E) = y1
      · rw [if_pos c2]
        by_cases c3 : z1 % (1 + 12 * 3 * E) = x2 ∧ z2 % (1 + 12 * 3 * E) = y2
        · rw [if_pos c3]
          by_cases c4 : z1 % (1 + 12 * 4 * E) = x3 ∧ z2 % (1 + 12 * 4 * E) = y3
          · rw [if_pos c4]; exact (decide_eq_true ⟨c1, c2, c3, c4⟩).symm
          · rw [if_neg c4]; exact (decide_eq_false fun h => c4 h.2.2.2).symm
        · rw [if_neg c3]; exact (decide_eq_false fun h => c3 h.2.2.1).symm
      · rw [if_neg c2]; exact (decide_eq_false fun h => c2 h.2.1).symm
    · rw [if_neg c1]; exact (decide_eq_false fun h => c1 h.1).symm
  rw [t, ← Bool.decide_and]
  apply decide_eq_decide.mpr
  rw [← e1, ← e2]
  exact ⟨fun ⟨⟨p1, q1⟩, ⟨p2, q2⟩, ⟨p3, q3⟩, ⟨p4, q4⟩⟩ => ⟨⟨p1, p2, p3, p4⟩, ⟨q1, q2, q3, q4⟩⟩, fun ⟨⟨p1, p2, p3, p4⟩, ⟨q1, q2, q3, q4⟩⟩ => ⟨⟨p1, q1⟩, ⟨p2, q2⟩, ⟨p3, q3⟩, ⟨p4, q4⟩⟩⟩
theorem abs_mono {x y : Int} (h0 : 0 ≤ x) (h : x ≤ y) : x.natAbs ≤ y.natAbs := by omega
theorem bits_mono {x y : Int} (h0 : 0 ≤ x) (h : x ≤ y) : Builtin.Int.intBits x ≤ Builtin.Int.intBits y := intBits_le_of_natAbs (y := y) (abs_mono h0 h) (Nat.le_refl _)
theorem ten_bits : Builtin.Int.intBits (10 ^ 1500) ≤ 4990 := by
  refine bits_le (Int.le_of_lt (Int.pow_pos (by decide))) ?_
  have h : (10 : Nat) ^ 1500 < 2 ^ 4990 := by decide +kernel
  have h2 := Int.ofNat_lt.mpr h
  rw [Int.natCast_pow, Int.natCast_pow] at h2
  exact h2
theorem one_bound {k : Six} (hk : k.Small) {x y : Int} (hx : 0 ≤ x) (hy : 0 ≤ y) : 0 ≤ k.one x y ∧ k.one x y ≤ 9 * x + 9 * y + 9 ∧ 0 ≤ k.two x y ∧ k.two x y ≤ 9 * x + 9 * y + 9 := by
  obtain ⟨ha, hb, hc, hd, he, hf⟩ := hk
  have up : ∀ {n : Nat} {z : Int}, n < 10 → 0 ≤ z → 0 ≤ (n : Int) * z ∧ (n : Int) * z ≤ 9 * z := fun {n z} hn hz => ⟨Int.mul_nonneg (by omega) hz, Int.mul_le_mul_of_nonneg_right (by omega) hz⟩
  have a1 := up ha hx
  have b1 := up hb hy
  have d1 := up hd hx
  have e1 := up he hy
  unfold Six.one Six.two
  refine ⟨?_, ?_, ?_, ?_⟩ <;> omega
end
section
open PySem PySem.W PyProof.Rows PySem.Calls
theorem nums {k : Six} (hk : k.Small) {M E x0 y0 x1 y1 x2 y2 x3 y3 : Int} (hM : Builtin.Int.intBits M ≤ 4990) (h0 : 0 ≤ x0 ∧ x0 < M) (h1 : 0 ≤ y0 ∧ y0 < M) (hx1 : x1 = k.one x0 y0) (hy1 : y1 = k.two x0 y0) (hx2 : x2 = k.one x1 y1) (hy2 : y2 = k.two x1 y1) (hx3 : x3 = k.one x2 y2) (hy3 : y3 = k.two x2 y2)
    (hE : E = 1 + [x0 + y0, x1 + y1, x2 + y2, x3 + y3].sum) : (∀ z ∈ [x0, x1, x2, x3], 0 ≤ z ∧ z < E) ∧ (∀ z ∈ [y0, y1, y2, y3], 0 ≤ z ∧ z < E) ∧ 1 ≤ E ∧ Builtin.Int.intBits E ≤ 5005 := by
  have b1 := one_bound hk h0.1 h1.1
  rw [← hx1, ← hy1] at b1
  have b2 := one_bound hk b1.1 b1.2.2.1
  rw [← hx2, ← hy2] at b2
  have b3 := one_bound hk b2.1 b2.2.2.1
  rw [← hx3, ← hy3] at b3
  have hs : [x0 + y0, x1 + y1, x2 + y2, x3 + y3].sum = x0 + y0 + (x1 + y1 + (x2 + y2 + (x3 + y3 + 0))) := rfl
  rw [hs] at hE
  clear hx1 hy1 hx2 hy2 hx3 hy3 hs
  have n0 := Int.add_nonneg h0.1 h1.1
  have n1 := Int.add_nonneg b1.1 b1.2.2.1
  have n2 := Int.add_nonneg b2.1 b2.2.2.1
  have n3 := Int.add_nonneg b3.1 b3.2.2.1
  have q3 : 0 ≤ x3 + y3 + 0 := by rw [Int.add_zero]; exact n3
  have q2 := Int.add_nonneg n2 q3
  have q1 := Int.add_nonneg n1 q2
  have l0 := Int.le_add_of_nonneg_right (a := x0 + y0) q1
  have l1 := Int.le_trans (Int.le_add_of_nonneg_right (a := x1 + y1) q2) (Int.le_add_of_nonneg_left n0)
  have l2 := Int.le_trans (Int.le_trans (Int.le_add_of_nonneg_right (a := x2 + y2) q3) (Int.le_add_of_nonneg_left n1)) (Int.le_add_of_nonneg_left n0)
  have l3 := Int.le_trans (Int.le_trans (Int.le_trans (Int.le_of_eq (Int.add_zero (x3 + y3)).symm) (Int.le_add_of_nonneg_left n2)) (Int.le_add_of_nonneg_left n1)) (Int.le_add_of_nonneg_left n0)
  have hE1 : 1 ≤ E := hE ▸ Int.le_add_of_nonneg_right (Int.add_nonneg n0 q1)
  have up : ∀ {x y : Int}, 0 ≤ x → 0 ≤ y → x + y ≤ x0 + y0 + (x1 + y1 + (x2 + y2 + (x3 + y3 + 0))) → (0 ≤ x ∧ x < E) ∧ (0 ≤ y ∧ y < E) := fun hx hy h =>
    have g : _ < E := hE ▸ (Int.add_comm 1 _) ▸ Int.lt_add_one_of_le h
    ⟨⟨hx, Int.lt_of_le_of_lt (Int.le_add_of_nonneg_right hy) g⟩, ⟨hy, Int.lt_of_le_of_lt (Int.le_add_of_nonneg_left hx) g⟩⟩
  have u0 := up h0.1 h1.1 l0
  have u1 := up b1.1 b1.2.2.1 l1
  have u2 := up b2.1 b2.2.2.1 l2
  have u3 := up b3.1 b3.2.2.1 l3
  refine ⟨?_, ?_, hE1, ?_⟩
  · exact List.forall_mem_cons.mpr ⟨u0.1, List.forall_mem_cons.mpr ⟨u1.1, List.forall_mem_cons.mpr ⟨u2.1, List.forall_mem_cons.mpr ⟨u3.1, fun _ h => nomatch h⟩⟩⟩⟩
  · exact List.forall_mem_cons.mpr ⟨u0.2, List.forall_mem_cons.mpr ⟨u1.2, List.forall_mem_cons.mpr ⟨u2.2, List.forall_mem_cons.mpr ⟨u3.2, fun _ h => nomatch h⟩⟩⟩⟩
  · have h : E ≤ 16384 * M := by omega
    exact Nat.le_trans (bits_mono (by omega) h) (Nat.le_trans (intBits_mul_le (show Builtin.Int.intBits 16384 ≤ 15 by decide) hM) (by decide))
/-- the least divisor's bits bound all the rest -/
theorem dbits {E : Int} (hE : 1 ≤ E) (hb : Builtin.Int.intBits E ≤ 5005) : (4 ≤ Builtin.Int.intBits (1 + 12 * 1 * E) ∧ Builtin.Int.intBits (1 + 12 * 1 * E) ≤ 5012) ∧
    ∀ d ∈ dvs E, 0 < d ∧ Builtin.Int.intBits (1 + 12 * 1 * E) ≤ Builtin.Int.intBits d ∧ Builtin.Int.intBits d ≤ Builtin.Int.intBits (1 + 12 * 1 * E) + 3 := by
  have e13 : Builtin.Int.intBits 13 = 4 := by decide
  refine ⟨⟨?_, ?_⟩, ?_⟩
  · rw [← e13]; exact bits_mono (by decide) (by omega)
  · exact Nat.le_trans (intBits_add_le (m := 1) (n := 4 + 5005) (by decide) (intBits_mul_le (show Builtin.Int.intBits (12 * 1) ≤ 4 by decide) hb)) (by decide)
  · have up : ∀ d, 1 + 12 * 1 * E ≤ d → d ≤ 4 * (1 + 12 * 1 * E) → 0 < d ∧ Builtin.Int.intBits (1 + 12 * 1 * E) ≤ Builtin.Int.intBits d ∧ Builtin.Int.intBits d ≤ Builtin.Int.intBits (1 + 12 * 1 * E) + 3 := fun d h1 h2 => by
      refine ⟨by omega, bits_mono (by omega) h1, ?_⟩
      have h3 := bits_mono (by omega) h2
      have h4 := intBits_mul_le (show Builtin.Int.intBits 4 ≤ 3 by decide) (Nat.le_refl (Builtin.Int.intBits (1 + 12 * 1 * E)))
      omega
    exact List.forall_mem_cons.mpr ⟨up _ (by omega) (by omega), List.forall_mem_cons.mpr ⟨up _ (by omega) (by omega), List.forall_mem_cons.mpr ⟨up _ (by omega) (by omega), List.forall_mem_cons.mpr ⟨up _ (by omega) (by omega), fun _ h => (nomatch h)⟩⟩⟩⟩
theorem prd_pos {E : Int} (hE : 1 ≤ E) : 0 < prd E := Int.mul_pos (Int.mul_pos (Int.mul_pos (by omega) (by omega)) (by omega)) (by omega)
theorem prd_bits {E : Int} (hE : 1 ≤ E) (hb : Builtin.Int.intBits E ≤ 5005) : Builtin.Int.intBits (1 + 12 * 1 * E) ≤ Builtin.Int.intBits (prd E) ∧ Builtin.Int.intBits (prd E) ≤ 4 * Builtin.Int.intBits (1 + 12 * 1 * E) + 9 := by
  obtain ⟨-, h⟩ := dbits hE hb
  have h2 := h (1 + 12 * 2 * E) (by simp [dvs])
  have h3 := h (1 + 12 * 3 * E) (by simp [dvs])
  have h4 := h (1 + 12 * 4 * E) (by simp [dvs])
  constructor
  · exact bits_mono (by omega) (Int.le_of_dvd (prd_pos hE) (prd1 E))
  · have := intBits_mul_le (intBits_mul_le (intBits_mul_le (Nat.le_refl (Builtin.Int.intBits (1 + 12 * 1 * E))) h2.2.2) h3.2.2) h4.2.2
    unfold prd
    omega
theorem mxb {a c B : Nat} (ha : a ≤ 12) (hc : c ≤ 12) : max a (c + B) + 1 ≤ B + 13 := by omega
theorem sum_fit {E n1 n2 n3 n4 : Int} (hE : 1 ≤ E) (hb : Builtin.Int.intBits E ≤ 5005) (hn : ∀ z ∈ [n1, n2, n3, n4], 0 ≤ z ∧ z < E) : Fit (sumW (wts E) (dvs E) 0 0 [n1, n2, n3, n4]) (prd E) := by
  obtain ⟨⟨hb4, hb5⟩, hd⟩ := dbits hE hb
  have hp := prd_bits hE hb
  have hEb : Builtin.Int.intBits E ≤ Builtin.Int.intBits (1 + 12 * 1 * E) := bits_mono (by omega) (by omega)
  generalize hB : Builtin.Int.intBits (1 + 12 * 1 * E) = B at *
  have hD : ∀ d ∈ dvs E, Builtin.Int.intBits d ≤ B + 3 := fun d h => (hd d h).2.2
  have term : ∀ (i : Nat) (n w : Int), 0 ≤ n → n < E → Builtin.Int.intBits w ≤ B + 13 → Builtin.Int.intBits (skipMul (i : Int) 0 (n * w) (dvs E)) ≤ 6 * B + 25 := fun i n w h0 h1 hw => by
    have h2 := intBits_mul_le (Nat.le_trans (bits_mono h0 (Int.le_of_lt h1)) hEb) hw
    have h3 := skip_bits (i : Int) (dvs E) 0 (n * w) _ h2 hD
    have h4 : (dvs E).length = 4 := rfl
    rw [h4] at h3
    omega
  have w1 : Builtin.Int.intBits (-1 - 10 * E) ≤ B + 13 := Nat.le_trans (intBits_sub_le (m := 1) (n := 4 + B) (by decide) (intBits_mul_le (by decide) hEb)) (mxb (by decide) (by decide))
  have w2 : Builtin.Int.intBits (8 + 96 * E) ≤ B + 13 := Nat.le_trans (intBits_add_le (m := 4) (n := 7 + B) (by decide) (intBits_mul_le (by decide) hEb)) (mxb (by decide) (by decide))
  have w3 : Builtin.Int.intBits (-27 - 486 * E) ≤ B + 13 := Nat.le_trans (intBits_sub_le (m := 5) (n := 9 + B) (by decide) (intBits_mul_le (by decide) hEb)) (mxb (by decide) (by decide))
  have w4 : Builtin.Int.intBits (64 + 2560 * E) ≤ B + 13 := Nat.le_trans (intBits_add_le (m := 7) (n := 12 + B) (by decide) (intBits_mul_le (by decide) hEb)) (mxb (by decide) (by decide))
  have m1 := hn n1 (by simp)
  have m2 := hn n2 (by simp)
  have m3 := hn n3 (by simp)
  have m4 := hn n4 (by simp)
  have s1 := term 0 n1 _ m1.1 m1.2 w1
  have s2 := term 1 n2 _ m2.1 m2.2 w2
  have s3 := term 2 n3 _ m3.1 m3.2 w3
  have s4 := term 3 n4 _ m4.1 m4.2 w4
  have hs : Builtin.Int.intBits (sumW (wts E) (dvs E) 0 0 [n1, n2, n3, n4]) ≤ 6 * B + 29 := by
    show Builtin.Int.intBits (0 + skipMul ((0 : Nat) : Int) 0 (n1 * (-1 - 10 * E)) (dvs E) + skipMul ((1 : Nat) : Int) 0 (n2 * (8 + 96 * E)) (dvs E) + skipMul ((2 : Nat) : Int) 0 (n3 * (-27 - 486 * E)) (dvs E) + skipMul ((3 : Nat) : Int) 0 (n4 * (64 + 2560 * E)) (dvs E)) ≤ _
    rw [Int.zero_add]
    have t1 := intBits_add_le s1 s2
    have t2 := intBits_add_le t1 s3
    have t3 := intBits_add_le t2 s4
    omega
  exact ⟨by omega, by omega, by omega⟩
/-- what stays near the product fits every divisor -/
theorem near_fit {E z : Int} (hE : 1 ≤ E) (hb : Builtin.Int.intBits E ≤ 5005) (hz : Builtin.Int.intBits z ≤ 4 * Builtin.Int.intBits (1 + 12 * 1 * E) + 18) : ∀ d ∈ dvs E, 0 < d ∧ Fit z d := fun d hd => by
  obtain ⟨⟨hb4, hb5⟩, h⟩ := dbits hE hb
  have := h d hd
  exact ⟨this.1, by omega, by omega, by omega⟩
end
section
open PySem PySem.W PyProof.Rows PySem.Calls
theorem le1 {a b : Nat} (h : a ≤ b) : a ≤ b + 1 := Nat.le_succ_of_le h
theorem leP {L : Nat} (l : 37 < L ∧ 30 < L) : 37 + 1 ≤ L ∧ 30 + 1 ≤ L := l
theorem leQ {L : Nat} (l : 37 < L ∧ 30 < L) : 37 ≤ L ∧ 30 ≤ L := ⟨Nat.le_of_lt l.1, Nat.le_of_lt l.2⟩
theorem neX {B X k : Nat} (h : B < X) (e : k ≤ B) : X ≠ k := Nat.ne_of_gt (Nat.lt_of_le_of_lt e h)
theorem neG {a b : Nat} (h : b + 1 ≤ a) : a ≠ b := Nat.ne_of_gt h
theorem neL {a b : Nat} (h : a + 1 ≤ b) : a ≠ b := Nat.ne_of_lt h
theorem bb1 (b : Nat) : max (4 * b + 9) (4 * b + 14) + 1 ≤ 4 * b + 18 := by omega
theorem bb2 (b : Nat) : max (4 * b + 9) (5 + 4 * (b + 3)) + 1 ≤ 4 * b + 18 := by omega
theorem bb3 (b : Nat) : 5 + (4 * b + 9) ≤ 4 * b + 14 := by omega
theorem codes_at {E n1 n2 n3 n4 : Int} (hE : 1 ≤ E) (hn : ∀ z ∈ [n1, n2, n3, n4], 0 ≤ z ∧ z < E) :
    (0 ≤ codeOf E (prd E) [n1, n2, n3, n4] ∧ codeOf E (prd E) [n1, n2, n3, n4] < prd E) ∧ codeOf E (prd E) [n1, n2, n3, n4] % (1 + 12 * 1 * E) = n1 ∧ codeOf E (prd E) [n1, n2, n3, n4] % (1 + 12 * 2 * E) = n2 ∧
    codeOf E (prd E) [n1, n2, n3, n4] % (1 + 12 * 3 * E) = n3 ∧ codeOf E (prd E) [n1, n2, n3, n4] % (1 + 12 * 4 * E) = n4 := by
  have hp := prd_pos hE
  have h1 := hn n1 (by simp)
  have h2 := hn n2 (by simp)
  have h3 := hn n3 (by simp)
  have h4 := hn n4 (by simp)
  unfold codeOf
  refine ⟨⟨Int.emod_nonneg _ (Int.ne_of_gt hp), Int.emod_lt_of_pos _ hp⟩, ?_, ?_, ?_, ?_⟩
  · rw [Int.emod_emod_of_dvd _ (prd1 E)]; exact code1 h1.1 (by omega)
  · rw [Int.emod_emod_of_dvd _ (prd2 E)]; exact code2 h2.1 (by omega)
  · rw [Int.emod_emod_of_dvd _ (prd3 E)]; exact code3 h3.1 (by omega)
  · rw [Int.emod_emod_of_dvd _ (prd4 E)]; exact code4 h4.1 (by omega)
theorem code_bits {E n1 n2 n3 n4 : Int} (hE : 1 ≤ E) (hb : Builtin.Int.intBits E ≤ 5005) (hn : ∀ z ∈ [n1, n2, n3, n4], 0 ≤ z ∧ z < E) : Builtin.Int.intBits (codeOf E (prd E) [n1, n2, n3, n4]) ≤ 4 * Builtin.Int.intBits (1 + 12 * 1 * E) + 9 := by
  have h := (codes_at hE hn).1
  exact Nat.le_trans (bits_mono h.1 (Int.le_of_lt h.2)) (prd_bits hE hb).2
local macro_rules | `(tactic| wtm_at "zle") => `(tactic| repeat (first | exact Nat.le_refl _ | exact (leP (by with_reducible assumption)).1 | exact (leP (by with_reducible assumption)).2 | exact (leQ (by with_reducible assumption)).1 | exact (leQ (by with_reducible assumption)).2 | refine le1 ?_)) | `(tactic| wtm_at "zne") => `(tactic| first | (refine neX (by with_reducible assumption) ?_; wtm_at "zle"; done) | (refine neG ?_; wtm_at "zle"; done) | (refine neL ?_; wtm_at "zle"; done))
local macro_rules | `(tactic| omega) => `(tactic| with_reducible wtm_at "zne")
set_option maxRecDepth 100000 in
set_option maxHeartbeats 8000000 in
theorem law_all (w : World) (o : Obj) (dp un : Nat) (gd : Option (List Code)) (L a : Addr) (cd : Value) (outer : List Env) (A₀ : Around) (base g : Heap) (p : Program) (loose : List Str) (mean : ExcName → Option Value) (mg mb : Str → Option Value) (Q : Flow → Shared → Prop) (s : Shared) (m : Str → Option Value)
    (G : Grd w o dp un outer A₀ base g p loose mean mg mb) (o1 o2 o3 o4 o5 o6 o7 : Obj) (sc : Addr) (svs : List Value) (ns : List Int) (d1 : o1.data = .cell (some (.ref sc))) (d2 : o2.data = .cell none) (d3 : o3.data = .cell none) (d4 : o4.data = .cell none) (d5 : o5.data = .cell none) (d6 : o6.data = .cell none) (d7 : o7.data = .cell none)
    (hsc : g.IsList sc svs.toArray) (hns : IntsAre svs ns) (hln : ns.length ≤ 63) (l0 : @LT.lt Nat _ 37 L ∧ @LT.lt Nat _ 30 L) (F : Fr g L s.heap m)
    (N : News g L s.heap ((L + 1 + 1 + 1 + 1 + 1 + 1 + 1, o7) :: (L + 1 + 1 + 1 + 1 + 1 + 1, o6) :: (L + 1 + 1 + 1 + 1 + 1, o5) :: (L + 1 + 1 + 1 + 1, o4) :: (L + 1 + 1 + 1, o3) :: (L + 1 + 1, o2) :: (L + 1, o1) :: (37, tabObj #[]) :: (30, tabObj #[]) :: []))
    (hfin : ∀ h' tk' m' R', Fr g L h' m' → Led g L h' R' → Q (.ret (.bool true)) { s with heap := h', toks := tk' }) : LawAt w o dp un gd L a cd outer 0 Q s := by
  refine seg1 w o dp un gd L a cd outer A₀ base g p loose mean mg mb Q _ _ G o1 o2 o3 o4 o5 o6 o7 sc svs ns d1 d2 hsc hns hln l0 F N ?_
  clear N F d2
  intro h' tk' k CE cvs o2' hk hcv F1 N1 d2' lCE0
  have lCE : @LT.lt Nat _ (L + 1 + 1 + 1 + 1 + 1 + 1 + 1) CE := lCE0
  clear lCE0
  obtain ⟨t0, t1, t2, t3, t4, t5, rfl⟩ : ∃ t0 t1 t2 t3 t4 t5, cvs = [.int k.a t0, .int k.b t1, .int k.c t2, .int k.d t3, .int k.e t4, .int k.f t5] := by
    exact ints_inv hcv fun t0 _ h => ints_inv h fun t1 _ h => ints_inv h fun t2 _ h => ints_inv h fun t3 _ h => ints_inv h fun t4 _ h => ints_inv h fun t5 _ h => ints_nil h ⟨_, _, _, _, _, _, rfl⟩
  have N1' : News g L h' ((CE, W.listOf [.int k.a t0, .int k.b t1, .int k.c t2, .int k.d t3, .int k.e t4, .int k.f t5].toArray 6) :: (L + 1 + 1 + 1 + 1 + 1 + 1 + 1, o7) :: (L + 1 + 1 + 1 + 1 + 1 + 1, o6) :: (L + 1 + 1 + 1 + 1 + 1, o5) :: (L + 1 + 1 + 1 + 1, o4) :: (L + 1 + 1 + 1, o3) :: (L + 1 + 1, o2') :: (L + 1, o1) :: (37, tabObj #[]) :: (30, tabObj #[]) :: []) := N1
  clear N1 hcv
  refine seg2 w o dp un gd L a cd outer A₀ base g p loose mean mg mb Q _ _ G o1 ((CE, W.listOf [.int k.a t0, .int k.b t1, .int k.c t2, .int k.d t3, .int k.e t4, .int k.f t5].toArray 6) :: (L + 1 + 1 + 1 + 1 + 1 + 1 + 1, o7) :: (L + 1 + 1 + 1 + 1 + 1 + 1, o6) :: (L + 1 + 1 + 1 + 1 + 1, o5) :: (L + 1 + 1 + 1 + 1, o4) :: (L + 1 + 1 + 1, o3) :: (L + 1 + 1, o2') :: (37, tabObj #[]) :: (30, tabObj #[]) :: []) sc svs ns d1 hsc hns hln F1 (news_of N1' (by (refine ZSub.go ?_; wtm_at "zsub"))) ?_
  clear N1' F1
  intro h' tk' FI fvs x0 y0 hfv hx0 hy0 F2 N2 lFI
  k_lt lFI
  obtain ⟨tx, ty, rfl⟩ : ∃ tx ty, fvs = [.int x0 tx, .int y0 ty] := by
    exact ints_inv hfv fun t0 _ h => ints_inv h fun t1 _ h => ints_nil h ⟨_, _, rfl⟩
  have hxb : Builtin.Int.intBits x0 ≤ 4990 ∧ Builtin.Int.intBits y0 ≤ 4990 := ⟨Nat.le_trans (bits_mono hx0.1 (Int.le_of_lt hx0.2)) ten_bits, Nat.le_trans (bits_mono hy0.1 (Int.le_of_lt hy0.2)) ten_bits⟩
  have N2' : News g L h' ((FI, W.listOf [.int x0 tx, .int y0 ty].toArray 2) :: (L + 1, o1) :: (CE, W.listOf [.int k.a t0, .int k.b t1, .int k.c t2, .int k.d t3, .int k.e t4, .int k.f t5].toArray 6) :: (L + 1 + 1 + 1 + 1 + 1 + 1 + 1, o7) :: (L + 1 + 1 + 1 + 1 + 1 + 1, o6) :: (L + 1 + 1 + 1 + 1 + 1, o5) :: (L + 1 + 1 + 1 + 1, o4) :: (L + 1 + 1 + 1, o3) :: (L + 1 + 1, o2') :: (37, tabObj #[]) :: (30, tabObj #[]) :: []) := N2
  clear N2 hfv
  have f1 : @LT.lt Nat _ (L + 1 + 1 + 1) FI := lFI.2.2.2.2.2.2.1
  have f2 : @LT.lt Nat _ (L + 1 + 1 + 1 + 1 + 1 + 1 + 1) FI := lFI.2.2.1
  clear lFI
  refine seg3 w o dp un gd L a cd outer A₀ base g p loose mean mg mb Q _ _ G o2' o3 CE FI k t0 t1 t2 t3 t4 t5 tx ty x0 y0 6 2 hk ((L + 1 + 1 + 1 + 1 + 1 + 1 + 1, o7) :: (L + 1 + 1 + 1 + 1 + 1 + 1, o6) :: (L + 1 + 1 + 1 + 1 + 1, o5) :: (L + 1 + 1 + 1 + 1, o4) :: (L + 1, o1) :: (37, tabObj #[]) :: (30, tabObj #[]) :: []) d2' d3 (by (repeat (first | exact List.forall_mem_nil _ | refine List.forall_mem_cons.mpr ⟨by k_ne, ?_⟩))) ⟨by omega, by omega⟩ F2 rfl hxb (news_of N2' (by (refine ZSub.go ?_; wtm_at "zsub"))) ?_
  clear N2' F2 d3
  intro h' tk' m3 o3' LI L1 L2 L3 x1 y1 x2 y2 x3 y3 p1 q1 p2 q2 p3 q3 hx1 hy1 hx2 hy2 hx3 hy3 hm3 F3 N3 d3' lLI l1 l2 l3
  have f3 : @LT.lt Nat _ (L + 1 + 1 + 1 + 1 + 1 + 1 + 1) LI := lLI.2.2.2.2.1
  have f4 : @LT.lt Nat _ (L + 1 + 1 + 1 + 1 + 1 + 1 + 1) L1 := Nat.lt_trans f3 l1
  have f5 : @LT.lt Nat _ (L + 1 + 1 + 1 + 1 + 1 + 1 + 1) L2 := Nat.lt_trans f4 l2
  have f6 : @LT.lt Nat _ (L + 1 + 1 + 1 + 1 + 1 + 1 + 1) L3 := Nat.lt_trans f5 l3
  clear lLI l1 l2 l3
  refine seg4 w o dp un gd L a cd outer A₀ base g p loose mean mg mb Q _ _ G o2' CE k t0 t1 t2 t3 t4 t5 6 hk ((LI, W.listOf [Value.ref FI, Value.ref L1, Value.ref L2, Value.ref L3].toArray 3) :: (L + 1 + 1 + 1, o3') :: (FI, W.listOf [.int x0 tx, .int y0 ty].toArray 2) :: (L1, W.listOf [.int x1 p1, .int y1 q1].toArray 0) :: (L2, W.listOf [.int x2 p2, .int y2 q2].toArray 0) :: (L3, W.listOf [.int x3 p3, .int y3 q3].toArray 0) :: (L + 1 + 1 + 1 + 1 + 1 + 1 + 1, o7) :: (L + 1 + 1 + 1 + 1 + 1 + 1, o6) :: (L + 1 + 1 + 1 + 1 + 1, o5) :: (L + 1 + 1 + 1 + 1, o4) :: (L + 1, o1) :: (37, tabObj #[]) :: (30, tabObj #[]) :: []) d2' F3 (news_of N3 (by (refine ZSub.go ?_; wtm_at "zsub"))) ?_
  clear N3 F3
  intro h' tk' tt F4 N4
  refine seg5 w o dp un gd L a cd outer A₀ base g p loose mean mg mb Q _ _ G k hk ((L + 1 + 1 + 1 + 1, o4) :: (L + 1 + 1 + 1, o3') :: (LI, W.listOf [Value.ref FI, Value.ref L1, Value.ref L2, Value.ref L3].toArray 3) :: (FI, W.listOf [.int x0 tx, .int y0 ty].toArray 2) :: (L1, W.listOf [.int x1 p1, .int y1 q1].toArray 0) :: (L2, W.listOf [.int x2 p2, .int y2 q2].toArray 0) :: (L3, W.listOf [.int x3 p3, .int y3 q3].toArray 0) :: (L + 1 + 1 + 1 + 1 + 1, o5) :: (L + 1 + 1 + 1 + 1 + 1 + 1, o6) :: (L + 1 + 1 + 1 + 1 + 1 + 1 + 1, o7) :: (L + 1, o1) :: []) tt (if_pos rfl) F4 (Led.mk (ps := #[]) (c := 30) (o := tabObj #[]) (qs := #[]) (d := 37) (u := tabObj #[]) (news_of N4 (by (refine ZSub.go ?_; wtm_at "zsub"))) ⟨.inl ⟨rfl, rfl, rfl⟩, .inl ⟨rfl, rfl, rfl⟩, by decide, by decide⟩ (by unfold OffT; (repeat (first | exact List.forall_mem_nil _ | refine List.forall_mem_cons.mpr ⟨⟨by k_ne, by k_ne, by k_ne, by k_ne⟩, ?_⟩)))) ?_
  clear N4 F4
  intro h' tk' m5 SY svy esy hsy hm5 hmo F5 D5 lSY
  have f7 : @LT.lt Nat _ (L + 1 + 1 + 1 + 1 + 1 + 1 + 1) SY := lSY (L + 1 + 1 + 1 + 1 + 1 + 1 + 1, o7) (by (repeat (first | with_reducible exact List.mem_cons_self | with_reducible refine List.mem_cons_of_mem _ ?_)))
  clear lSY
  refine seg6 w o dp un gd L a cd outer A₀ base g p loose mean mg mb Q _ _ G k hk o3' o4 SY LI FI L1 L2 L3 svy x0 y0 x1 y1 x2 y2 x3 y3 tx ty p1 q1 p2 q2 p3 q3 2 esy ((L + 1 + 1 + 1 + 1 + 1, o5) :: (L + 1 + 1 + 1 + 1 + 1 + 1, o6) :: (L + 1 + 1 + 1 + 1 + 1 + 1 + 1, o7) :: (L + 1, o1) :: []) d3' d4 hsy hm5 F5 (D5.sub (by (refine ZSub.go ?_; wtm_at "zsub"))) (by (repeat (first | exact List.forall_mem_nil _ | refine List.forall_mem_cons.mpr ⟨by k_ne, ?_⟩))) ?_
  clear D5 F5 d4
  intro h' tk' o4' RO R0 R1 v0 v1 e0 e1 er E0 te hv0 hv1 hE F6 d4' D6 lRO
  have f8 : @LT.lt Nat _ (L + 1 + 1 + 1 + 1 + 1 + 1 + 1) RO := lRO _ List.mem_cons_self (L + 1 + 1 + 1 + 1 + 1 + 1 + 1, o7) (by (repeat (first | with_reducible exact List.mem_cons_self | with_reducible refine List.mem_cons_of_mem _ ?_)))
  have f9 : @LT.lt Nat _ (L + 1 + 1 + 1 + 1 + 1 + 1 + 1) R0 := lRO _ (List.mem_cons_of_mem _ List.mem_cons_self) (L + 1 + 1 + 1 + 1 + 1 + 1 + 1, o7) (by (repeat (first | with_reducible exact List.mem_cons_self | with_reducible refine List.mem_cons_of_mem _ ?_)))
  have f10 : @LT.lt Nat _ (L + 1 + 1 + 1 + 1 + 1 + 1 + 1) R1 := lRO _ (List.mem_cons_of_mem _ (List.mem_cons_of_mem _ List.mem_cons_self)) (L + 1 + 1 + 1 + 1 + 1 + 1 + 1, o7) (by (repeat (first | with_reducible exact List.mem_cons_self | with_reducible refine List.mem_cons_of_mem _ ?_)))
  clear lRO
  refine frz fun Gz fz => ?_
  obtain ⟨hxs, hys, hE1, hEb⟩ := nums hk ten_bits hx0 hy0 hx1 hy1 hx2 hy2 hx3 hy3 hE
  refine fz ?_
  clear fz Gz
  refine seg7 w o dp un gd L a cd outer A₀ base g p loose mean mg mb Q _ _ G o4' o5 o6 E0 te ((RO, W.listOf [Value.ref R0, Value.ref R1].toArray er) :: (R0, W.listOf v0.toArray e0) :: (R1, W.listOf v1.toArray e1) :: (L + 1 + 1 + 1, o3') :: (LI, W.listOf [Value.ref FI, Value.ref L1, Value.ref L2, Value.ref L3].toArray 3) :: (FI, W.listOf [.int x0 tx, .int y0 ty].toArray 2) :: (L1, W.listOf [.int x1 p1, .int y1 q1].toArray 0) :: (L2, W.listOf [.int x2 p2, .int y2 q2].toArray 0) :: (L3, W.listOf [.int x3 p3, .int y3 q3].toArray 0) :: (L + 1 + 1 + 1 + 1 + 1 + 1 + 1, o7) :: (L + 1, o1) :: []) d4' d5 d6 (Nat.le_trans hEb (by decide)) F6 (D6.sub (by (refine ZSub.go ?_; wtm_at "zsub"))) (by (repeat (first | exact List.forall_mem_nil _ | refine List.forall_mem_cons.mpr ⟨⟨by k_ne, by k_ne⟩, ?_⟩))) ?_
  clear D6 F6 d5 d6
  intro h' tk' o5' o6' DI u1 u2 u3 u4 P tp hP F7 d5' d6' D7 lDI
  have f11 : @LT.lt Nat _ (L + 1 + 1 + 1 + 1 + 1 + 1 + 1) DI := lDI (L + 1 + 1 + 1 + 1 + 1 + 1 + 1, o7) (by (repeat (first | with_reducible exact List.mem_cons_self | with_reducible refine List.mem_cons_of_mem _ ?_)))
  clear lDI
  obtain rfl : P = prd E0 := hP
  refine seg8 w o dp un gd L a cd outer A₀ base g p loose mean mg mb Q _ _ G o3' o4' o5' o6' o7 E0 (prd E0) te tp u1 u2 u3 u4 tx ty p1 q1 p2 q2 p3 q3 LI FI L1 L2 L3 DI x0 y0 x1 y1 x2 y2 x3 y3 2 ((RO, W.listOf [Value.ref R0, Value.ref R1].toArray er) :: (R0, W.listOf v0.toArray e0) :: (R1, W.listOf v1.toArray e1) :: (L + 1, o1) :: []) d3' d4' d5' d6' d7 (Nat.le_trans hEb (by decide)) (prd_pos hE1)
    (fun z hz => Nat.le_trans (bits_mono (hxs z hz).1 (Int.le_of_lt (hxs z hz).2)) (Nat.le_trans hEb (by decide))) (fun z hz => Nat.le_trans (bits_mono (hys z hz).1 (Int.le_of_lt (hys z hz).2)) (Nat.le_trans hEb (by decide))) (sum_fit hE1 hEb hxs) (sum_fit hE1 hEb hys)
    F7 (D7.sub (by (refine ZSub.go ?_; wtm_at "zsub"))) (by (repeat (first | exact List.forall_mem_nil _ | refine List.forall_mem_cons.mpr ⟨by k_ne, ?_⟩))) ?_
  clear D7 F7 d7
  intro h' tk' o7' CO tc0 tc1 F8 d7' D8 lCO
  clear lCO
  refine frz fun Gz fz => ?_
  obtain ⟨hg0, a0, a1, a2, a3⟩ := codes_at hE1 hxs
  refine fz ?_
  clear fz Gz
  refine frz fun Gz fz => ?_
  obtain ⟨hg1, b0, b1, b2, b3⟩ := codes_at hE1 hys
  refine fz ?_
  clear fz Gz
  have gb0 := code_bits hE1 hEb hxs
  have gb1 := code_bits hE1 hEb hys
  have near := fun z h => near_fit (z := z) hE1 hEb h
  have db := dbits hE1 hEb
  have pb := (prd_bits hE1 hEb).2
  refine seg9 w o dp un gd L a cd outer A₀ base g p loose mean mg mb Q _ _ G o3' o5' o6' o7' (prd E0) (codeOf E0 (prd E0) [x0, x1, x2, x3]) (codeOf E0 (prd E0) [y0, y1, y2, y3]) (1 + 12 * 1 * E0) (1 + 12 * 2 * E0) (1 + 12 * 3 * E0) (1 + 12 * 4 * E0) tp u1 u2 u3 u4 tc0 tc1 tx ty p1 q1 p2 q2 p3 q3 LI FI L1 L2 L3 DI CO x0 y0 x1 y1 x2 y2 x3 y3 2 ((RO, W.listOf [Value.ref R0, Value.ref R1].toArray er) :: (R0, W.listOf v0.toArray e0) :: (R1, W.listOf v1.toArray e1) :: (L + 1, o1) :: []) d3' d5' d6' d7' hg0 hg1
    (fun z hz => ⟨(near _ (Nat.le_trans gb0 (Nat.add_le_add_left (by decide) _)) z hz).1, (near _ (Nat.le_trans gb0 (Nat.add_le_add_left (by decide) _)) z hz).2, (near _ (Nat.le_trans gb1 (Nat.add_le_add_left (by decide) _)) z hz).2⟩) (by rw [a0, a1, a2, a3, b0, b1, b2, b3]) F8 (D8.sub (by (refine ZSub.go ?_; wtm_at "zsub"))) ?_
  clear D8 F8
  intro h' tk' F9 D9
  refine seg10 w o dp un gd L a cd outer A₀ base g p loose mean mg mb Q _ _ G o1 o5' sc DI svs ns (1 + 12 * 1 * E0) (1 + 12 * 2 * E0) (1 + 12 * 3 * E0) (1 + 12 * 4 * E0) u1 u2 u3 u4 ((L + 1 + 1 + 1 + 1 + 1 + 1 + 1, o7') :: (CO, W.listOf [Value.int (codeOf E0 (prd E0) [x0, x1, x2, x3]) tc0, Value.int (codeOf E0 (prd E0) [y0, y1, y2, y3]) tc1].toArray 2) :: (L + 1 + 1 + 1 + 1 + 1 + 1, o6') :: (FI, W.listOf [.int x0 tx, .int y0 ty].toArray 2) :: (RO, W.listOf [Value.ref R0, Value.ref R1].toArray er) :: (R0, W.listOf v0.toArray e0) :: (R1, W.listOf v1.toArray e1) :: []) d1 d5' hsc hns hln (Builtin.Int.intBits (1 + 12 * 1 * E0) + 3) (fun z hz => (db.2 z hz).2.2) (by omega) F9 (D9.sub (by (refine ZSub.go ?_; wtm_at "zsub"))) ?_
  clear D9 F9
  intro h' tk' m10 MO LE MV s1 s2 s3 hMO hLE hMV hm11 hm12 hm13 hmf hmr F10 D10
  have pm : ∀ z : Int, Builtin.Int.intBits z ≤ 5 → Builtin.Int.intBits (z * prd E0) ≤ 4 * Builtin.Int.intBits (1 + 12 * 1 * E0) + 14 := fun z hz => Nat.le_trans (intBits_mul_le hz pb) (bb3 _)
  have h0 : Builtin.Int.intBits (codeOf E0 (prd E0) [x0, x1, x2, x3] + MO * prd E0) ≤ 4 * Builtin.Int.intBits (1 + 12 * 1 * E0) + 18 := Nat.le_trans (intBits_add_le gb0 (pm MO hMO)) (bb1 _)
  have h1 : Builtin.Int.intBits (codeOf E0 (prd E0) [y0, y1, y2, y3] + LE * prd E0) ≤ 4 * Builtin.Int.intBits (1 + 12 * 1 * E0) + 18 := Nat.le_trans (intBits_add_le gb1 (pm LE hLE)) (bb1 _)
  have h2 : Builtin.Int.intBits (codeOf E0 (prd E0) [x0, x1, x2, x3] + MV) ≤ 4 * Builtin.Int.intBits (1 + 12 * 1 * E0) + 18 := Nat.le_trans (intBits_add_le gb0 hMV) (bb2 _)
  refine seg11 w o dp un gd L a cd outer A₀ base g p loose mean mg mb Q _ _ G o5' o6' o7' k (prd E0) (codeOf E0 (prd E0) [x0, x1, x2, x3]) (codeOf E0 (prd E0) [y0, y1, y2, y3]) (1 + 12 * 1 * E0) (1 + 12 * 2 * E0) (1 + 12 * 3 * E0) (1 + 12 * 4 * E0) MO LE MV x0 y0 tp u1 u2 u3 u4 tc0 tc1 s1 s2 s3 FI DI CO RO R0 R1 er ((FI, W.listOf [.int x0 tx, .int y0 ty].toArray 2) :: (RO, W.listOf [Value.ref R0, Value.ref R1].toArray er) :: (R0, W.listOf v0.toArray e0) :: (R1, W.listOf v1.toArray e1) :: (L + 1, o1) :: []) d5' d6' d7' hk (prd_pos hE1) hMO hLE
    (fun z hz => ⟨(near _ h0 z hz).1, ⟨(near _ h0 z hz).2, (near _ h1 z hz).2⟩, ⟨(near _ (Nat.le_trans gb1 (Nat.add_le_add_left (by decide) _)) z hz).2, (near _ (Nat.le_trans gb0 (Nat.add_le_add_left (by decide) _)) z hz).2⟩, ⟨(near _ h2 z hz).2, (near _ (Nat.le_trans gb1 (Nat.add_le_add_left (by decide) _)) z hz).2⟩⟩)
    (tells_eq k hx1 hy1 hx2 hy2 hx3 hy3 a0 b0 a1 b1 a2 b2 a3 b3) hm11 hm12 hm13 (hmf.trans ((if_neg (by decide)).trans ((hmo _ (by decide) (by decide)).trans ((if_neg (by decide)).trans hm3)))) (hmr.trans (if_pos rfl)) F10 (D10.sub (by (refine ZSub.go ?_; wtm_at "zsub"))) ⟨tx, ty, 2, by (repeat (first | with_reducible exact List.mem_cons_self | with_reducible refine List.mem_cons_of_mem _ ?_))⟩ (by (repeat (first | with_reducible exact List.mem_cons_self | with_reducible refine List.mem_cons_of_mem _ ?_))) (row_at hv0 (by (repeat (first | with_reducible exact List.mem_cons_self | with_reducible refine List.mem_cons_of_mem _ ?_)))) (row_at hv1 (by (repeat (first | with_reducible exact List.mem_cons_self | with_reducible refine List.mem_cons_of_mem _ ?_)))) ?_
  intro h'' tk'' m' R' F D
  exact hfin h'' tk'' m' R' F D
end
section
local macro_rules | `(tactic| walk_at "none here") => `(tactic| fail)
open PySem PySem.W PyProof.Rows PySem.Calls
theorem seqO {K : Frag} {o : Obj} {G : Prop} (h : List.lookup 153 K = some o) (H : List.lookup 153 K = some o → G) : G := H h
theorem lawO {w : World} {o : Obj} {dp un : Nat} {gd : Option (List Code)} {L a : Addr} {cd : Value} {outer : List Env} {Q : Flow → Shared → Prop} {s : Shared} (ho : List.lookup 153 (hd.heap_39 w.params) = some o) (h : LawAt w o dp un gd L a cd outer 0 Q s) :
    wpAny (model PySem.Challenge.rw_wb0065_01.row.prog w) (lawTop o dp un gd L a cd outer) (execs (lawBody o) (lawEnv o L a cd)) Q (fun _ _ => False) s := h
set_option maxRecDepth 100000 in
set_option maxHeartbeats 8000000 in
theorem top : PySem.Challenge.rw_wb0065_01.Holds := hd (by
  k_go0
  rename News _ _ _ _ => N9
  rename Fr _ _ _ _ => F9
  rename World => w
  rename Top _ _ _ _ _ _ => T9
  rename Below _ _ _ _ => B9
  rename (hd.heap_39 w.params).In _ => X9
  rename _ ∧ _ => l9
  rename Heap.IsList _ _ _ => hl
  rename IntsAre _ _ => hI
  refine wpAny_noRaise ?_
  refine' seqO (K := hd.heap_39 w.params) ?h ?_
  case h => k_is
  intro ho
  refine lawO (dp := callerA.depth + 1) (un := callerA.units + 3) ho ?_
  refine law_all w _ _ _ _ _ _ _ _ callerA _ _ _ _ _ _ _ _ _ _ ⟨ho, B9, X9, T9, ?_, ?_, ?_, ?_⟩ _ _ _ _ _ _ _ _ _ _ ?d1 ?d2 ?d3 ?d4 ?d5 ?d6 ?d7 hl hI ?hn l9 F9 N9 ?fin
  all_goals (try assumption)
  case fin =>
    intro h' tk' m' R' F D
    obtain ⟨ps, c, o, qs, d, u, N, -⟩ := D
    refine ⟨?_, ?_⟩
    · clear N9 F9 N
      w_end
      (show GoodW _ _ _ _ _ (.ok (.ret (.bool _))) _)
      refine goodW_bool F (by assumption) (raisesW_false ?_) ?_
      · wrow_none_raised
      · wrow_post
    · exact ⟨GrownAt.of N (.tail _ (.tail _ (.head _))), GrownAt.of N (.head _), True.intro⟩
  case hn =>
    rename ¬ (_ : Int) < _ => hc
    exact Int.ofNat_le.mp (Int.not_lt.mp hc)
  all_goals decide)
end
end Mine
set_option maxRecDepth 100000 in
set_option maxHeartbeats 8000000 in
theorem PySem.Challenge.cw_wb0065_01_holds : PySem.Challenge.rw_wb0065_01.Holds := by
  exact Mine.top
