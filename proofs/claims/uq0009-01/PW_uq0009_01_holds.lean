import PyProof.Rows.All
import Wide.All
import OpenK.AllK
import Wide.FinOn
import PySem.Challenge.RW_uq0009_01
set_option Elab.async false
set_option maxRecDepth 100000
set_option linter.unusedVariables false
set_option genSizeOf false
section
open PySem PySem.W PyProof.Rows
set_option maxHeartbeats 8000000
namespace Mine
noncomputable abbrev hr : OpenRow := OpenLaw.row PySem.Challenge.rw_uq0009_01
noncomputable def stm (i : Nat) : Stmt := hr.prog.main.body[i]?.getD default
noncomputable def stmC (i j : Nat) : Stmt := match stm i with
  | .ClassDef _ _ _ b .. => b[j]?.getD default
  | _ => default
noncomputable def defn (s : Stmt) : DefRec := match s with
  | .FunctionDef n ps b _ _ _ sc _ _ pos => ⟨n, ps, b, sc, pos⟩
  | _ => ⟨Str.empty, default, [], default, default⟩
noncomputable def fo (s : Stmt) (q : String) (md : Value) (c : Addr) : Obj :=
  ⟨.type "function", none, .func { name := (defn s).name, qualname := Str.ofString q, params := (defn s).params, body := .stmts (defn s).body, scope := (defn s).scope, globals := 3, closure := [], defaults := .none, kwdefaults := .none, pyModule := md, code := .ref c }, #[]⟩
noncomputable def fc (s : Stmt) (q : String) : Obj :=
  ⟨.none, none, .func { name := (defn s).name, qualname := Str.ofString q, params := (defn s).params, body := .stmts (defn s).body, scope := (defn s).scope, globals := 0, closure := [], defaults := .none, kwdefaults := .none }, #[]⟩
noncomputable def ob2 (P : Params) : Obj := boot_o_2 P
noncomputable def ob3 (P : Params) : Obj := { cls := Value.type "dict", data := Data.dict #[{ hash := PyData.keyHash P (Str.ofString "__name__"), key := Value.str (Str.ofString "__name__") 165, val := Value.str (Str.ofString "law_uq0009_01") 512 }, { hash := PyData.keyHash P (Str.ofString "__doc__"), key := Value.str (Str.ofString "__doc__") 166, val := Value.none }, { hash := PyData.keyHash P (Str.ofString "__package__"), key := Value.str (Str.ofString "__package__") 167, val := Value.none }, { hash := PyData.keyHash P (Str.ofString "__loader__"), key := Value.str (Str.ofString "__loader__") 168, val := Value.builtin "__main__.__loader__#opaque" }, { hash := PyData.keyHash P (Str.ofString "__spec__"), key := Value.str (Str.ofString "__spec__") 169, val := Value.none }, { hash := PyData.keyHash P (Str.ofString "__annotations__"), key := Value.str (Str.ofString "__annotations__") 170, val := Value.ref 6 }, { hash := PyData.keyHash P (Str.ofString "__builtins__"), key := Value.str (Str.ofString "__builtins__") 171, val := Value.ref 4 }, { hash := PyData.keyHash P (Str.ofString "__file__"), key := Value.str (Str.ofString "__file__") 173, val := Value.str (Str.ofString "/claim/cut.py") 172 }, { hash := PyData.keyHash P (Str.ofString "__cached__"), key := Value.str (Str.ofString "__cached__") 174, val := Value.none }, { hash := PyData.keyHash P (Str.ofString "ENDMARKER"), key := Value.str (Str.ofString "ENDMARKER") 190, val := Value.int 0 189 }, { hash := PyData.keyHash P (Str.ofString "LPAR"), key := Value.str (Str.ofString "LPAR") 192, val := Value.int 7 191 }, { hash := PyData.keyHash P (Str.ofString "RPAR"), key := Value.str (Str.ofString "RPAR") 194, val := Value.int 8 193 }, { hash := PyData.keyHash P (Str.ofString "LSQB"), key := Value.str (Str.ofString "LSQB") 196, val := Value.int 9 195 }, { hash := PyData.keyHash P (Str.ofString "RSQB"), key := Value.str (Str.ofString "RSQB") 198, val := Value.int 10 197 }, { hash := PyData.keyHash P (Str.ofString "COLON"), key := Value.str (Str.ofString "COLON") 200, val := Value.int 11 199 }, { hash := PyData.keyHash P (Str.ofString "COMMA"), key := Value.str (Str.ofString "COMMA") 202, val := Value.int 12 201 }, { hash := PyData.keyHash P (Str.ofString "SEMI"), key := Value.str (Str.ofString "SEMI") 204, val := Value.int 13 203 }, { hash := PyData.keyHash P (Str.ofString "PLUS"), key := Value.str (Str.ofString "PLUS") 206, val := Value.int 14 205 }, { hash := PyData.keyHash P (Str.ofString "MINUS"), key := Value.str (Str.ofString "MINUS") 208, val := Value.int 15 207 }, { hash := PyData.keyHash P (Str.ofString "STAR"), key := Value.str (Str.ofString "STAR") 210, val := Value.int 16 209 }, { hash := PyData.keyHash P (Str.ofString "SLASH"), key := Value.str (Str.ofString "SLASH") 212, val := Value.int 17 211 }, { hash := PyData.keyHash P (Str.ofString "VBAR"), key := Value.str (Str.ofString "VBAR") 214, val := Value.int 18 213 }, { hash := PyData.keyHash P (Str.ofString "AMPER"), key := Value.str (Str.ofString "AMPER") 216, val := Value.int 19 215 }, { hash := PyData.keyHash P (Str.ofString "LESS"), key := Value.str (Str.ofString "LESS") 218, val := Value.int 20 217 }, { hash := PyData.keyHash P (Str.ofString "GREATER"), key := Value.str (Str.ofString "GREATER") 220, val := Value.int 21 219 }, { hash := PyData.keyHash P (Str.ofString "EQUAL"), key := Value.str (Str.ofString "EQUAL") 222, val := Value.int 22 221 }, { hash := PyData.keyHash P (Str.ofString "DOT"), key := Value.str (Str.ofString "DOT") 224, val := Value.int 23 223 }, { hash := PyData.keyHash P (Str.ofString "PERCENT"), key := Value.str (Str.ofString "PERCENT") 226, val := Value.int 24 225 }, { hash := PyData.keyHash P (Str.ofString "LBRACE"), key := Value.str (Str.ofString "LBRACE") 228, val := Value.int 25 227 }, { hash := PyData.keyHash P (Str.ofString "RBRACE"), key := Value.str (Str.ofString "RBRACE") 230, val := Value.int 26 229 }, { hash := PyData.keyHash P (Str.ofString "EQEQUAL"), key := Value.str (Str.ofString "EQEQUAL") 232, val := Value.int 27 231 }, { hash := PyData.keyHash P (Str.ofString "NOTEQUAL"), key := Value.str (Str.ofString "NOTEQUAL") 234, val := Value.int 28 233 }, { hash := PyData.keyHash P (Str.ofString "LESSEQUAL"), key := Value.str (Str.ofString "LESSEQUAL") 236, val := Value.int 29 235 }, { hash := PyData.keyHash P (Str.ofString "GREATEREQUAL"), key := Value.str (Str.ofString "GREATEREQUAL") 238, val := Value.int 30 237 }, { hash := PyData.keyHash P (Str.ofString "TILDE"), key := Value.str (Str.ofString "TILDE") 240, val := Value.int 31 239 }, { hash := PyData.keyHash P (Str.ofString "CIRCUMFLEX"), key := Value.str (Str.ofString "CIRCUMFLEX") 242, val := Value.int 32 241 }, { hash := PyData.keyHash P (Str.ofString "LEFTSHIFT"), key := Value.str (Str.ofString "LEFTSHIFT") 244, val := Value.int 33 243 }, { hash := PyData.keyHash P (Str.ofString "RIGHTSHIFT"), key := Value.str (Str.ofString "RIGHTSHIFT") 246, val := Value.int 34 245 }, { hash := PyData.keyHash P (Str.ofString "DOUBLESTAR"), key := Value.str (Str.ofString "DOUBLESTAR") 248, val := Value.int 35 247 }, { hash := PyData.keyHash P (Str.ofString "PLUSEQUAL"), key := Value.str (Str.ofString "PLUSEQUAL") 250, val := Value.int 36 249 }, { hash := PyData.keyHash P (Str.ofString "MINEQUAL"), key := Value.str (Str.ofString "MINEQUAL") 252, val := Value.int 37 251 }, { hash := PyData.keyHash P (Str.ofString "STAREQUAL"), key := Value.str (Str.ofString "STAREQUAL") 254, val := Value.int 38 253 }, { hash := PyData.keyHash P (Str.ofString "SLASHEQUAL"), key := Value.str (Str.ofString "SLASHEQUAL") 256, val := Value.int 39 255 }, { hash := PyData.keyHash P (Str.ofString "PERCENTEQUAL"), key := Value.str (Str.ofString "PERCENTEQUAL") 258, val := Value.int 40 257 }, { hash := PyData.keyHash P (Str.ofString "AMPEREQUAL"), key := Value.str (Str.ofString "AMPEREQUAL") 260, val := Value.int 41 259 }, { hash := PyData.keyHash P (Str.ofString "VBAREQUAL"), key := Value.str (Str.ofString "VBAREQUAL") 262, val := Value.int 42 261 }, { hash := PyData.keyHash P (Str.ofString "CIRCUMFLEXEQUAL"), key := Value.str (Str.ofString "CIRCUMFLEXEQUAL") 264, val := Value.int 43 263 }, { hash := PyData.keyHash P (Str.ofString "LEFTSHIFTEQUAL"), key := Value.str (Str.ofString "LEFTSHIFTEQUAL") 266, val := Value.int 44 265 }, { hash := PyData.keyHash P (Str.ofString "RIGHTSHIFTEQUAL"), key := Value.str (Str.ofString "RIGHTSHIFTEQUAL") 268, val := Value.int 45 267 }, { hash := PyData.keyHash P (Str.ofString "DOUBLESTAREQUAL"), key := Value.str (Str.ofString "DOUBLESTAREQUAL") 270, val := Value.int 46 269 }, { hash := PyData.keyHash P (Str.ofString "DOUBLESLASH"), key := Value.str (Str.ofString "DOUBLESLASH") 272, val := Value.int 47 271 }, { hash := PyData.keyHash P (Str.ofString "DOUBLESLASHEQUAL"), key := Value.str (Str.ofString "DOUBLESLASHEQUAL") 274, val := Value.int 48 273 }, { hash := PyData.keyHash P (Str.ofString "AT"), key := Value.str (Str.ofString "AT") 276, val := Value.int 49 275 }, { hash := PyData.keyHash P (Str.ofString "ATEQUAL"), key := Value.str (Str.ofString "ATEQUAL") 278, val := Value.int 50 277 }, { hash := PyData.keyHash P (Str.ofString "RARROW"), key := Value.str (Str.ofString "RARROW") 280, val := Value.int 51 279 }, { hash := PyData.keyHash P (Str.ofString "ELLIPSIS"), key := Value.str (Str.ofString "ELLIPSIS") 282, val := Value.int 52 281 }, { hash := PyData.keyHash P (Str.ofString "COLONEQUAL"), key := Value.str (Str.ofString "COLONEQUAL") 284, val := Value.int 53 283 }, { hash := PyData.keyHash P (Str.ofString "EXCLAMATION"), key := Value.str (Str.ofString "EXCLAMATION") 286, val := Value.int 54 285 }, { hash := PyData.keyHash P (Str.ofString "NT_OFFSET"), key := Value.str (Str.ofString "NT_OFFSET") 288, val := Value.int 256 287 }, { hash := PyData.keyHash P (Str.ofString "EXACT_TOKEN_TYPES"), key := Value.str (Str.ofString "EXACT_TOKEN_TYPES") 385, val := Value.ref 15 }, { hash := PyData.keyHash P (Str.ofString "ISTERMINAL"), key := Value.str (Str.ofString "ISTERMINAL") 392, val := Value.ref 24 }, { hash := PyData.keyHash P (Str.ofString "ISNONTERMINAL"), key := Value.str (Str.ofString "ISNONTERMINAL") 399, val := Value.ref 31 }, { hash := PyData.keyHash P (Str.ofString "ISEOF"), key := Value.str (Str.ofString "ISEOF") 406, val := Value.ref 38 }, { hash := PyData.keyHash P (Str.ofString "rgb_to_hsv"), key := Value.str (Str.ofString "rgb_to_hsv") 426, val := Value.ref 45 }, { hash := PyData.keyHash P (Str.ofString "hsv_to_rgb"), key := Value.str (Str.ofString "hsv_to_rgb") 440, val := Value.ref 52 }, { hash := PyData.keyHash P (Str.ofString "_parse_varint"), key := Value.str (Str.ofString "_parse_varint") 451, val := Value.ref 59 }, { hash := PyData.keyHash P (Str.ofString "_netrclex"), key := Value.str (Str.ofString "_netrclex") 511, val := Value.ref 97 }, { hash := PyData.keyHash P (Str.ofString "_law_heaps"), key := Value.str (Str.ofString "_law_heaps") 523, val := Value.ref 108 }, { hash := PyData.keyHash P (Str.ofString "_law_signs"), key := Value.str (Str.ofString "_law_signs") 531, val := Value.ref 115 }, { hash := PyData.keyHash P (Str.ofString "_law_drawn"), key := Value.str (Str.ofString "_law_drawn") 542, val := Value.ref 122 }, { hash := PyData.keyHash P (Str.ofString "_law_written"), key := Value.str (Str.ofString "_law_written") 548, val := Value.ref 127 }, { hash := PyData.keyHash P (Str.ofString "_law_feed"), key := Value.str (Str.ofString "_law_feed") 557, val := Value.ref 134 }, { hash := PyData.keyHash P (Str.ofString "_law_packed"), key := Value.str (Str.ofString "_law_packed") 570, val := Value.ref 141 }, { hash := PyData.keyHash P (Str.ofString "_law_cut"), key := Value.str (Str.ofString "_law_cut") 576, val := Value.ref 146 }, { hash := PyData.keyHash P (Str.ofString "_law_octets"), key := Value.str (Str.ofString "_law_octets") 585, val := Value.ref 153 }, { hash := PyData.keyHash P (Str.ofString "_law_turned"), key := Value.str (Str.ofString "_law_turned") 594, val := Value.ref 160 }, { hash := PyData.keyHash P (Str.ofString "_law_unpacked"), key := Value.str (Str.ofString "_law_unpacked") 600, val := Value.ref 165 }, { hash := PyData.keyHash P (Str.ofString "_law_painted"), key := Value.str (Str.ofString "_law_painted") 606, val := Value.ref 170 }, { hash := PyData.keyHash P (Str.ofString "law"), key := Value.str (Str.ofString "law") 612, val := Value.ref 175 }] 79 }
noncomputable def ob15 (P : Params) : Obj := { cls := Value.type "dict", data := Data.dict #[{ hash := PyData.keyHash P (Str.ofString "!"), key := Value.str (Str.ofString "!") 289, val := Value.int 54 285 }, { hash := PyData.keyHash P (Str.ofString "!="), key := Value.str (Str.ofString "!=") 291, val := Value.int 28 233 }, { hash := PyData.keyHash P (Str.ofString "%"), key := Value.str (Str.ofString "%") 293, val := Value.int 24 225 }, { hash := PyData.keyHash P (Str.ofString "%="), key := Value.str (Str.ofString "%=") 295, val := Value.int 40 257 }, { hash := PyData.keyHash P (Str.ofString "&"), key := Value.str (Str.ofString "&") 297, val := Value.int 19 215 }, { hash := PyData.keyHash P (Str.ofString "&="), key := Value.str (Str.ofString "&=") 299, val := Value.int 41 259 }, { hash := PyData.keyHash P (Str.ofString "("), key := Value.str (Str.ofString "(") 301, val := Value.int 7 191 }, { hash := PyData.keyHash P (Str.ofString ")"), key := Value.str (Str.ofString ")") 303, val := Value.int 8 193 }, { hash := PyData.keyHash P (Str.ofString "*"), key := Value.str (Str.ofString "*") 305, val := Value.int 16 209 }, { hash := PyData.keyHash P (Str.ofString "**"), key := Value.str (Str.ofString "**") 307, val := Value.int 35 247 }, { hash := PyData.keyHash P (Str.ofString "**="), key := Value.str (Str.ofString "**=") 309, val := Value.int 46 269 }, { hash := PyData.keyHash P (Str.ofString "*="), key := Value.str (Str.ofString "*=") 311, val := Value.int 38 253 }, { hash := PyData.keyHash P (Str.ofString "+"), key := Value.str (Str.ofString "+") 313, val := Value.int 14 205 }, { hash := PyData.keyHash P (Str.ofString "+="), key := Value.str (Str.ofString "+=") 315, val := Value.int 36 249 }, { hash := PyData.keyHash P (Str.ofString ","), key := Value.str (Str.ofString ",") 317, val := Value.int 12 201 }, { hash := PyData.keyHash P (Str.ofString "-"), key := Value.str (Str.ofString "-") 319, val := Value.int 15 207 }, { hash := PyData.keyHash P (Str.ofString "-="), key := Value.str (Str.ofString "-=") 321, val := Value.int 37 251 }, { hash := PyData.keyHash P (Str.ofString "->"), key := Value.str (Str.ofString "->") 323, val := Value.int 51 279 }, { hash := PyData.keyHash P (Str.ofString "."), key := Value.str (Str.ofString ".") 325, val := Value.int 23 223 }, { hash := PyData.keyHash P (Str.ofString "..."), key := Value.str (Str.ofString "...") 327, val := Value.int 52 281 }, { hash := PyData.keyHash P (Str.ofString "/"), key := Value.str (Str.ofString "/") 329, val := Value.int 17 211 }, { hash := PyData.keyHash P (Str.ofString "//"), key := Value.str (Str.ofString "//") 331, val := Value.int 47 271 }, { hash := PyData.keyHash P (Str.ofString "//="), key := Value.str (Str.ofString "//=") 333, val := Value.int 48 273 }, { hash := PyData.keyHash P (Str.ofString "/="), key := Value.str (Str.ofString "/=") 335, val := Value.int 39 255 }, { hash := PyData.keyHash P (Str.ofString ":"), key := Value.str (Str.ofString ":") 337, val := Value.int 11 199 }, { hash := PyData.keyHash P (Str.ofString ":="), key := Value.str (Str.ofString ":=") 339, val := Value.int 53 283 }, { hash := PyData.keyHash P (Str.ofString ";"), key := Value.str (Str.ofString ";") 341, val := Value.int 13 203 }, { hash := PyData.keyHash P (Str.ofString "<"), key := Value.str (Str.ofString "<") 343, val := Value.int 20 217 }, { hash := PyData.keyHash P (Str.ofString "<<"), key := Value.str (Str.ofString "<<") 345, val := Value.int 33 243 }, { hash := PyData.keyHash P (Str.ofString "<<="), key := Value.str (Str.ofString "<<=") 347, val := Value.int 44 265 }, { hash := PyData.keyHash P (Str.ofString "<="), key := Value.str (Str.ofString "<=") 349, val := Value.int 29 235 }, { hash := PyData.keyHash P (Str.ofString "="), key := Value.str (Str.ofString "=") 351, val := Value.int 22 221 }, { hash := PyData.keyHash P (Str.ofString "=="), key := Value.str (Str.ofString "==") 353, val := Value.int 27 231 }, { hash := PyData.keyHash P (Str.ofString ">"), key := Value.str (Str.ofString ">") 355, val := Value.int 21 219 }, { hash := PyData.keyHash P (Str.ofString ">="), key := Value.str (Str.ofString ">=") 357, val := Value.int 30 237 }, { hash := PyData.keyHash P (Str.ofString ">>"), key := Value.str (Str.ofString ">>") 358, val := Value.int 34 245 }, { hash := PyData.keyHash P (Str.ofString ">>="), key := Value.str (Str.ofString ">>=") 359, val := Value.int 45 267 }, { hash := PyData.keyHash P (Str.ofString "@"), key := Value.str (Str.ofString "@") 360, val := Value.int 49 275 }, { hash := PyData.keyHash P (Str.ofString "@="), key := Value.str (Str.ofString "@=") 361, val := Value.int 50 277 }, { hash := PyData.keyHash P (Str.ofString "["), key := Value.str (Str.ofString "[") 362, val := Value.int 9 195 }, { hash := PyData.keyHash P (Str.ofString "]"), key := Value.str (Str.ofString "]") 363, val := Value.int 10 197 }, { hash := PyData.keyHash P (Str.ofString "^"), key := Value.str (Str.ofString "^") 364, val := Value.int 32 241 }, { hash := PyData.keyHash P (Str.ofString "^="), key := Value.str (Str.ofString "^=") 365, val := Value.int 43 263 }, { hash := PyData.keyHash P (Str.ofString "{"), key := Value.str (Str.ofString "{") 366, val := Value.int 25 227 }, { hash := PyData.keyHash P (Str.ofString "|"), key := Value.str (Str.ofString "|") 367, val := Value.int 18 213 }, { hash := PyData.keyHash P (Str.ofString "|="), key := Value.str (Str.ofString "|=") 368, val := Value.int 42 261 }, { hash := PyData.keyHash P (Str.ofString "}"), key := Value.str (Str.ofString "}") 369, val := Value.int 26 229 }, { hash := PyData.keyHash P (Str.ofString "~"), key := Value.str (Str.ofString "~") 370, val := Value.int 31 239 }] 48 }
noncomputable def ob23 (P : Params) : Obj := { cls := Value.type "code", data := Data.fields #[Value.str (Str.ofString "ISTERMINAL") 386, Value.str (Str.ofString "ISTERMINAL") 387, Value.str (Str.ofString "/claim/cut.py") 388, Value.int 53 0, Value.int 1 0, Value.int 0 0, Value.int 0 0, Value.int 3 0, Value.ref 18, Value.bool true, Value.int 181 0, Value.ref 19, Value.none, Value.ref 20, Value.ref 21, Value.ref 22, Value.int 390 0, Value.int 53 0, Value.str (Str.ofString "/claim/cut.py") 391] }
noncomputable def ob24 (P : Params) : Obj := fo (stm 52) "ISTERMINAL" (Value.str (Str.ofString "cpy313.token") 187) 23
noncomputable def ob30 (P : Params) : Obj := { cls := Value.type "code", data := Data.fields #[Value.str (Str.ofString "ISNONTERMINAL") 393, Value.str (Str.ofString "ISNONTERMINAL") 394, Value.str (Str.ofString "/claim/cut.py") 395, Value.int 55 0, Value.int 1 0, Value.int 0 0, Value.int 0 0, Value.int 3 0, Value.ref 25, Value.bool true, Value.int 181 0, Value.ref 26, Value.none, Value.ref 27, Value.ref 28, Value.ref 29, Value.int 397 0, Value.int 55 0, Value.str (Str.ofString "/claim/cut.py") 398] }
noncomputable def ob31 (P : Params) : Obj := fo (stm 53) "ISNONTERMINAL" (Value.str (Str.ofString "cpy313.token") 187) 30
noncomputable def ob37 (P : Params) : Obj := { cls := Value.type "code", data := Data.fields #[Value.str (Str.ofString "ISEOF") 400, Value.str (Str.ofString "ISEOF") 401, Value.str (Str.ofString "/claim/cut.py") 402, Value.int 57 0, Value.int 1 0, Value.int 0 0, Value.int 0 0, Value.int 3 0, Value.ref 32, Value.bool true, Value.int 181 0, Value.ref 33, Value.none, Value.ref 34, Value.ref 35, Value.ref 36, Value.int 404 0, Value.int 57 0, Value.str (Str.ofString "/claim/cut.py") 405] }
noncomputable def ob38 (P : Params) : Obj := fo (stm 54) "ISEOF" (Value.str (Str.ofString "cpy313.token") 187) 37
noncomputable def ob44 (P : Params) : Obj := { cls := Value.type "code", data := Data.fields #[Value.str (Str.ofString "rgb_to_hsv") 409, Value.str (Str.ofString "rgb_to_hsv") 410, Value.str (Str.ofString "/claim/cut.py") 411, Value.int 60 0, Value.int 3 0, Value.int 0 0, Value.int 0 0, Value.int 3 0, Value.ref 39, Value.bool true, Value.int 181 0, Value.ref 40, Value.none, Value.ref 41, Value.ref 42, Value.ref 43, Value.int 424 0, Value.int 60 0, Value.str (Str.ofString "/claim/cut.py") 425] }
noncomputable def ob45 (P : Params) : Obj := fo (stm 56) "rgb_to_hsv" (Value.str (Str.ofString "cpy313.colorsys") 407) 44
noncomputable def ob51 (P : Params) : Obj := { cls := Value.type "code", data := Data.fields #[Value.str (Str.ofString "hsv_to_rgb") 427, Value.str (Str.ofString "hsv_to_rgb") 428, Value.str (Str.ofString "/claim/cut.py") 429, Value.int 79 0, Value.int 3 0, Value.int 0 0, Value.int 0 0, Value.int 3 0, Value.ref 46, Value.bool true, Value.int 181 0, Value.ref 47, Value.none, Value.ref 48, Value.ref 49, Value.ref 50, Value.int 438 0, Value.int 79 0, Value.str (Str.ofString "/claim/cut.py") 439] }
noncomputable def ob52 (P : Params) : Obj := fo (stm 57) "hsv_to_rgb" (Value.str (Str.ofString "cpy313.colorsys") 407) 51
noncomputable def ob58 (P : Params) : Obj := { cls := Value.type "code", data := Data.fields #[Value.str (Str.ofString "_parse_varint") 443, Value.str (Str.ofString "_parse_varint") 444, Value.str (Str.ofString "/claim/cut.py") 445, Value.int 101 0, Value.int 1 0, Value.int 0 0, Value.int 0 0, Value.int 3 0, Value.ref 53, Value.bool true, Value.int 181 0, Value.ref 54, Value.none, Value.ref 55, Value.ref 56, Value.ref 57, Value.int 449 0, Value.int 101 0, Value.str (Str.ofString "/claim/cut.py") 450] }
noncomputable def ob59 (P : Params) : Obj := fo (stm 59) "_parse_varint" (Value.str (Str.ofString "cpy313.dis") 441) 58
noncomputable def ob72 (P : Params) : Obj := { cls := Value.type "code", data := Data.fields #[Value.str (Str.ofString "__init__") 466, Value.str (Str.ofString "_netrclex.__init__") 467, Value.str (Str.ofString "/claim/cut.py") 468, Value.int 112 0, Value.int 2 0, Value.int 0 0, Value.int 0 0, Value.int 3 0, Value.ref 67, Value.bool true, Value.int 181 0, Value.ref 68, Value.none, Value.ref 69, Value.ref 70, Value.ref 71, Value.int 471 0, Value.int 112 0, Value.str (Str.ofString "/claim/cut.py") 472] }
noncomputable def ob73 (P : Params) : Obj := fo (stmC 61 0) "_netrclex.__init__" (Value.str (Str.ofString "cpy313.netrc") 452) 72
noncomputable def ob79 (P : Params) : Obj := { cls := Value.type "code", data := Data.fields #[Value.str (Str.ofString "_read_char") 474, Value.str (Str.ofString "_netrclex._read_char") 475, Value.str (Str.ofString "/claim/cut.py") 476, Value.int 118 0, Value.int 1 0, Value.int 0 0, Value.int 0 0, Value.int 3 0, Value.ref 74, Value.bool true, Value.int 181 0, Value.ref 75, Value.none, Value.ref 76, Value.ref 77, Value.ref 78, Value.int 479 0, Value.int 118 0, Value.str (Str.ofString "/claim/cut.py") 480] }
noncomputable def ob80 (P : Params) : Obj := fo (stmC 61 1) "_netrclex._read_char" (Value.str (Str.ofString "cpy313.netrc") 452) 79
noncomputable def ob86 (P : Params) : Obj := { cls := Value.type "code", data := Data.fields #[Value.str (Str.ofString "get_token") 482, Value.str (Str.ofString "_netrclex.get_token") 483, Value.str (Str.ofString "/claim/cut.py") 484, Value.int 124 0, Value.int 1 0, Value.int 0 0, Value.int 0 0, Value.int 3 0, Value.ref 81, Value.bool true, Value.int 181 0, Value.ref 82, Value.none, Value.ref 83, Value.ref 84, Value.ref 85, Value.int 489 0, Value.int 124 0, Value.str (Str.ofString "/claim/cut.py") 490] }
noncomputable def ob87 (P : Params) : Obj := fo (stmC 61 2) "_netrclex.get_token" (Value.str (Str.ofString "cpy313.netrc") 452) 86
noncomputable def ob93 (P : Params) : Obj := { cls := Value.type "code", data := Data.fields #[Value.str (Str.ofString "push_token") 492, Value.str (Str.ofString "_netrclex.push_token") 493, Value.str (Str.ofString "/claim/cut.py") 494, Value.int 151 0, Value.int 2 0, Value.int 0 0, Value.int 0 0, Value.int 3 0, Value.ref 88, Value.bool true, Value.int 181 0, Value.ref 89, Value.none, Value.ref 90, Value.ref 91, Value.ref 92, Value.int 497 0, Value.int 151 0, Value.str (Str.ofString "/claim/cut.py") 498] }
noncomputable def ob94 (P : Params) : Obj := fo (stmC 61 3) "_netrclex.push_token" (Value.str (Str.ofString "cpy313.netrc") 452) 93
noncomputable def ob96 (P : Params) : Obj := { cls := Value.type "dict", data := Data.dict #[{ hash := PyData.keyHash P (Str.ofString "__module__"), key := Value.str (Str.ofString "__module__") 461, val := Value.str (Str.ofString "cpy313.netrc") 452 }, { hash := PyData.keyHash P (Str.ofString "__firstlineno__"), key := Value.str (Str.ofString "__firstlineno__") 465, val := Value.int 110 464 }, { hash := PyData.keyHash P (Str.ofString "__init__"), key := Value.str (Str.ofString "__init__") 473, val := Value.ref 73 }, { hash := PyData.keyHash P (Str.ofString "_read_char"), key := Value.str (Str.ofString "_read_char") 481, val := Value.ref 80 }, { hash := PyData.keyHash P (Str.ofString "get_token"), key := Value.str (Str.ofString "get_token") 491, val := Value.ref 87 }, { hash := PyData.keyHash P (Str.ofString "push_token"), key := Value.str (Str.ofString "push_token") 499, val := Value.ref 94 }, { hash := PyData.keyHash P (Str.ofString "__static_attributes__"), key := Value.str (Str.ofString "__static_attributes__") 504, val := Value.ref 95 }, { hash := PyData.keyHash P (Str.ofString "__dict__"), key := Value.str (Str.ofString "__dict__") 506, val := Value.ref 98 }, { hash := PyData.keyHash P (Str.ofString "__weakref__"), key := Value.str (Str.ofString "__weakref__") 508, val := Value.ref 99 }, { hash := PyData.keyHash P (Str.ofString "__doc__"), key := Value.str (Str.ofString "__doc__") 509, val := Value.none }] 4 }
noncomputable def ob97 (P : Params) : Obj := { cls := Value.type "type", data := Data.cls { name := Str.ofString "_netrclex", bases := [Value.type "object"], mro := [Value.ref 97, Value.type "object"], ns := 96, qualname := Str.ofString "_netrclex" }, slots := #[none, none, some (Value.str (Str.ofString "_netrclex") 454), some (Value.str (Str.ofString "_netrclex") 462), some (Value.builtin "object.__new__"), some (Value.bool true)] }
noncomputable def ob98 (P : Params) : Obj := { cls := Value.type "getset_descriptor", data := Data.fields #[Value.str (Str.ofString "__dict__") 505, Value.ref 97, Value.builtin "function.__dict__", Value.builtin "function.__dict__#set"] }
noncomputable def ob99 (P : Params) : Obj := { cls := Value.type "getset_descriptor", data := Data.fields #[Value.str (Str.ofString "__weakref__") 507, Value.ref 97, Value.builtin "ExceptionGroup.__weakref__", Value.none] }
noncomputable def ob107 (P : Params) : Obj := { cls := Value.type "code", data := Data.fields #[Value.str (Str.ofString "_law_heaps") 514, Value.str (Str.ofString "_law_heaps") 515, Value.str (Str.ofString "/claim/cut.py") 516, Value.int 154 0, Value.int 1 0, Value.int 0 0, Value.int 0 0, Value.int 3 0, Value.ref 102, Value.bool true, Value.int 181 0, Value.ref 103, Value.none, Value.ref 104, Value.ref 105, Value.ref 106, Value.int 521 0, Value.int 154 0, Value.str (Str.ofString "/claim/cut.py") 522] }
noncomputable def ob108 (P : Params) : Obj := fo (stm 63) "_law_heaps" (Value.str (Str.ofString "law_uq0009_01") 512) 107
noncomputable def ob114 (P : Params) : Obj := { cls := Value.type "code", data := Data.fields #[Value.str (Str.ofString "_law_signs") 524, Value.str (Str.ofString "_law_signs") 525, Value.str (Str.ofString "/claim/cut.py") 526, Value.int 159 0, Value.int 1 0, Value.int 0 0, Value.int 0 0, Value.int 3 0, Value.ref 109, Value.bool true, Value.int 181 0, Value.ref 110, Value.none, Value.ref 111, Value.ref 112, Value.ref 113, Value.int 529 0, Value.int 159 0, Value.str (Str.ofString "/claim/cut.py") 530] }
noncomputable def ob115 (P : Params) : Obj := fo (stm 64) "_law_signs" (Value.str (Str.ofString "law_uq0009_01") 512) 114
noncomputable def ob121 (P : Params) : Obj := { cls := Value.type "code", data := Data.fields #[Value.str (Str.ofString "_law_drawn") 532, Value.str (Str.ofString "_law_drawn") 533, Value.str (Str.ofString "/claim/cut.py") 534, Value.int 162 0, Value.int 1 0, Value.int 0 0, Value.int 0 0, Value.int 3 0, Value.ref 116, Value.bool true, Value.int 181 0, Value.ref 117, Value.none, Value.ref 118, Value.ref 119, Value.ref 120, Value.int 540 0, Value.int 162 0, Value.str (Str.ofString "/claim/cut.py") 541] }
noncomputable def ob122 (P : Params) : Obj := fo (stm 65) "_law_drawn" (Value.str (Str.ofString "law_uq0009_01") 512) 121
noncomputable def ob126 (P : Params) : Obj := { cls := Value.type "code", data := Data.fields #[Value.str (Str.ofString "_law_written") 543, Value.str (Str.ofString "_law_written") 544, Value.str (Str.ofString "/claim/cut.py") 545, Value.int 170 0, Value.int 3 0, Value.int 0 0, Value.int 0 0, Value.int 3 0, Value.ref 123, Value.bool true, Value.int 181 0, Value.ref 124, Value.none, Value.none, Value.none, Value.ref 125, Value.int 546 0, Value.int 170 0, Value.str (Str.ofString "/claim/cut.py") 547] }
noncomputable def ob127 (P : Params) : Obj := fo (stm 66) "_law_written" (Value.str (Str.ofString "law_uq0009_01") 512) 126
noncomputable def ob133 (P : Params) : Obj := { cls := Value.type "code", data := Data.fields #[Value.str (Str.ofString "_law_feed") 549, Value.str (Str.ofString "_law_feed") 550, Value.str (Str.ofString "/claim/cut.py") 551, Value.int 173 0, Value.int 1 0, Value.int 0 0, Value.int 0 0, Value.int 3 0, Value.ref 128, Value.bool true, Value.int 181 0, Value.ref 129, Value.none, Value.ref 130, Value.ref 131, Value.ref 132, Value.int 555 0, Value.int 173 0, Value.str (Str.ofString "/claim/cut.py") 556] }
noncomputable def ob134 (P : Params) : Obj := fo (stm 67) "_law_feed" (Value.str (Str.ofString "law_uq0009_01") 512) 133
noncomputable def ob140 (P : Params) : Obj := { cls := Value.type "code", data := Data.fields #[Value.str (Str.ofString "_law_packed") 558, Value.str (Str.ofString "_law_packed") 559, Value.str (Str.ofString "/claim/cut.py") 560, Value.int 177 0, Value.int 2 0, Value.int 0 0, Value.int 0 0, Value.int 3 0, Value.ref 135, Value.bool true, Value.int 181 0, Value.ref 136, Value.none, Value.ref 137, Value.ref 138, Value.ref 139, Value.int 568 0, Value.int 177 0, Value.str (Str.ofString "/claim/cut.py") 569] }
noncomputable def ob141 (P : Params) : Obj := fo (stm 68) "_law_packed" (Value.str (Str.ofString "law_uq0009_01") 512) 140
noncomputable def ob145 (P : Params) : Obj := { cls := Value.type "code", data := Data.fields #[Value.str (Str.ofString "_law_cut") 571, Value.str (Str.ofString "_law_cut") 572, Value.str (Str.ofString "/claim/cut.py") 573, Value.int 193 0, Value.int 1 0, Value.int 0 0, Value.int 0 0, Value.int 3 0, Value.ref 142, Value.bool true, Value.int 181 0, Value.ref 143, Value.none, Value.none, Value.none, Value.ref 144, Value.int 574 0, Value.int 193 0, Value.str (Str.ofString "/claim/cut.py") 575] }
noncomputable def ob146 (P : Params) : Obj := fo (stm 69) "_law_cut" (Value.str (Str.ofString "law_uq0009_01") 512) 145
noncomputable def ob152 (P : Params) : Obj := { cls := Value.type "code", data := Data.fields #[Value.str (Str.ofString "_law_octets") 577, Value.str (Str.ofString "_law_octets") 578, Value.str (Str.ofString "/claim/cut.py") 579, Value.int 207 0, Value.int 1 0, Value.int 0 0, Value.int 0 0, Value.int 3 0, Value.ref 147, Value.bool true, Value.int 181 0, Value.ref 148, Value.none, Value.ref 149, Value.ref 150, Value.ref 151, Value.int 583 0, Value.int 207 0, Value.str (Str.ofString "/claim/cut.py") 584] }
noncomputable def ob153 (P : Params) : Obj := fo (stm 70) "_law_octets" (Value.str (Str.ofString "law_uq0009_01") 512) 152
noncomputable def ob159 (P : Params) : Obj := { cls := Value.type "code", data := Data.fields #[Value.str (Str.ofString "_law_turned") 586, Value.str (Str.ofString "_law_turned") 587, Value.str (Str.ofString "/claim/cut.py") 588, Value.int 214 0, Value.int 2 0, Value.int 0 0, Value.int 0 0, Value.int 3 0, Value.ref 154, Value.bool true, Value.int 181 0, Value.ref 155, Value.none, Value.ref 156, Value.ref 157, Value.ref 158, Value.int 592 0, Value.int 214 0, Value.str (Str.ofString "/claim/cut.py") 593] }
noncomputable def ob160 (P : Params) : Obj := fo (stm 71) "_law_turned" (Value.str (Str.ofString "law_uq0009_01") 512) 159
noncomputable def ob164 (P : Params) : Obj := { cls := Value.type "code", data := Data.fields #[Value.str (Str.ofString "_law_unpacked") 595, Value.str (Str.ofString "_law_unpacked") 596, Value.str (Str.ofString "/claim/cut.py") 597, Value.int 217 0, Value.int 1 0, Value.int 0 0, Value.int 0 0, Value.int 3 0, Value.ref 161, Value.bool true, Value.int 181 0, Value.ref 162, Value.none, Value.none, Value.none, Value.ref 163, Value.int 598 0, Value.int 217 0, Value.str (Str.ofString "/claim/cut.py") 599] }
noncomputable def ob165 (P : Params) : Obj := fo (stm 72) "_law_unpacked" (Value.str (Str.ofString "law_uq0009_01") 512) 164
noncomputable def ob169 (P : Params) : Obj := { cls := Value.type "code", data := Data.fields #[Value.str (Str.ofString "_law_painted") 601, Value.str (Str.ofString "_law_painted") 602, Value.str (Str.ofString "/claim/cut.py") 603, Value.int 240 0, Value.int 1 0, Value.int 0 0, Value.int 0 0, Value.int 3 0, Value.ref 166, Value.bool true, Value.int 181 0, Value.ref 167, Value.none, Value.none, Value.none, Value.ref 168, Value.int 604 0, Value.int 240 0, Value.str (Str.ofString "/claim/cut.py") 605] }
noncomputable def ob170 (P : Params) : Obj := fo (stm 73) "_law_painted" (Value.str (Str.ofString "law_uq0009_01") 512) 169
noncomputable def ob174 (P : Params) : Obj := { cls := Value.type "code", data := Data.fields #[Value.str (Str.ofString "law") 607, Value.str (Str.ofString "law") 608, Value.str (Str.ofString "/claim/cut.py") 609, Value.int 248 0, Value.int 1 0, Value.int 0 0, Value.int 0 0, Value.int 3 0, Value.ref 171, Value.bool true, Value.int 181 0, Value.ref 172, Value.none, Value.none, Value.none, Value.ref 173, Value.int 610 0, Value.int 248 0, Value.str (Str.ofString "/claim/cut.py") 611] }
noncomputable def ob175 (P : Params) : Obj := fo (stm 74) "law" (Value.str (Str.ofString "law_uq0009_01") 512) 174
noncomputable def hp (P : Params) : Heap := ⟨Array.mk
  [boot_o_0 P
  , boot_o_1 P
  , ob2 P
  , ob3 P
  , boot_o_4 P
  , boot_o_5 P
  , boot_o_6 P
  , boot_o_7 P
  , boot_o_8 P
  , boot_o_9 P
  , boot_o_10 P
  , { cls := Value.type "tuple", data := Data.seq #[] }
  , { cls := Value.none, data := Data.fields #[Value.int 53 0, Value.int 0 0, Value.ref 23, Value.int 55 0, Value.int 0 0, Value.ref 30, Value.int 57 0, Value.int 0 0, Value.ref 37, Value.int 60 0, Value.int 0 0, Value.ref 44, Value.int 79 0, Value.int 0 0, Value.ref 51, Value.int 101 0, Value.int 0 0, Value.ref 58, Value.int 110 0, Value.int 0 0, Value.ref 65, Value.int 154 0, Value.int 0 0, Value.ref 107, Value.int 159 0, Value.int 0 0, Value.ref 114, Value.int 162 0, Value.int 0 0, Value.ref 121, Value.int 170 0, Value.int 0 0, Value.ref 126, Value.int 173 0, Value.int 0 0, Value.ref 133, Value.int 177 0, Value.int 0 0, Value.ref 140, Value.int 193 0, Value.int 0 0, Value.ref 145, Value.int 207 0, Value.int 0 0, Value.ref 152, Value.int 214 0, Value.int 0 0, Value.ref 159, Value.int 217 0, Value.int 0 0, Value.ref 164, Value.int 240 0, Value.int 0 0, Value.ref 169, Value.int 248 0, Value.int 0 0, Value.ref 174] }
  , { cls := Value.type "code", data := Data.fields #[Value.str (Str.ofString "<module>") 182, Value.str (Str.ofString "<module>") 183, Value.str (Str.ofString "/claim/cut.py") 184, Value.int 1 0, Value.int 0 0, Value.int 0 0, Value.int 0 0, Value.int 0 0, Value.ref 11, Value.bool false, Value.int 181 0, Value.ref 12, Value.none, Value.none, Value.none, Value.none, Value.int 185 0, Value.int 1 0, Value.str (Str.ofString "/claim/cut.py") 186] }
  , { cls := Value.type "frame", slots := #[some (Value.ref 13), some (Value.ref 3), some (Value.ref 3), none, some (Value.str (Str.ofString "__main__") 164), none, some (Value.ref 0)] }
  , ob15 P
  , { cls := Value.type "dict", data := Data.dict #[{ hash := PyData.keyHash P (Str.ofString "->"), key := Value.str (Str.ofString "->") 323, val := Value.int 51 279 }, { hash := PyData.keyHash P (Str.ofString "."), key := Value.str (Str.ofString ".") 325, val := Value.int 23 223 }, { hash := PyData.keyHash P (Str.ofString "..."), key := Value.str (Str.ofString "...") 327, val := Value.int 52 281 }, { hash := PyData.keyHash P (Str.ofString "/"), key := Value.str (Str.ofString "/") 329, val := Value.int 17 211 }, { hash := PyData.keyHash P (Str.ofString "//"), key := Value.str (Str.ofString "//") 331, val := Value.int 47 271 }, { hash := PyData.keyHash P (Str.ofString "//="), key := Value.str (Str.ofString "//=") 333, val := Value.int 48 273 }, { hash := PyData.keyHash P (Str.ofString "/="), key := Value.str (Str.ofString "/=") 335, val := Value.int 39 255 }, { hash := PyData.keyHash P (Str.ofString ":"), key := Value.str (Str.ofString ":") 337, val := Value.int 11 199 }, { hash := PyData.keyHash P (Str.ofString ":="), key := Value.str (Str.ofString ":=") 339, val := Value.int 53 283 }, { hash := PyData.keyHash P (Str.ofString ";"), key := Value.str (Str.ofString ";") 341, val := Value.int 13 203 }, { hash := PyData.keyHash P (Str.ofString "<"), key := Value.str (Str.ofString "<") 343, val := Value.int 20 217 }, { hash := PyData.keyHash P (Str.ofString "<<"), key := Value.str (Str.ofString "<<") 345, val := Value.int 33 243 }, { hash := PyData.keyHash P (Str.ofString "<<="), key := Value.str (Str.ofString "<<=") 347, val := Value.int 44 265 }, { hash := PyData.keyHash P (Str.ofString "<="), key := Value.str (Str.ofString "<=") 349, val := Value.int 29 235 }, { hash := PyData.keyHash P (Str.ofString "="), key := Value.str (Str.ofString "=") 351, val := Value.int 22 221 }, { hash := PyData.keyHash P (Str.ofString "=="), key := Value.str (Str.ofString "==") 353, val := Value.int 27 231 }, { hash := PyData.keyHash P (Str.ofString ">"), key := Value.str (Str.ofString ">") 355, val := Value.int 21 219 }] 17 }
  , { cls := Value.type "dict", data := Data.dict #[{ hash := PyData.keyHash P (Str.ofString ">="), key := Value.str (Str.ofString ">=") 357, val := Value.int 30 237 }, { hash := PyData.keyHash P (Str.ofString ">>"), key := Value.str (Str.ofString ">>") 358, val := Value.int 34 245 }, { hash := PyData.keyHash P (Str.ofString ">>="), key := Value.str (Str.ofString ">>=") 359, val := Value.int 45 267 }, { hash := PyData.keyHash P (Str.ofString "@"), key := Value.str (Str.ofString "@") 360, val := Value.int 49 275 }, { hash := PyData.keyHash P (Str.ofString "@="), key := Value.str (Str.ofString "@=") 361, val := Value.int 50 277 }, { hash := PyData.keyHash P (Str.ofString "["), key := Value.str (Str.ofString "[") 362, val := Value.int 9 195 }, { hash := PyData.keyHash P (Str.ofString "]"), key := Value.str (Str.ofString "]") 363, val := Value.int 10 197 }, { hash := PyData.keyHash P (Str.ofString "^"), key := Value.str (Str.ofString "^") 364, val := Value.int 32 241 }, { hash := PyData.keyHash P (Str.ofString "^="), key := Value.str (Str.ofString "^=") 365, val := Value.int 43 263 }, { hash := PyData.keyHash P (Str.ofString "{"), key := Value.str (Str.ofString "{") 366, val := Value.int 25 227 }, { hash := PyData.keyHash P (Str.ofString "|"), key := Value.str (Str.ofString "|") 367, val := Value.int 18 213 }, { hash := PyData.keyHash P (Str.ofString "|="), key := Value.str (Str.ofString "|=") 368, val := Value.int 42 261 }, { hash := PyData.keyHash P (Str.ofString "}"), key := Value.str (Str.ofString "}") 369, val := Value.int 26 229 }, { hash := PyData.keyHash P (Str.ofString "~"), key := Value.str (Str.ofString "~") 370, val := Value.int 31 239 }] 14 }
  , { cls := Value.type "tuple", data := Data.seq #[] }
  , { cls := Value.none, data := Data.fields #[] }
  , { cls := Value.type "tuple", data := Data.seq #[Value.str (Str.ofString "x") 389] }
  , { cls := Value.type "tuple", data := Data.seq #[] }
  , fc (stm 52) "ISTERMINAL"
  , ob23 P
  , ob24 P
  , { cls := Value.type "tuple", data := Data.seq #[] }
  , { cls := Value.none, data := Data.fields #[] }
  , { cls := Value.type "tuple", data := Data.seq #[Value.str (Str.ofString "x") 396] }
  , { cls := Value.type "tuple", data := Data.seq #[] }
  , fc (stm 53) "ISNONTERMINAL"
  , ob30 P
  , ob31 P
  , { cls := Value.type "tuple", data := Data.seq #[] }
  , { cls := Value.none, data := Data.fields #[] }
  , { cls := Value.type "tuple", data := Data.seq #[Value.str (Str.ofString "x") 403] }
  , { cls := Value.type "tuple", data := Data.seq #[] }
  , fc (stm 54) "ISEOF"
  , ob37 P
  , ob38 P
  , { cls := Value.type "tuple", data := Data.seq #[] }
  , { cls := Value.none, data := Data.fields #[] }
  , { cls := Value.type "tuple", data := Data.seq #[Value.str (Str.ofString "r") 412, Value.str (Str.ofString "g") 413, Value.str (Str.ofString "b") 414, Value.str (Str.ofString "maxc") 415, Value.str (Str.ofString "minc") 416, Value.str (Str.ofString "rangec") 417, Value.str (Str.ofString "v") 418, Value.str (Str.ofString "s") 419, Value.str (Str.ofString "rc") 420, Value.str (Str.ofString "gc") 421, Value.str (Str.ofString "bc") 422, Value.str (Str.ofString "h") 423] }
  , { cls := Value.type "tuple", data := Data.seq #[] }
  , fc (stm 56) "rgb_to_hsv"
  , ob44 P
  , ob45 P
  , { cls := Value.type "tuple", data := Data.seq #[] }
  , { cls := Value.none, data := Data.fields #[] }
  , { cls := Value.type "tuple", data := Data.seq #[Value.str (Str.ofString "h") 430, Value.str (Str.ofString "s") 431, Value.str (Str.ofString "v") 432, Value.str (Str.ofString "i") 433, Value.str (Str.ofString "f") 434, Value.str (Str.ofString "p") 435, Value.str (Str.ofString "q") 436, Value.str (Str.ofString "t") 437] }
  , { cls := Value.type "tuple", data := Data.seq #[] }
  , fc (stm 57) "hsv_to_rgb"
  , ob51 P
  , ob52 P
  , { cls := Value.type "tuple", data := Data.seq #[] }
  , { cls := Value.none, data := Data.fields #[] }
  , { cls := Value.type "tuple", data := Data.seq #[Value.str (Str.ofString "iterator") 446, Value.str (Str.ofString "b") 447, Value.str (Str.ofString "val") 448] }
  , { cls := Value.type "tuple", data := Data.seq #[] }
  , fc (stm 59) "_parse_varint"
  , ob58 P
  , ob59 P
  , { cls := Value.type "tuple", data := Data.seq #[] }
  , { cls := Value.type "builtin_function_or_method", data := Data.fields #[Value.builtin "type.__prepare__", Value.type "type"] }
  , { cls := Value.type "dict", data := Data.dict #[{ hash := PyData.keyHash P (Str.ofString "__module__"), key := Value.str (Str.ofString "__module__") 461, val := Value.str (Str.ofString "cpy313.netrc") 452 }, { hash := PyData.keyHash P (Str.ofString "__qualname__"), key := Value.str (Str.ofString "__qualname__") 463, val := Value.str (Str.ofString "_netrclex") 462 }, { hash := PyData.keyHash P (Str.ofString "__firstlineno__"), key := Value.str (Str.ofString "__firstlineno__") 465, val := Value.int 110 464 }, { hash := PyData.keyHash P (Str.ofString "__init__"), key := Value.str (Str.ofString "__init__") 473, val := Value.ref 73 }, { hash := PyData.keyHash P (Str.ofString "_read_char"), key := Value.str (Str.ofString "_read_char") 481, val := Value.ref 80 }, { hash := PyData.keyHash P (Str.ofString "get_token"), key := Value.str (Str.ofString "get_token") 491, val := Value.ref 87 }, { hash := PyData.keyHash P (Str.ofString "push_token"), key := Value.str (Str.ofString "push_token") 499, val := Value.ref 94 }, { hash := PyData.keyHash P (Str.ofString "__static_attributes__"), key := Value.str (Str.ofString "__static_attributes__") 504, val := Value.ref 95 }] 8 }
  , { cls := Value.type "tuple", data := Data.seq #[] }
  , { cls := Value.none, data := Data.fields #[Value.int 112 0, Value.int 4 0, Value.ref 72, Value.int 118 0, Value.int 4 0, Value.ref 79, Value.int 124 0, Value.int 4 0, Value.ref 86, Value.int 151 0, Value.int 4 0, Value.ref 93] }
  , { cls := Value.type "code", data := Data.fields #[Value.str (Str.ofString "_netrclex") 456, Value.str (Str.ofString "_netrclex") 457, Value.str (Str.ofString "/claim/cut.py") 458, Value.int 110 0, Value.int 0 0, Value.int 0 0, Value.int 0 0, Value.int 0 0, Value.ref 63, Value.bool false, Value.int 181 0, Value.ref 64, Value.none, Value.none, Value.none, Value.none, Value.int 459 0, Value.int 110 0, Value.str (Str.ofString "/claim/cut.py") 460] }
  , { cls := Value.type "frame", slots := #[some (Value.ref 65), some (Value.ref 3), some (Value.ref 62), none, some (Value.str (Str.ofString "cpy313.netrc") 452), none, some (Value.ref 0)] }
  , { cls := Value.type "tuple", data := Data.seq #[] }
  , { cls := Value.none, data := Data.fields #[] }
  , { cls := Value.type "tuple", data := Data.seq #[Value.str (Str.ofString "self") 469, Value.str (Str.ofString "fp") 470] }
  , { cls := Value.type "tuple", data := Data.seq #[] }
  , fc (stmC 61 0) "_netrclex.__init__"
  , ob72 P
  , ob73 P
  , { cls := Value.type "tuple", data := Data.seq #[] }
  , { cls := Value.none, data := Data.fields #[] }
  , { cls := Value.type "tuple", data := Data.seq #[Value.str (Str.ofString "self") 477, Value.str (Str.ofString "ch") 478] }
  , { cls := Value.type "tuple", data := Data.seq #[] }
  , fc (stmC 61 1) "_netrclex._read_char"
  , ob79 P
  , ob80 P
  , { cls := Value.type "tuple", data := Data.seq #[] }
  , { cls := Value.none, data := Data.fields #[] }
  , { cls := Value.type "tuple", data := Data.seq #[Value.str (Str.ofString "self") 485, Value.str (Str.ofString "token") 486, Value.str (Str.ofString "fiter") 487, Value.str (Str.ofString "ch") 488] }
  , { cls := Value.type "tuple", data := Data.seq #[] }
  , fc (stmC 61 2) "_netrclex.get_token"
  , ob86 P
  , ob87 P
  , { cls := Value.type "tuple", data := Data.seq #[] }
  , { cls := Value.none, data := Data.fields #[] }
  , { cls := Value.type "tuple", data := Data.seq #[Value.str (Str.ofString "self") 495, Value.str (Str.ofString "token") 496] }
  , { cls := Value.type "tuple", data := Data.seq #[] }
  , fc (stmC 61 3) "_netrclex.push_token"
  , ob93 P
  , ob94 P
  , { cls := Value.type "tuple", data := Data.seq #[Value.str (Str.ofString "instream") 500, Value.str (Str.ofString "lineno") 501, Value.str (Str.ofString "pushback") 502, Value.str (Str.ofString "whitespace") 503] }
  , ob96 P
  , ob97 P
  , ob98 P
  , ob99 P
  , { cls := Value.type "super", data := Data.fields #[Value.ref 97, Value.ref 97, Value.ref 97] }
  , { cls := Value.type "builtin_function_or_method", data := Data.fields #[Value.builtin "object.__init_subclass__", Value.ref 97] }
  , { cls := Value.type "tuple", data := Data.seq #[] }
  , { cls := Value.none, data := Data.fields #[] }
  , { cls := Value.type "tuple", data := Data.seq #[Value.str (Str.ofString "script") 517, Value.str (Str.ofString "heaps") 518, Value.str (Str.ofString "k") 519, Value.str (Str.ofString "x") 520] }
  , { cls := Value.type "tuple", data := Data.seq #[] }
  , fc (stm 63) "_law_heaps"
  , ob107 P
  , ob108 P
  , { cls := Value.type "tuple", data := Data.seq #[] }
  , { cls := Value.none, data := Data.fields #[] }
  , { cls := Value.type "tuple", data := Data.seq #[Value.str (Str.ofString "index") 527, Value.str (Str.ofString "row") 528] }
  , { cls := Value.type "tuple", data := Data.seq #[] }
  , fc (stm 64) "_law_signs"
  , ob114 P
  , ob115 P
  , { cls := Value.type "tuple", data := Data.seq #[] }
  , { cls := Value.none, data := Data.fields #[] }
  , { cls := Value.type "tuple", data := Data.seq #[Value.str (Str.ofString "heaps") 535, Value.str (Str.ofString "row") 536, Value.str (Str.ofString "figures") 537, Value.str (Str.ofString "k") 538, Value.str (Str.ofString "heap") 539] }
  , { cls := Value.type "tuple", data := Data.seq #[] }
  , fc (stm 65) "_law_drawn"
  , ob121 P
  , ob122 P
  , { cls := Value.type "tuple", data := Data.seq #[] }
  , { cls := Value.none, data := Data.fields #[] }
  , fc (stm 66) "_law_written"
  , ob126 P
  , ob127 P
  , { cls := Value.type "tuple", data := Data.seq #[] }
  , { cls := Value.none, data := Data.fields #[] }
  , { cls := Value.type "tuple", data := Data.seq #[Value.str (Str.ofString "signs") 552, Value.str (Str.ofString "feed") 553] }
  , { cls := Value.type "tuple", data := Data.seq #[Value.str (Str.ofString "signs") 554] }
  , fc (stm 67) "_law_feed"
  , ob133 P
  , ob134 P
  , { cls := Value.type "tuple", data := Data.seq #[] }
  , { cls := Value.none, data := Data.fields #[] }
  , { cls := Value.type "tuple", data := Data.seq #[Value.str (Str.ofString "lexer") 561, Value.str (Str.ofString "signs") 562, Value.str (Str.ofString "numbers") 563, Value.str (Str.ofString "left") 564, Value.str (Str.ofString "pairs") 565, Value.str (Str.ofString "word") 566, Value.str (Str.ofString "number") 567] }
  , { cls := Value.type "tuple", data := Data.seq #[] }
  , fc (stm 68) "_law_packed"
  , ob140 P
  , ob141 P
  , { cls := Value.type "tuple", data := Data.seq #[] }
  , { cls := Value.none, data := Data.fields #[] }
  , fc (stm 69) "_law_cut"
  , ob145 P
  , ob146 P
  , { cls := Value.type "tuple", data := Data.seq #[] }
  , { cls := Value.none, data := Data.fields #[] }
  , { cls := Value.type "tuple", data := Data.seq #[Value.str (Str.ofString "numbers") 580, Value.str (Str.ofString "octets") 581, Value.str (Str.ofString "number") 582] }
  , { cls := Value.type "tuple", data := Data.seq #[] }
  , fc (stm 70) "_law_octets"
  , ob152 P
  , ob153 P
  , { cls := Value.type "tuple", data := Data.seq #[] }
  , { cls := Value.none, data := Data.fields #[] }
  , { cls := Value.type "tuple", data := Data.seq #[Value.str (Str.ofString "colour") 589, Value.str (Str.ofString "other") 590, Value.str (Str.ofString "hue") 591] }
  , { cls := Value.type "tuple", data := Data.seq #[] }
  , fc (stm 71) "_law_turned"
  , ob159 P
  , ob160 P
  , { cls := Value.type "tuple", data := Data.seq #[] }
  , { cls := Value.none, data := Data.fields #[] }
  , fc (stm 72) "_law_unpacked"
  , ob164 P
  , ob165 P
  , { cls := Value.type "tuple", data := Data.seq #[] }
  , { cls := Value.none, data := Data.fields #[] }
  , fc (stm 73) "_law_painted"
  , ob169 P
  , ob170 P
  , { cls := Value.type "tuple", data := Data.seq #[] }
  , { cls := Value.none, data := Data.fields #[] }
  , fc (stm 74) "law"
  , ob174 P
  , ob175 P], {}⟩
noncomputable def KH (P : Params) : Frag :=
  [(2, ob2 P), (3, ob3 P), (15, ob15 P), (23, ob23 P), (24, ob24 P), (30, ob30 P), (31, ob31 P), (37, ob37 P), (38, ob38 P), (44, ob44 P), (45, ob45 P), (51, ob51 P), (52, ob52 P), (58, ob58 P), (59, ob59 P), (72, ob72 P), (73, ob73 P), (79, ob79 P), (80, ob80 P), (86, ob86 P), (87, ob87 P), (93, ob93 P), (94, ob94 P), (96, ob96 P), (97, ob97 P), (98, ob98 P), (99, ob99 P), (107, ob107 P), (108, ob108 P), (114, ob114 P), (115, ob115 P), (121, ob121 P), (122, ob122 P), (126, ob126 P), (127, ob127 P), (133, ob133 P), (134, ob134 P), (140, ob140 P), (141, ob141 P), (145, ob145 P), (146, ob146 P), (152, ob152 P), (153, ob153 P), (159, ob159 P), (160, ob160 P), (164, ob164 P), (165, ob165 P), (169, ob169 P), (170, ob170 P), (174, ob174 P), (175, ob175 P)]
noncomputable def KA : List Addr := [2, 3, 15, 23, 24, 30, 31, 37, 38, 44, 45, 51, 52, 58, 59, 72, 73, 79, 80, 86, 87, 93, 94, 96, 97, 98, 99, 107, 108, 114, 115, 121, 122, 126, 127, 133, 134, 140, 141, 145, 146, 152, 153, 159, 160, 164, 165, 169, 170, 174, 175]
noncomputable def vw : Program := PySem.W.view hr.prog [1, 2, 3, 4, 5, 6, 7, 8, 9, 10, 11, 12, 13, 14, 15, 16, 17, 18, 19, 20, 21, 22, 23, 24, 25, 26, 27, 28, 29, 30, 31, 32, 33, 34, 35, 36, 37, 38, 39, 40, 41, 42, 43, 44, 45, 46, 47, 48, 49, 50, 52, 53, 54, 56, 57, 59, 61, 62, 63, 64, 65, 66, 67, 68, 69, 70, 71, 72, 73, 74]
noncomputable def ls : List Str := [Str.ofString "EXACT_TOKEN_TYPES"]
noncomputable def HK : Hook := kmHook KH KA (fun _ => by kernel_rfl) [129]
theorem run_false (w : World) (os : OsState) : PySem.W.Fast.tw14082659384304107361 PySem.W.Fast.tw14364793385576792824 hr.prog (w.withFollow "special-get-raises" false) 11 (some (Value.ref 6)) 4812 ⟨boot_heap (w.withFollow "special-get-raises" false).params, Array.mk [], boot_drawn, boot_toks, os⟩ (topStub hr.prog) = some ⟨hp (w.withFollow "special-get-raises" false).params, Array.mk [], {}, 613, os⟩ := by kernel_rfl
theorem run_true (w : World) (os : OsState) : PySem.W.Fast.tw14082659384304107361 PySem.W.Fast.tw14364793385576792824 hr.prog (w.withFollow "special-get-raises" true) 11 (some (Value.ref 6)) 4812 ⟨boot_heap (w.withFollow "special-get-raises" true).params, Array.mk [], boot_drawn, boot_toks, os⟩ (topStub hr.prog) = some ⟨hp (w.withFollow "special-get-raises" true).params, Array.mk [], {}, 613, os⟩ := by kernel_rfl
theorem run_all (w : World) (os : OsState) : topRun treeTable hr.prog w 11 (some (Value.ref 6)) 4812 ⟨boot_heap w.params, Array.mk [], boot_drawn, boot_toks, os⟩ (topStub hr.prog) = some ⟨hp w.params, Array.mk [], {}, 613, os⟩ :=
  byRow2 "special-get-raises" (P := fun w => topRun treeTable hr.prog w 11 (some (Value.ref 6)) 4812 ⟨boot_heap w.params, Array.mk [], boot_drawn, boot_toks, os⟩ (topStub hr.prog) = some ⟨hp w.params, Array.mk [], {}, 613, os⟩)
    (fun w => by rw [PySem.W.Fast.te14082659384304107361, PySem.W.Fast.te14364793385576792824]; exact run_false w os) (fun w => by rw [PySem.W.Fast.te14082659384304107361, PySem.W.Fast.te14364793385576792824]; exact run_true w os) w
theorem opens : ∀ w : World, (fencedOpening treeTable hr.prog w 4812).map (fun s => (s.heap, s.gens, s.drawn, s.toks)) = some (boot_heap w.params, Array.mk [], boot_drawn, boot_toks) :=
  boot_open (by kernel_rfl) (by decide) (fun s => by kernel_rfl)
theorem see0 (w : World) (os : OsState) : (staticsOk (importedModules hr.prog.main.body) (boot_heap w.params) (hp w.params) && namesBound hr.prog (hp w.params) && gensDone ⟨hp w.params, Array.mk [], {}, 613, os⟩ && laidKept (boot_heap w.params) (hp w.params)) = true := by kernel_rfl
theorem see1 (w : World) (os : OsState) : seen ((recsOf vw).map (·.name)) (ownsOf vw) [] ⟨hp w.params, Array.mk [], {}, 613, os⟩ = expectedOf vw := by kernel_rfl
theorem see2 (w : World) : (hp w.params).bltView = bltViewBooted := by kernel_rfl
theorem see3 (w : World) : ((hp w.params).keysOk (looseW vw ls) ((recsOf vw).map (·.name)) ((litsOf vw).map (·.1)) ((clssOf vw (looseW vw ls)).map (·.name)) && (hp w.params).accountedOkI (importedModules hr.prog.main.body) && (hp w.params).isNs mainGlobals && (hp w.params).isNs builtinsNs) = true := by rw [PySem.W.Fast.te10880121769531294198, PySem.W.Fast.te14722251495701143533, PySem.W.Fast.te821141287760084731, PySem.W.Fast.te3399658132070893891, PySem.W.Fast.te7409074990110511671, PySem.W.Fast.te13664370479719496447]; kernel_rfl
theorem see4 (w : World) (os : OsState) : (tablesOk vw (hp w.params)) = true := by kernel_rfl
noncomputable abbrev Xt (s : Shared) : Bool := xlAt vw [] s && recOk (RowW.records hr.toRowW) s
theorem see5 (w : World) (os : OsState) : Xt ⟨hp w.params, Array.mk [], {}, 613, os⟩ = true := by kernel_rfl
theorem see6 (w : World) (os : OsState) : tabsOk vw ⟨hp w.params, Array.mk [], {}, 613, os⟩ = true := by rw [PySem.W.Fast.te479339242167458305]; kernel_rfl
theorem see7 (w : World) (os : OsState) : pinSeenD vw (drecsOf vw) ⟨hp w.params, Array.mk [], {}, 613, os⟩ = pinGoodD (drecsOf vw) := by kernel_rfl
theorem see8 (w : World) (os : OsState) : plainSeenE vw (looseW vw ls) ⟨hp w.params, Array.mk [], {}, 613, os⟩ = plainGoodE vw (looseW vw ls) := by rw [PySem.W.Fast.te2386780881361962483, PySem.W.Fast.te821141287760084731]; kernel_rfl
theorem see9 (w : World) (os : OsState) : plainSeenD vw ls ⟨hp w.params, Array.mk [], {}, 613, os⟩ = plainGoodD vw ls := by kernel_rfl
theorem see10 (w : World) (os : OsState) : wideSeen vw ⟨hp w.params, Array.mk [], {}, 613, os⟩ = wideGood vw := by rw [PySem.W.Fast.te7317090234206586261]; kernel_rfl
theorem see11 (w : World) (os : OsState) : clsSeenW vw ls ⟨hp w.params, Array.mk [], {}, 613, os⟩ = clsGoodW vw ls := by kernel_rfl
theorem see12 (w : World) (os : OsState) : Hook.obs HK ⟨hp w.params, Array.mk [], {}, 613, os⟩ = Hook.val HK w := by kernel_rfl
theorem three {a b c d e f : Bool} (x : (a && b && c && d) = true) (y : e = true) (z : f = true) : (a && b && c && d && e && f && true) = true := by rw [x, y, z]; rfl
theorem sees (w : World) (os : OsState) : openSeen vw ls (importedModules hr.prog.main.body) Xt true ⟨hp w.params, Array.mk [], {}, 613, os⟩ = openGood vw ls :=
  looks_pair (see1 w os) (looks_pair (see2 w) (looks_pair (three (see3 w) (see4 w os) (see5 w os)) (looks_pair (see6 w os) (looks_pair (see7 w os) (looks_pair (see8 w os) (looks_pair (see9 w os) (looks_pair (see10 w os) (see11 w os))))))))
theorem leftO : LeftO hr.prog vw ls Xt (Hook.obs HK) (Hook.val HK) 4812 :=
  LeftO.of_pieces (M := 4812) opens (fun w => by kernel_rfl) run_all (by decide) (fun w => funext fun os => looks_pair (see0 w os) (looks_pair (sees w os) (see12 w os)))
theorem said : OpenLaw.wellSaid PySem.Challenge.rw_uq0009_01 = true := by
  rw [PySem.W.Fast.te9446332074065402090]
  unfold PySem.W.Fast.tw9446332074065402090
  repeat' with_reducible apply look_both
  all_goals as_aux_lemma => kernel_rfl
noncomputable def lawD : DefRec := defn (stm 74)
theorem holds_of (walk : WalkO vw ls (XL vw []) (Hook.says HK) hr.toRowW lawD [] fun f vs => PySem.call f vs) : PySem.Challenge.rw_uq0009_01.Holds := by
  refine holds_law said fun sd => ?_
  refine holds_open (q := vw) (loose := ls) (Xt := Xt) (XP := XL vw []) (Yf := Hook.obs HK) (Ya := Hook.val HK) (YP := Hook.says HK) (d := lawD) (kwd := []) (N := 4812) leftO (Hook.of HK) (Hook.keeps HK) (fun s e => xl_of s (Bool.and_eq_true_iff.mp e).1) XL.keeps ?a1 ?a2 ?a3 (fun s e => recFacts_of (Bool.and_eq_true_iff.mp e).2) ?a4 sd ?a5 ?a6 ?hw walk
  case a1 => kernel_rfl
  case a2 => kernel_rfl
  case a3 => kernel_rfl
  case a4 => rfl
  case a5 => decide +kernel
  case a6 => exact ⟨rfl, rfl, rfl, rfl, rfl, by decide +kernel⟩
  case hw => w_witness2
end Mine
end
section
open PySem PySem.W PyProof.Rows PySem.Calls
namespace Mine
inductive PV where
  | int (i : Int)
  | flt (x : UInt64)
  | str (x : Str)
  | raw (v : Value)
noncomputable def PV.val : PV → Tok → Value
  | .int i, t => .int i t
  | .flt x, t => .float x (t + 1)
  | .str x, t => .str x t
  | .raw v, _ => v
abbrev PV.ref (a : Addr) : PV := .raw (.ref a)
abbrev PV.bool (b : Bool) : PV := .raw (.bool b)
abbrev PV.none : PV := .raw .none
def VS (v : Value) (p : PV) : Prop := ∃ t, v = p.val t
theorem VS.mk (p : PV) (t : Tok) : VS (p.val t) p := ⟨t, rfl⟩
theorem VS.flt {x : UInt64} {t : Tok} (h : 0 < t) : VS (.float x t) (.flt x) := ⟨t - 1, by
  show _ = Value.float x (t - 1 + 1)
  rw [Nat.sub_add_cancel h]⟩
theorem VS.unflt {v : Value} {x : UInt64} (h : VS v (.flt x)) : ∃ t, 0 < t ∧ v = .float x t := by
  obtain ⟨t, rfl⟩ := h
  exact ⟨t + 1, Nat.succ_pos t, rfl⟩
theorem VS.raw (v : Value) : VS v (.raw v) := ⟨0, rfl⟩
abbrev VSs := Paired VS
theorem Paired.app {α β : Type} {F : α → β → Prop} {l₁ l₁' : List α} {l₂ l₂' : List β} (h : Paired F l₁ l₂) (h' : Paired F l₁' l₂') : Paired F (l₁ ++ l₁') (l₂ ++ l₂') := by
  induction h with
  | nil => exact h'
  | cons h₁ _ ih => exact .cons h₁ ih
theorem Paired.get {α β : Type} {F : α → β → Prop} {l₁ : List α} {l₂ : List β} (h : Paired F l₁ l₂) {i : Nat} {b : β} (e : l₂[i]? = some b) : ∃ a, l₁[i]? = some a ∧ F a b := by
  induction h generalizing i with
  | nil => cases e
  | cons h₁ _ ih =>
    cases i with
    | zero => exact ⟨_, rfl, Option.some.inj e ▸ h₁⟩
    | succ n => exact ih e
/-- what is known of an object -/
abbrev AO := Obj → Prop
def aList (ps : List PV) : AO := fun o => ∃ vs n, o = { cls := .type "list", data := .seq vs n } ∧ VSs vs.toList ps
def aTup (ps : List PV) : AO := fun o => ∃ vs n, o = { cls := .type "tuple", data := .seq vs n } ∧ VSs vs.toList ps
def aInst (C dx : Addr) : AO := fun o => o = instObj C dx
abbrev Ents := Paired fun (e : DictEntry) (q : Str × PV) => (∃ t, e.key = .str q.1 t) ∧ VS e.val q.2
def aNs (qs : List (Str × PV)) : AO := fun o => ∃ es n, o = dictOf es n ∧ Ents es qs
abbrev Kinds := List (Str × NameKind)
abbrev Vars := List (Str × PV)
abbrev Led := List (Addr × AO)
structure Gd (w : World) (g : Heap) : Prop where
  X : (KH w.params).In g
  T : ∃ p loose mean mg mb, Top p loose mean mg mb g
/-- where a walk stands -/
structure Cx where
  prog : Program
  w : World
  A : Around
  env : Env
  g : Heap
  s₀ : Shared
  G : Gd w g
abbrev Cx.X (C : Cx) {α : Type} (t : Sem α) (Q : α → Shared → Prop) (s : Shared) : Prop := wpAny (model C.prog C.w) C.A t Q (fun _ _ => False) s
abbrev NoE : Value → Shared → Prop := fun _ _ => False
structure Env0 (env : Env) (ks : Kinds) : Prop where
  kind : env.scope.kind = .function
  glob : env.globals = mainGlobals
  blt : env.builtins = builtinsNs
  kd : ∀ x k, ks.lookup x = some k → env.kindOf x = some k
  no : ∀ y, y = Str.ofString "__debug__" ∨ y = Str.ofString "__classdict__" → ks.lookup y = none
  cs : ∀ x k, ks.lookup x = some k → k = .cell ∨ k = .free → ∃ c, env.cells.lookup x = some c
  apart : env.func.isSome = true → env.cells.Pairwise fun x y => x.2 ≠ y.2
/-- the locals `lm` and the ledger `l` stand -/
structure St (C : Cx) (ks : Kinds) (lm : Vars) (l : Led) (s : Shared) : Prop where
  V : Env0 C.env ks
  F : ∃ m cm : Str → Option Value, Fr C.g C.env.locals s.heap m ∧ (∀ x c, C.env.cells.lookup x = some c → s.heap.IsCell c (cm x)) ∧ ∀ x p, lm.lookup x = some p → ∃ v, (if ks.lookup x = some .local then m x else cm x) = some v ∧ VS v p
  K : ∀ x c, C.env.cells.lookup x = some c → c ≠ C.env.locals ∧ (∀ p ∈ l, p.1 ≠ c) ∧ (C.env.func.isSome = true → ks.lookup x = some .cell → C.g.get? c = none)
  N : ∀ p ∈ l, (∃ o, s.heap.get? p.1 = some o ∧ p.2 o) ∧ p.1 ≠ C.env.locals ∧ C.g.get? p.1 = none
  D : (l.map (·.1)).Nodup
  gens : s.gens = C.s₀.gens
  os : s.os = C.s₀.os
  tk : 0 < s.toks
section
variable {C : Cx} {ks : Kinds} {lm : Vars} {l : Led} {s : Shared}
noncomputable def St.m (H : St C ks lm l s) : Str → Option Value := Classical.choose H.F
noncomputable def St.cm (H : St C ks lm l s) : Str → Option Value := Classical.choose (Classical.choose_spec H.F)
theorem St.fr (H : St C ks lm l s) : Fr C.g C.env.locals s.heap H.m := (Classical.choose_spec (Classical.choose_spec H.F)).1
theorem St.cell (H : St C ks lm l s) (x : Str) (c : Addr) (e : C.env.cells.lookup x = some c) : s.heap.IsCell c (H.cm x) := (Classical.choose_spec (Classical.choose_spec H.F)).2.1 x c e
theorem St.val (H : St C ks lm l s) (x : Str) (p : PV) (e : lm.lookup x = some p) : ∃ v, (if ks.lookup x = some .local then H.m x else H.cm x) = some v ∧ VS v p := (Classical.choose_spec (Classical.choose_spec H.F)).2.2 x p e
theorem St.lt (H : St C ks lm l s) {p : Addr × AO} (hp : p ∈ l) : p.1 < s.heap.objs.size := by obtain ⟨⟨_, ho, _⟩, _⟩ := H.N p hp; exact Heap.lt_size ho
theorem St.Llt (H : St C ks lm l s) : C.env.locals < s.heap.objs.size := H.fr.ns.lt
theorem St.keep (H : St C ks lm l s) : ∀ b o, C.g.get? b = some o → s.heap.get? b = some o := H.fr.keep
theorem St.above (H : St C ks lm l s) : C.g.objs.size ≤ C.env.locals := H.fr.above
theorem St.gnone (H : St C ks lm l s) {a : Addr} (h : s.heap.objs.size ≤ a) : C.g.get? a = none := Heap.get?_none_of_le (Nat.le_trans H.above (Nat.le_trans (Nat.le_of_lt H.Llt) h))
theorem St.at (H : St C ks lm l s) {i : Nat} {a : Addr} {ao : AO} (hi : l[i]? = some (a, ao)) : ∃ o, s.heap.get? a = some o ∧ ao o :=
  (H.N _ (List.mem_of_getElem? hi)).1
theorem St.isL (H : St C ks lm l s) {i : Nat} {a : Addr} {ps : List PV} (hi : l[i]? = some (a, aList ps)) : ∃ vs n, IsL s.heap a vs n ∧ VSs vs.toList ps := by
  obtain ⟨o, ho, vs, n, rfl, r⟩ := H.at hi
  exact ⟨vs, n, ho, r⟩
/-- another heap that keeps what stands -/
theorem St.keeps (H : St C ks lm l s) {h' : Heap} {tk : Nat} (k : ∀ b o, s.heap.get? b = some o → h'.get? b = some o) (ht : s.toks ≤ tk := by first | exact Nat.le_refl _ | exact Nat.le_succ _ | omega) : St C ks lm l { s with heap := h', toks := tk } := by
  refine ⟨H.V, ⟨H.m, H.cm, H.fr.keeps k, fun x c e => (H.cell x c e).keeps k, H.val⟩, H.K, fun p hp => ?_, H.D, H.gens, H.os, Nat.lt_of_lt_of_le H.tk ht⟩
  obtain ⟨⟨o, ho, r⟩, q⟩ := H.N p hp
  exact ⟨⟨o, k _ _ ho, r⟩, q⟩
theorem St.toks (H : St C ks lm l s) (tk : Nat) (ht : s.toks ≤ tk := by first | exact Nat.le_refl _ | exact Nat.le_succ _ | omega) : St C ks lm l { s with toks := tk } := H.keeps (h' := s.heap) (fun _ _ e => e) ht
/-- a new object somewhere above -/
theorem St.make (H : St C ks lm l s) {a : Addr} {o : Obj} {ao : AO} {h' : Heap} {tk : Nat} (k : ∀ b o, s.heap.get? b = some o → h'.get? b = some o) (hn : s.heap.objs.size ≤ a) (e : h'.get? a = some o) (r : ao o) (ht : s.toks ≤ tk := by first | exact Nat.le_refl _ | exact Nat.le_succ _ | omega) :
    St C ks lm ((a, ao) :: l) { s with heap := h', toks := tk } := by
  have K := H.keeps (h' := h') (tk := tk) k ht
  have ne : ∀ b, b < s.heap.objs.size → a ≠ b := fun b h q => Nat.not_lt.mpr hn (q ▸ h)
  refine ⟨H.V, K.F, fun x c hx => ⟨(H.K x c hx).1, List.forall_mem_cons.mpr ⟨?_, (H.K x c hx).2.1⟩, (H.K x c hx).2.2⟩, List.forall_mem_cons.mpr ⟨⟨⟨o, e, r⟩, ne _ H.Llt, H.gnone hn⟩, K.N⟩, List.nodup_cons.mpr ⟨fun q => ?_, H.D⟩, H.gens, H.os, K.tk⟩
  · exact ne c (H.cell x c hx).lt
  · obtain ⟨p, hp, e⟩ := List.mem_map.mp q
    exact ne p.1 (H.lt hp) e.symm
theorem St.push (H : St C ks lm l s) {o : Obj} {ao : AO} (r : ao o) (hf : o.isFreed = false) {tk : Nat} (ht : s.toks ≤ tk := by first | exact Nat.le_refl _ | exact Nat.le_succ _ | omega) : St C ks lm ((s.heap.objs.size, ao) :: l) { s with heap := s.heap.push o, toks := tk } :=
  H.make (fun b o e => Heap.get?_push_of_some _ e) (Nat.le_refl _) (Heap.get?_push_size _ hf) r ht
theorem set_map {l : Led} {i : Nat} {a : Addr} {ao : AO} (ao' : AO) (hi : l[i]? = some (a, ao)) : (l.set i (a, ao')).map (·.1) = l.map (·.1) := by
  rw [List.map_set]
  refine List.ext_getElem? fun j => ?_
  have h1 : (l.map (·.1))[i]? = some a := by rw [List.getElem?_map, hi]; rfl
  rw [List.getElem?_set]
  split
  · rename_i q; subst q
    rw [if_pos (List.getElem?_eq_some_iff.mp h1).1, h1]
  · rfl
theorem set_at {l : Led} (D : (l.map (·.1)).Nodup) {i : Nat} {a : Addr} {ao ao' : AO} (hi : l[i]? = some (a, ao)) {p : Addr × AO} (hp : p ∈ l.set i (a, ao')) : p = (a, ao') ∨ (p ∈ l ∧ p.1 ≠ a) := by
  obtain ⟨j, hj⟩ := List.getElem?_of_mem hp
  rw [List.getElem?_set] at hj
  split at hj
  · split at hj
    · exact .inl (Option.some.inj hj).symm
    · cases hj
  · rename_i hne
    refine .inr ⟨List.mem_of_getElem? hj, fun w => hne ?_⟩
    have h1 : (l.map (·.1))[i]? = some a := by rw [List.getElem?_map, hi]; rfl
    have h2 : (l.map (·.1))[j]? = some a := by rw [List.getElem?_map, hj]; exact congrArg some w
    exact (List.getElem?_inj (List.getElem?_eq_some_iff.mp h1).1 D).mp (h1.trans h2.symm)
/-- the object at place i changes -/
theorem St.set (H : St C ks lm l s) {i : Nat} {a : Addr} {ao ao' : AO} {o' : Obj} {h' : Heap} {tk : Nat} (hi : l[i]? = some (a, ao)) (hs : Heap.SameBut a s.heap h') (e : h'.get? a = some o') (r : ao' o') (ht : s.toks ≤ tk := by first | exact Nat.le_refl _ | exact Nat.le_succ _ | omega) :
    St C ks lm (l.set i (a, ao')) { s with heap := h', toks := tk } := by
  have hm : (a, ao) ∈ l := List.mem_of_getElem? hi
  obtain ⟨-, haL, hag⟩ := H.N _ hm
  refine ⟨H.V, ⟨H.m, H.cm, ⟨H.fr.ns.sameBut hs (Ne.symm haL), fun b o q => (hs.2 b (fun w => by rw [w, hag] at q; cases q)).trans (H.keep b o q), H.above⟩, fun y c hy => (H.cell y c hy).sameBut hs (Ne.symm ((H.K y c hy).2.1 _ hm)), H.val⟩,
    fun y c hy => ⟨(H.K y c hy).1, fun p hp => ?_, (H.K y c hy).2.2⟩, fun p hp => ?_, set_map ao' hi ▸ H.D, H.gens, H.os, Nat.lt_of_lt_of_le H.tk ht⟩
  · rcases set_at H.D hi hp with rfl | hq
    · exact (H.K y c hy).2.1 (a, ao) hm
    · exact (H.K y c hy).2.1 p hq.1
  · rcases set_at H.D hi hp with rfl | hq
    · exact ⟨⟨o', e, r⟩, haL, hag⟩
    · obtain ⟨⟨o, ho, q⟩, b⟩ := H.N p hq.1
      exact ⟨⟨o, (hs.2 _ hq.2).trans ho, q⟩, b⟩
/-- entries may be forgotten and moved -/
theorem St.sub (H : St C ks lm l s) {l' : Led} (hs : l'.Sublist l) : St C ks lm l' s :=
  ⟨H.V, H.F, fun x c hx => ⟨(H.K x c hx).1, fun p hp => (H.K x c hx).2.1 p (hs.subset hp), (H.K x c hx).2.2⟩, fun p hp => H.N p (hs.subset hp), (hs.map _).nodup H.D, H.gens, H.os, H.tk⟩
theorem St.perm (H : St C ks lm l s) {l' : Led} (hs : l.Perm l') : St C ks lm l' s :=
  ⟨H.V, H.F, fun x c hx => ⟨(H.K x c hx).1, fun p hp => (H.K x c hx).2.1 p (hs.mem_iff.mpr hp), (H.K x c hx).2.2⟩, fun p hp => H.N p (hs.mem_iff.mpr hp), (hs.map _).nodup_iff.mp H.D, H.gens, H.os, H.tk⟩
theorem front_perm {α : Type} {l : List α} {i : Nat} {x : α} (h : l[i]? = some x) : l.Perm (x :: l.eraseIdx i) := by
  induction l generalizing i with
  | nil => cases h
  | cons y r ih =>
    cases i with
    | zero => exact Option.some.inj h ▸ .refl _
    | succ n => exact ((ih (i := n) h).cons y).trans (.swap _ _ _)
theorem St.front (H : St C ks lm l s) {i : Nat} {x : Addr × AO} (h : l[i]? = some x) : St C ks lm (x :: l.eraseIdx i) s := H.perm (front_perm h)
theorem St.drop1 {x : Addr × AO} (H : St C ks lm (x :: l) s) : St C ks lm l s := H.sub (List.sublist_cons_self _ _)
/-- locals may be forgotten -/
theorem St.locals (H : St C ks lm l s) {lm' : Vars} (h : ∀ x p, lm'.lookup x = some p → lm.lookup x = some p) : St C ks lm' l s := by
  exact ⟨H.V, ⟨H.m, H.cm, H.fr, H.cell, fun x p hx => H.val x p (h x p hx)⟩, H.K, H.N, H.D, H.gens, H.os, H.tk⟩
theorem St.pop {x : Str} {p : PV} (H : St C ks ((x, p) :: lm) l s) (h : lm.lookup x = none) : St C ks lm l s :=
  H.locals fun y q hy => by
    rw [List.lookup_cons, hy]
    cases e : y == x with
    | false => rfl
    | true => rw [eq_of_beq e, h] at hy; cases hy
/-- an object is let go: the heap without it -/
theorem St.lost {a : Addr} {ao : AO} (H : St C ks lm ((a, ao) :: l) s) {h' : Heap} {tk : Nat} (he : Heap.ExtBut a s.heap h') (ht : s.toks ≤ tk := by first | exact Nat.le_refl _ | exact Nat.le_succ _ | omega) : St C ks lm l { s with heap := h', toks := tk } := by
  obtain ⟨-, haL, hag⟩ := H.N _ (.head _)
  have nd := List.nodup_cons.mp H.D
  have H' := H.drop1
  refine ⟨H.V, ⟨H.m, H.cm, ⟨H.fr.ns.extBut he (Ne.symm haL), fun b o q => he b o (fun w => by rw [w, hag] at q; cases q) (H.keep b o q), H.above⟩, fun y c hy => ?_, H.val⟩, H'.K, fun p hp => ?_, nd.2, H.gens, H.os, Nat.lt_of_lt_of_le H.tk ht⟩
  · obtain ⟨o, ho, hd⟩ := H.cell y c hy
    exact ⟨o, he c o (Ne.symm ((H.K y c hy).2.1 _ (.head _))) ho, hd⟩
  · obtain ⟨⟨o, ho, q⟩, b⟩ := H'.N p hp
    exact ⟨⟨o, he _ _ (fun w => nd.1 (List.mem_map.mpr ⟨p, hp, w⟩)) ho, q⟩, b⟩
end
end Mine
end
section
open PySem PySem.W PyProof.Rows PySem.Calls
namespace Mine
structure Ok (A : Around) (n : Nat) : Prop where
  h : A.handled = none
  d : A.depth + n < 400
  u : A.units + 8 * n < 400
theorem Ok.less {A : Around} {n k : Nat} (h : Ok A n) (hk : k ≤ n) : Ok A k :=
  ⟨h.h, Nat.lt_of_le_of_lt (Nat.add_le_add_left hk _) h.d, Nat.lt_of_le_of_lt (Nat.add_le_add_left (Nat.mul_le_mul_left 8 hk) _) h.u⟩
theorem Ok.room {A : Around} {n : Nat} (h : Ok A n) : A.depth < recursionLimit :=
  Nat.lt_of_le_of_lt (Nat.le_add_right _ _) (Nat.lt_of_lt_of_le h.d (show 400 ≤ 1000 by decide))
theorem Ok.units {A : Around} {n : Nat} (h : Ok A n) : A.units < cLine := by
  have := h.u
  have := cLine_is
  omega
theorem Ok.deeper {A : Around} {n : Nat} (h : Ok A (n + 1)) (env : Env) : Ok (A.deeper env) n :=
  ⟨h.h, by have := h.d; show A.depth + 1 + n < 400; omega, by have := h.u; show A.units + 3 + 8 * n < 400; omega⟩
theorem Ok.in1 {A : Around} {n : Nat} (h : Ok A (n + 1)) : Ok A.in1 n :=
  ⟨h.h, by have := h.d; show A.depth + n < 400; omega, by have := h.u; show A.units + 1 + 8 * n < 400; omega⟩
noncomputable def gtab : Vars := [("NT_OFFSET", .int 256), ("ENDMARKER", .int 0), ("EXACT_TOKEN_TYPES", .ref 15), ("ISTERMINAL", .ref 24), ("ISNONTERMINAL", .ref 31), ("ISEOF", .ref 38), ("rgb_to_hsv", .ref 45),
  ("hsv_to_rgb", .ref 52), ("_parse_varint", .ref 59), ("_netrclex", .ref 97), ("_law_heaps", .ref 108), ("_law_signs", .ref 115), ("_law_drawn", .ref 122), ("_law_written", .ref 127), ("_law_feed", .ref 134), ("_law_packed", .ref 141), ("_law_cut", .ref 146), ("_law_octets", .ref 153),
  ("_law_turned", .ref 160), ("_law_unpacked", .ref 165), ("_law_painted", .ref 170)]
noncomputable def btab : List (Str × Value) := [("len", .builtin "len"), ("max", .builtin "max"), ("min", .builtin "min"), ("sum", .builtin "sum"), ("iter", .builtin "iter"), ("next", .builtin "next"),
  ("int", .type "int"), ("range", .type "range"), ("enumerate", .type "enumerate"), ("tuple", .type "tuple")]
theorem gtab_ok (P : Params) : ∀ q ∈ gtab, ∃ t, nsIn (KH P) mainGlobals q.1 = some (some (q.2.val t)) := by
  unfold gtab
  repeat' (first | exact List.forall_mem_nil _ | refine List.forall_mem_cons.mpr ⟨?_, ?_⟩)
  · exact ⟨_, rfl⟩
  · exact ⟨_, rfl⟩
  all_goals exact ⟨0, by kernel_rfl⟩
theorem btab_ok (P : Params) : ∀ q ∈ btab, nsIn (KH P) mainGlobals q.1 = some none ∧ bootBuiltins q.1 = some q.2 ∧ q.1 ≠ "__name__" := by
  unfold btab
  repeat' (first | exact List.forall_mem_nil _ | refine List.forall_mem_cons.mpr ⟨?_, ?_⟩)
  all_goals exact ⟨by kernel_rfl, by kernel_rfl, by decide +kernel⟩
theorem line_is : sizeLine = 2 ^ 24 := by decide +kernel
theorem bne_dec {α : Type} [DecidableEq α] (a b : α) : (a != b) = decide (a ≠ b) := by rw [decide_not]; rfl
theorem none_some {α : Type} {a : α} (h : (none : Option α) = some a) : False := nomatch h
theorem ite_none {c : Prop} [Decidable c] {α : Type} {x a : α} (h : (if c then some x else none) = some a) : c ∧ x = a := by
  split at h
  · exact ⟨‹_›, Option.some.inj h⟩
  · cases h
theorem bind_some {α β : Type} {x : Option α} {f : α → Option β} {c : β} (h : x.bind f = some c) : ∃ a, x = some a ∧ f a = some c := Option.bind_eq_some_iff.mp h
/-! operators -/
noncomputable def quot (a b : Int) : UInt64 := Float64.ofFrac (decide (a < 0) != decide (b < 0)) a.natAbs b.natAbs
noncomputable def binI (a b : Int) : Operator → Option PV
  | .Add => some (.int (a + b))
  | .Sub => some (.int (a - b))
  | .Mult => if a.natAbs < 2 ^ 62 ∧ b.natAbs < 2 ^ 62 then some (.int (a * b)) else none
  | .FloorDiv => if b ≠ 0 ∧ b.natAbs < 1073741824 then some (.int (a.fdiv b)) else none
  | .Mod => if b ≠ 0 then some (.int (a.fmod b)) else none
  | .BitAnd => some (.int (Builtin.bitAnd a b))
  | .Div => if b ≠ 0 ∧ ¬ Float64.isInf (quot a b) = true then some (.flt (quot a b)) else none
  | _ => none
noncomputable def binF (a b : UInt64) : Operator → Option PV
  | .Add => some (.flt (Float64.add a b))
  | .Sub => some (.flt (Float64.sub a b))
  | .Mult => some (.flt (Float64.mul a b))
  | .Div => if ¬ Float64.isZero b = true then some (.flt (Float64.div a b)) else none
  | .Mod => if ¬ Float64.isZero b = true then some (.flt (Float64.divmod a b).2) else none
  | _ => none
noncomputable def binIx (op : Operator) (a : Int) (b : PV) : Option PV := match b with
  | .int b => binI a b op
  | _ => none
noncomputable def subFI (op : Operator) (a : UInt64) (b : Int) : Option PV := if op = .Sub ∧ ¬ Float64.isInf (Float64.ofInt b) = true then some (.flt (Float64.sub a (Float64.ofInt b))) else none
noncomputable def binFx (op : Operator) (a : UInt64) (b : PV) : Option PV := match b with
  | .flt b => binF a b op
  | .int b => subFI op a b
  | _ => none
noncomputable def addS (op : Operator) (x y : Str) : Option PV := if op = .Add ∧ x.length + y.length ≤ 1000000 then some (.str (x ++ y)) else none
noncomputable def binSx (op : Operator) (x : Str) (b : PV) : Option PV := match b with
  | .str y => addS op x y
  | _ => none
noncomputable def bin (op : Operator) (a b : PV) : Option PV := match a with
  | .int a => binIx op a b
  | .flt a => binFx op a b
  | .str x => binSx op x b
  | .raw _ => none
noncomputable def cmpI (a b : Int) : CmpOp → Option Bool
  | .Eq => some (decide (a = b))
  | .NotEq => some (decide (a ≠ b))
  | .Lt => some (decide (a < b))
  | .LtE => some (decide (a ≤ b))
  | .Gt => some (decide (a > b))
  | .GtE => some (decide (a ≥ b))
  | _ => none
noncomputable def cmpS (x y : Str) : CmpOp → Option Bool
  | .Eq => some (decide (x = y))
  | .NotEq => some (decide (x ≠ y))
  | .In => some (!(Builtin.Str.occurrences y x 0 y.length 1).isEmpty)
  | _ => none
noncomputable def cmpIx (op : CmpOp) (a : Int) (b : PV) : Option Bool := match b with
  | .int b => cmpI a b op
  | _ => none
noncomputable def cmpSx (op : CmpOp) (x : Str) (b : PV) : Option Bool := match b with
  | .str y => cmpS x y op
  | _ => none
noncomputable def eqF (op : CmpOp) (a b : UInt64) : Option Bool := if op = .Eq then some (Float64.cmp a b == some Ordering.eq) else none
noncomputable def cmpFx (op : CmpOp) (a : UInt64) (b : PV) : Option Bool := match b with
  | .flt b => eqF op a b
  | _ => none
noncomputable def eqB (op : CmpOp) (a b : Bool) : Option Bool := if op = .Eq then some (a == b) else none
noncomputable def cmpBx (op : CmpOp) (a : Bool) (b : PV) : Option Bool := match b with
  | .raw (.bool b) => eqB op a b
  | _ => none
noncomputable def cmp (op : CmpOp) (a b : PV) : Option Bool := match a with
  | .int a => cmpIx op a b
  | .flt a => cmpFx op a b
  | .str x => cmpSx op x b
  | .raw (.bool a) => cmpBx op a b
  | _ => none
structure BinOk (op : Operator) (a b c : PV) : Prop where
  ok : ∀ (prog : Program) (w : World) (A : Around) (s : Shared) (E : Value → Shared → Prop) (Q : Value → Shared → Prop) (ta tb : Tok), 0 < s.toks → (∀ t tk, s.toks ≤ tk → Q (c.val t) { s with toks := tk }) → wpAny (model prog w) A (binaryOp op (a.val ta) (b.val tb)) Q E s
structure CmpOk (op : CmpOp) (a b : PV) (c : Bool) : Prop where
  ok : ∀ (prog : Program) (w : World) (A : Around) (s : Shared) (E : Value → Shared → Prop) (Q : Value → Shared → Prop) (ta tb : Tok), Q (.bool c) s → wpAny (model prog w) A (compareOp op (a.val ta) (b.val tb)) Q E s
theorem flq {x : UInt64} {s s' : Shared} {Q : Value → Shared → Prop} (h0 : 0 < s.toks) (h : Q ((PV.flt x).val (s.toks - 1)) s') : Q (.float x s.toks) s' := by
  have e : (PV.flt x).val (s.toks - 1) = .float x s.toks := congrArg (Value.float x) (Nat.sub_add_cancel h0)
  rw [← e]; exact h
theorem binI_ok {op : Operator} {a b : Int} {c : PV} (e : binI a b op = some c) : BinOk op (.int a) (.int b) c := by
  cases op with
  | Add => cases Option.some.inj e; exact .mk fun _ _ _ _ _ _ _ _ h0 h => add_int (h _ _ (Nat.le_succ _))
  | Sub => cases Option.some.inj e; exact .mk fun _ _ _ _ _ _ _ _ h0 h => sub_int (h _ _ (Nat.le_succ _))
  | Mult => obtain ⟨hh, rfl⟩ := ite_none e; exact .mk fun _ _ _ _ _ _ _ _ h0 h => mul_int (h _ _ (Nat.le_succ _)) (IntMulOk.of_left (intBits_le_64 (by omega) (by omega)))
  | FloorDiv => obtain ⟨hh, rfl⟩ := ite_none e; exact .mk fun _ _ _ _ _ _ _ _ h0 h => floordiv_int hh.1 (h _ _ (Nat.le_succ _)) (.inl (PyProof.noPylong_small hh.2))
  | Mod => obtain ⟨hh, rfl⟩ := ite_none e; exact .mk fun _ _ _ _ _ _ _ _ h0 h => mod_int' hh (h _ _ (Nat.le_succ _))
  | BitAnd => cases Option.some.inj e; exact .mk fun _ _ _ _ _ _ _ _ h0 h => and_int (h _ _ (Nat.le_succ _))
  | Div => obtain ⟨hh, rfl⟩ := ite_none e; exact .mk fun _ _ _ _ _ _ _ _ h0 h => AutoIntOps.truediv_2 (by simpa using hh.1) hh.2 (flq h0 (h _ _ (Nat.le_succ _)))
  | _ => exact (none_some e).elim
theorem binF_ok {op : Operator} {a b : UInt64} {c : PV} (e : binF a b op = some c) : BinOk op (.flt a) (.flt b) c := by
  cases op with
  | Add => cases Option.some.inj e; exact .mk fun _ _ _ _ _ _ _ _ h0 h => add_float (flq h0 (h _ _ (Nat.le_succ _)))
  | Sub => cases Option.some.inj e; exact .mk fun _ _ _ _ _ _ _ _ h0 h => sub_float (flq h0 (h _ _ (Nat.le_succ _)))
  | Mult => cases Option.some.inj e; exact .mk fun _ _ _ _ _ _ _ _ h0 h => mul_float (flq h0 (h _ _ (Nat.le_succ _)))
  | Div => obtain ⟨hh, rfl⟩ := ite_none e; exact .mk fun _ _ _ _ _ _ _ _ h0 h => AutoFloatOpsIf.truediv (by rw [if_neg hh]; exact flq h0 (h _ _ (Nat.le_succ _)))
  | Mod => obtain ⟨hh, rfl⟩ := ite_none e; exact .mk fun _ _ _ _ _ _ _ _ h0 h => AutoFloatOps.mod_1 hh (flq h0 (h _ _ (Nat.le_succ _)))
  | _ => exact (none_some e).elim
theorem bin_ok {op : Operator} {a b c : PV} (e : bin op a b = some c) : BinOk op a b c := by
  cases a with
  | int a =>
    replace e : binIx op a b = some c := e
    cases b with
    | int b => exact binI_ok e
    | _ => exact (none_some e).elim
  | flt a =>
    replace e : binFx op a b = some c := e
    cases b with
    | flt b => exact binF_ok e
    | int b =>
      replace e : subFI op a b = some c := e
      unfold subFI at e
      obtain ⟨⟨rfl, hb⟩, rfl⟩ := ite_none e; exact .mk fun _ _ _ _ _ _ _ _ h0 h => AutoFloatOps.sub_fi_1 hb (flq h0 (h _ _ (Nat.le_succ _)))
    | _ => exact (none_some e).elim
  | str x =>
    replace e : binSx op x b = some c := e
    cases b with
    | str y =>
      replace e : addS op x y = some c := e
      unfold addS at e
      obtain ⟨⟨rfl, hb⟩, rfl⟩ := ite_none e; exact .mk fun _ _ _ _ _ _ _ _ h0 h => wpAny_with_toks (Nat.le_refl _) (add_str (fun t tk ht => h t tk ht) (by rw [line_is]; omega))
    | _ => exact (none_some e).elim
  | raw v => exact (none_some (show (none : Option PV) = some c from e)).elim
theorem cmpI_ok {op : CmpOp} {a b : Int} {c : Bool} (e : cmpI a b op = some c) : CmpOk op (.int a) (.int b) c := by
  cases op with
  | Eq => cases Option.some.inj e; exact .mk fun _ _ _ _ _ _ _ _ h => eq_int h
  | NotEq => cases Option.some.inj e; exact .mk fun _ _ _ _ _ _ _ _ h => ne_int (by rw [bne_dec]; exact h)
  | Lt => cases Option.some.inj e; exact .mk fun _ _ _ _ _ _ _ _ h => lt_int h
  | LtE => cases Option.some.inj e; exact .mk fun _ _ _ _ _ _ _ _ h => le_int h
  | Gt => cases Option.some.inj e; exact .mk fun _ _ _ _ _ _ _ _ h => gt_int h
  | GtE => cases Option.some.inj e; exact .mk fun _ _ _ _ _ _ _ _ h => ge_int h
  | _ => exact (none_some e).elim
theorem cmpS_ok {op : CmpOp} {x y : Str} {c : Bool} (e : cmpS x y op = some c) : CmpOk op (.str x) (.str y) c := by
  cases op with
  | Eq => cases Option.some.inj e; exact .mk fun _ _ _ _ _ _ _ _ h => eq_str h
  | NotEq => cases Option.some.inj e; exact .mk fun _ _ _ _ _ _ _ _ h => ne_str (by rw [bne_dec]; exact h)
  | In => cases Option.some.inj e; exact .mk fun _ _ _ _ _ _ _ _ h => in_str h
  | _ => exact (none_some e).elim
theorem cmp_ok {op : CmpOp} {a b : PV} {c : Bool} (e : cmp op a b = some c) : CmpOk op a b c := by
  cases a with
  | int a =>
    replace e : cmpIx op a b = some c := e
    cases b with
    | int b => exact cmpI_ok e
    | _ => exact (none_some e).elim
  | str x =>
    replace e : cmpSx op x b = some c := e
    cases b with
    | str y => exact cmpS_ok e
    | _ => exact (none_some e).elim
  | flt a =>
    replace e : cmpFx op a b = some c := e
    cases b with
    | flt b =>
      replace e : eqF op a b = some c := e
      unfold eqF at e
      obtain ⟨rfl, rfl⟩ := ite_none e; exact .mk fun _ _ _ _ _ _ _ _ h => AutoFloatOps.eq_0 h
    | _ => exact (none_some e).elim
  | raw u =>
    cases u with
    | bool a =>
      replace e : cmpBx op a b = some c := e
      cases b with
      | raw v =>
        cases v with
        | bool b =>
          replace e : eqB op a b = some c := e
          unfold eqB at e
          obtain ⟨rfl, rfl⟩ := ite_none e; exact .mk fun _ _ _ _ _ _ _ _ h => eq_bool h
        | _ => exact (none_some e).elim
      | _ => exact (none_some e).elim
    | _ => exact (none_some e).elim
end Mine
end
section
open PySem PySem.W PyProof.Rows PySem.Calls
namespace Mine
noncomputable def nmK (lm : Vars) (x : Str) : NameKind → Option PV
  | .local => lm.lookup x
  | .cell => lm.lookup x
  | .free => lm.lookup x
  | .globalImplicit => (gtab.lookup x).or ((btab.lookup x).map .raw)
  | _ => none
noncomputable def nm (ks : Kinds) (lm : Vars) (x : Str) : Option PV := (ks.lookup x).bind (nmK lm x)
noncomputable def cst : Const → Option PV
  | .int i => some (.int i)
  | .float x => some (.flt x)
  | .str x => some (.str x)
  | .bool b => some (.raw (.bool b))
  | .none => some (.raw .none)
  | _ => none
noncomputable def una (op : UnaryOp) (a : PV) : Option PV := match op with
  | .USub => match a with
    | .int i => some (.int (-i))
    | _ => none
  | _ => none
def one {α : Type} (l : List α) : Option α := if l.length = 1 then l.head? else none
noncomputable def ev (ks : Kinds) (lm : Vars) : Nat → Expr → Option PV
  | 0, _ => none
  | n + 1, e => match e with
    | .Name x _ => nm ks lm x
    | .Constant c _ _ => cst c
    | .BinOp l op r _ => (ev ks lm n l).bind fun a => (ev ks lm n r).bind fun b => bin op a b
    | .Compare l ops rs _ => (one ops).bind fun op => (one rs).bind fun r => (if behindInMarks op r = true then none else some ()).bind fun _ => (ev ks lm n l).bind fun a => (ev ks lm n r).bind fun b => (cmp op a b).bind fun c => some (.bool c)
    | .UnaryOp op x _ => (ev ks lm n x).bind (una op)
    | _ => none
noncomputable def evs (ks : Kinds) (lm : Vars) (n : Nat) : List Expr → Option (List PV)
  | [] => some []
  | e :: r => (ev ks lm n e).bind fun p => (evs ks lm n r).bind fun ps => some (p :: ps)
/-- the truth of a value -/
noncomputable def tr : PV → Option Bool
  | .int i => some (decide (i ≠ 0))
  | .raw v => match v with
    | .bool b => some b
    | _ => none
  | _ => none
theorem one_eq {α : Type} {l : List α} {a : α} (h : one l = some a) : l = [a] := by
  unfold one at h
  split at h
  · rename_i q
    obtain ⟨b, rfl⟩ := List.length_eq_one_iff.mp q
    exact congrArg (fun x => [x]) (Option.some.inj h)
  · cases h
theorem not_marks {b : Bool} {u : Unit} (h : (if b = true then none else some ()) = some u) : b = false := by
  cases b with
  | true => cases h
  | false => rfl
section
variable {C : Cx} {ks : Kinds} {lm : Vars} {l : Led} {s : Shared}
theorem nm_ok {x : Str} {p : PV} {Q : Value → Shared → Prop} (H : St C ks lm l s) (e : nm ks lm x = some p) (h : ∀ v, VS v p → Q v s) : C.X (loadName C.env x) Q s := by
  obtain ⟨k, hk, e⟩ := bind_some e
  have V := H.V
  have hkd := V.kd _ _ hk
  cases k with
  | «local» =>
    obtain ⟨v, hv, q⟩ := H.val x p e
    rw [if_pos hk] at hv
    exact wpAny_loadName_local V.kind hkd H.fr.ns hv (h v q)
  | cell =>
    obtain ⟨v, hv, q⟩ := H.val x p e
    rw [if_neg (by rw [hk]; exact nofun)] at hv
    obtain ⟨c, hx⟩ := V.cs x _ hk (.inl rfl)
    exact wpAny_loadName_cell V.kind hkd hx (hv ▸ H.cell x c hx) (h v q)
  | free =>
    obtain ⟨v, hv, q⟩ := H.val x p e
    rw [if_neg (by rw [hk]; exact nofun)] at hv
    obtain ⟨c, hx⟩ := V.cs x _ hk (.inr rfl)
    refine wpAny_loadName_free V.kind hkd hx (hv ▸ H.cell x c hx) (h v q) ?_
    rw [beq_eq_false_iff_ne]; rintro rfl; rw [V.no _ (.inr rfl)] at hk; cases hk
  | globalImplicit =>
    obtain ⟨p', loose, mean, mg, mb, T⟩ := C.G.T
    have hg : s.heap.Ns C.env.globals mg := V.glob ▸ T.g.keeps H.keep
    have hb : s.heap.Ns C.env.builtins mb := V.blt ▸ T.b.keeps H.keep
    have hld : ∀ v, (∀ Q : Value → Shared → Prop, Q v s → C.X (loadGlobal C.env x) Q s) → Q v s → C.X (loadName C.env x) Q s := by
      intro v hv hq
      show wpAny _ _ (loadName C.env x) _ _ _
      unfold loadName
      simp only [Env.blockKind, V.kind, hkd, ScopeKind.isAnnotationScope, Bool.false_and, Bool.false_eq_true, if_false]
      exact hv Q hq
    rcases Option.or_eq_some_iff.mp (show (gtab.lookup x).or ((btab.lookup x).map .raw) = some p from e) with hgt | ⟨-, hgt⟩
    · obtain ⟨t, ht⟩ := gtab_ok C.w.params _ (mem_of_lookup hgt)
      exact hld _ (fun Q hq => loadGlobal_global hg (mg_of C.G.X T.g ht) hq) (h _ (.mk p t))
    · obtain ⟨v, hbt, rfl⟩ := Option.map_eq_some_iff.mp hgt
      obtain ⟨h1, h2, h3⟩ := btab_ok C.w.params _ (mem_of_lookup hbt)
      exact hld _ (fun Q hq => loadGlobal_builtin hg (mg_none_of C.G.X T.g h1) hb ((T.builtins x h3).trans h2) hq) (h _ (.raw v))
  | _ => exact (none_some e).elim
theorem nm_kind {x : Str} {p : PV} (H : St C ks lm l s) (e : nm ks lm x = some p) : (x == ("__debug__" : Str)) = false := by
  rw [beq_eq_false_iff_ne]; rintro rfl
  unfold nm at e
  rw [H.V.no _ (.inl rfl)] at e
  cases e
theorem Name_ok {x : Str} {pos : Pos} {p : PV} {Q : Value → Shared → Prop} (H : St C ks lm l s) (e : nm ks lm x = some p) (h : ∀ v, VS v p → Q v s) : C.X (eval (.Name x pos) C.env) Q s := wpAny_Name (nm_ok H e h) (nm_kind H e)
theorem cst_ok {c : Const} {k : Nat} {pos : Pos} {p : PV} {Q : Value → Shared → Prop} (H : St C ks lm l s) (e : cst c = some p) (h : ∀ v s', VS v p → St C ks lm l s' → Q v s') : C.X (eval (.Constant c k pos) C.env) Q s := by
  cases c with
  | int i => cases Option.some.inj e; exact wpAny_Constant_int (h _ _ (.mk (.int i) _) (H.toks _))
  | float x => cases Option.some.inj e; exact PySem.wpAny_Constant_float (h _ _ (VS.flt H.tk) (H.toks _))
  | str x => cases Option.some.inj e; exact wpAny_Constant_str (h _ _ (.mk (.str x) _) (H.toks _))
  | bool b => cases Option.some.inj e; exact wpAny_Constant_bool (h _ _ (.raw _) H)
  | none => cases Option.some.inj e; exact wpAny_Constant_none (h _ _ (.raw _) H)
  | _ => exact (none_some e).elim
/-- the value of an expression -/
structure EvOk (C : Cx) (ks : Kinds) (lm : Vars) (l : Led) (e : Expr) (p : PV) : Prop where
  ok : ∀ (s : Shared) (Q : Value → Shared → Prop), St C ks lm l s → (∀ v s', VS v p → St C ks lm l s' → Q v s') → C.X (eval e C.env) Q s
  test : ∀ (b : Bool) (s : Shared) (Q : Bool → Shared → Prop), tr p = some b → St C ks lm l s → (∀ s', St C ks lm l s' → Q b s') → C.X (isTrue e C.env (eval e C.env)) Q s
theorem tr_ok {p : PV} {v : Value} {b : Bool} {Q : Bool → Shared → Prop} (hb : tr p = some b) (hv : VS v p) (h : Q b s) : C.X (truthy v) Q s := by
  obtain ⟨t, rfl⟩ := hv
  cases p with
  | int i => cases Option.some.inj hb; exact truthy_int (by rw [bne_dec]; exact h)
  | raw u =>
    cases u with
    | bool b => cases Option.some.inj hb; exact wpAny_truthy_bool h
    | _ => exact (none_some hb).elim
  | _ => exact (none_some hb).elim
theorem EvOk.of {e : Expr} {p : PV} (ht : ∀ {s : Shared} {Q : Bool → Shared → Prop}, C.X (eval e C.env) (fun v s₁ => C.X (truthy v) Q s₁) s → C.X (isTrue e C.env (eval e C.env)) Q s)
    (h : ∀ (s : Shared) (Q : Value → Shared → Prop), St C ks lm l s → (∀ v s', VS v p → St C ks lm l s' → Q v s') → C.X (eval e C.env) Q s) : EvOk C ks lm l e p :=
  ⟨h, fun b s Q hb H k => ht (h s _ H fun v s' hv H' => tr_ok hb hv (k s' H'))⟩
theorem ev_all {n : Nat} {e : Expr} {p : PV} (he : ev ks lm n e = some p) : EvOk C ks lm l e p := by
  induction n generalizing e p with
  | zero => exact (none_some he).elim
  | succ n ih =>
    cases e with
    | Name x pos => exact .of wpAny_isTrue_value fun s Q H h => Name_ok H he fun v q => h v s q H
    | Constant c k pos => exact .of wpAny_isTrue_value fun s Q H h => cst_ok H he h
    | BinOp a op b pos =>
      obtain ⟨pa, ha, he⟩ := bind_some he
      obtain ⟨pb, hb, he⟩ := bind_some he
      refine .of wpAny_isTrue_value fun s Q H h => wpAny_BinOp ((ih ha).ok s _ H fun v s' hv H' => (ih hb).ok s' _ H' fun v2 s2 hv2 H2 => ?_)
      obtain ⟨ta, rfl⟩ := hv
      obtain ⟨tb, rfl⟩ := hv2
      exact (bin_ok he).ok _ _ _ _ _ _ _ _ H2.tk fun t tk ht => h _ _ (.mk p t) (H2.toks tk ht)
    | Compare a ops rs pos =>
      obtain ⟨op, h1, he⟩ := bind_some he
      obtain ⟨r, h2, he⟩ := bind_some he
      cases one_eq h1
      cases one_eq h2
      obtain ⟨_, hm, he⟩ := bind_some he
      obtain ⟨pa, ha, he⟩ := bind_some he
      obtain ⟨pb, hb, he⟩ := bind_some he
      obtain ⟨c, hc, he⟩ := bind_some he
      cases Option.some.inj he
      have key : ∀ (s : Shared) (Q : Value → Shared → Prop), St C ks lm l s → (∀ s', St C ks lm l s' → Q (.bool c) s') → C.X (eval a C.env) (fun u s₁ => C.X (eval r C.env) (fun v s₂ => C.X (compareOp op u v) Q s₂) s₁) s := by
        refine fun s Q H h => (ih ha).ok s _ H fun v s' hv H' => (ih hb).ok s' _ H' fun v2 s2 hv2 H2 => ?_
        obtain ⟨ta, rfl⟩ := hv
        obtain ⟨tb, rfl⟩ := hv2
        exact (cmp_ok hc).ok _ _ _ _ _ _ _ _ (h _ H2)
      refine ⟨fun s Q H h => wpAny_Compare1 (key s Q H fun s' H' => h _ s' (.raw _) H') (not_marks hm), fun b s Q hb H h => wpAny_isTrue_Compare1 (key s _ H fun s' H' => ?_) (not_marks hm)⟩
      cases Option.some.inj hb
      exact wpAny_truthy_bool (h _ H')
    | UnaryOp op x pos =>
      obtain ⟨pa, ha, he⟩ := bind_some he
      cases op with
      | USub =>
        cases pa with
        | int i =>
          cases Option.some.inj he
          refine .of wpAny_isTrue_value fun s Q H h => UnaryOp_ ((ih ha).ok s _ H fun v s' hv H' => ?_)
          obtain ⟨t, rfl⟩ := hv
          exact neg_int (h _ _ (.mk (.int (-i)) _) (H'.toks _))
        | _ => exact (none_some he).elim
      | _ => exact (none_some he).elim
    | _ => exact (none_some he).elim
theorem ev_ok {e : Expr} {p : PV} {Q : Value → Shared → Prop} (n : Nat) (H : St C ks lm l s) (he : ev ks lm n e = some p) (h : ∀ v s', VS v p → St C ks lm l s' → Q v s') : C.X (eval e C.env) Q s := (ev_all he).ok s Q H h
theorem test_ok {e : Expr} {p : PV} {b : Bool} {Q : Bool → Shared → Prop} (n : Nat) (H : St C ks lm l s) (he : ev ks lm n e = some p) (hb : tr p = some b) (h : ∀ s', St C ks lm l s' → Q b s') : C.X (isTrue e C.env (eval e C.env)) Q s :=
  (ev_all he).test b s Q hb H h
end
end Mine
end
section
open PySem PySem.W PyProof.Rows PySem.Calls
namespace Mine
section
variable {C : Cx} {ks : Kinds} {lm : Vars} {l : Led} {s : Shared}
theorem noE {α : Type} {M : Model} {A : Around} {t : Sem α} {Q : α → Shared → Prop} {E : Value → Shared → Prop} (h : wpAny M A t Q NoE s) : wpAny M A t Q E s := wpAny_mono h (fun _ _ x => x) fun _ _ x => x.elim
theorem storeL {x : Str} {v : Value} {p : PV} {Q : Unit → Shared → Prop} (H : St C ks lm l s) (hk : ks.lookup x = some .local) (hv : VS v p)
    (h : ∀ s', St C ks ((x, p) :: lm) l s' → Q () s') : C.X (storeName C.env x v) Q s := by
  obtain ⟨m, cm, F, hc, hm⟩ := H.F
  refine wpAny_storeName_local (H.V.kd _ _ hk) F.ns (fun h' hn hs => h _ ⟨H.V, ⟨_, cm, F.set hn hs, fun y c hy => (hc y c hy).sameBut hs (H.K y c hy).1, fun y q hq => ?_⟩, H.K, fun p hp => ?_, H.D, H.gens, H.os, Nat.lt_of_lt_of_le H.tk (Nat.le_succ _)⟩) (by
    show (C.env.scope.kind == .class || (C.env.scope.kind == .module && C.env.locals != C.env.globals)) = false; rw [H.V.kind]; rfl)
  · rw [List.lookup_cons] at hq
    split at hq
    · rename_i e
      cases eq_of_beq e
      cases Option.some.inj hq
      exact ⟨v, (if_pos hk).trans (if_pos rfl), hv⟩
    · rename_i e
      obtain ⟨v', h1, h2⟩ := hm y q hq
      exact ⟨v', by rw [if_neg (c := y = x) fun w => Bool.noConfusion (e.symm.trans (beq_iff_eq.mpr w))]; exact h1, h2⟩
  · obtain ⟨⟨o, ho, r⟩, a, b⟩ := H.N p hp
    exact ⟨⟨o, (hs.2 _ a).trans ho, r⟩, a, b⟩
theorem storeC {x : Str} {v : Value} {p : PV} {Q : Unit → Shared → Prop} (H : St C ks lm l s) (hk : ks.lookup x = some .cell) (hf : C.env.func.isSome = true) (hv : VS v p)
    (h : ∀ s', St C ks ((x, p) :: lm) l s' → Q () s') : C.X (storeName C.env x v) Q s := by
  obtain ⟨m, cm, F, hc, hm⟩ := H.F
  obtain ⟨c, hx⟩ := H.V.cs x _ hk (.inl rfl)
  obtain ⟨k1, k2, k3⟩ := H.K x c hx
  refine wpAny_storeName_cell H.V.kind (H.V.kd _ _ hk) hx (hc x c hx) fun h' hv' hs => h _ ⟨H.V, ⟨m, fun y => if y = x then some v else cm y,
    ⟨F.ns.sameBut hs (Ne.symm k1), fun b o q => (hs.2 b (fun w => by rw [w, k3 hf hk] at q; cases q)).trans (F.keep b o q), F.above⟩, fun y c' hy => ?_, fun y q hq => ?_⟩, H.K, fun p hp => ?_, H.D, H.gens, H.os, H.tk⟩
  · by_cases e : y = x
    · subst e
      cases Option.some.inj (hx.symm.trans hy)
      show h'.IsCell c (if y = y then some v else cm y)
      rw [if_pos rfl]; exact hv'
    · show h'.IsCell c' (if y = x then some v else cm y)
      rw [if_neg e]
      exact (hc y c' hy).sameBut hs fun w => e (name_of_addr (H.V.apart hf) (mem_of_lookup hy) (w ▸ mem_of_lookup hx))
  · rw [List.lookup_cons] at hq
    split at hq
    · rename_i e
      cases eq_of_beq e
      cases Option.some.inj hq
      exact ⟨v, (if_neg (by rw [hk]; exact nofun)).trans (if_pos rfl), hv⟩
    · rename_i e
      obtain ⟨v', h1, h2⟩ := hm y q hq
      exact ⟨v', by show (if ks.lookup y = some .local then m y else if y = x then some v else cm y) = some v'; rw [if_neg (c := y = x) fun w => Bool.noConfusion (e.symm.trans (beq_iff_eq.mpr w))]; exact h1, h2⟩
  · obtain ⟨⟨o, ho, r⟩, a, b⟩ := H.N p hp
    exact ⟨⟨o, (hs.2 _ (k2 p hp)).trans ho, r⟩, a, b⟩
theorem store_ok {x : Str} {v : Value} {p : PV} {Q : Unit → Shared → Prop} (H : St C ks lm l s) (hk : ks.lookup x = some .local ∨ (ks.lookup x = some .cell ∧ C.env.func.isSome = true)) (hv : VS v p)
    (h : ∀ s', St C ks ((x, p) :: lm) l s' → Q () s') : C.X (storeName C.env x v) Q s := hk.elim (fun hk => storeL H hk hv h) fun hk => storeC H hk.1 hk.2 hv h
/-! statements, one ahead of the rest -/
variable {rest : List Stmt} {Q : Flow → Shared → Prop}
abbrev Cx.B (C : Cx) (b : List Stmt) (Q : Flow → Shared → Prop) (s : Shared) : Prop := C.X (execs b C.env) Q s
theorem seq_assign {x : Str} {p' pos : Pos} {e : Expr}
    (h : C.X (eval e C.env) (fun v s₁ => C.X (storeName C.env x v) (fun _ s₂ => C.B rest Q s₂) s₁) s)
    (hs : swapsWith e (some (.Name x p')) pos.line C.env = pure false := by rfl) : C.B (.Assign [.Name x p'] e pos :: rest) Q s :=
  wpAny_execs_cons (wpAny_Assign_Name h hs)
theorem seq_return {e : Expr} {pos : Pos} (h : C.X (eval e C.env) (fun v => Q (.ret v)) s) : C.B (.Return (some e) pos :: rest) Q s :=
  wpAny_execs_cons (wpAny_Return_some h)
theorem seq_expr {e : Expr} {pos : Pos} (V : Env0 C.env ks) (h : C.X (eval e C.env) (fun _ s₁ => C.B rest Q s₁) s)
    (hs : swapsWith e none pos.line C.env = pure false := by rfl) : C.B (.Expr e pos :: rest) Q s :=
  wpAny_execs_cons (wpAny_Expr_any h (by unfold interactive; rw [V.kind]; rfl) hs)
/-- what follows a block -/
def Then (C : Cx) (rest : List Stmt) (Q : Flow → Shared → Prop) (f : Flow) (s : Shared) : Prop := match f with
  | .next => C.B rest Q s
  | f => Q f s
theorem seq_then {st : Stmt} (h : C.X (exec st C.env) (Then C rest Q) s) : C.B (st :: rest) Q s :=
  wpAny_execs_cons (wpAny_mono h (fun f _ h' => by cases f <;> exact h') fun _ _ x => x)
theorem then_next (h : C.B rest Q s) : C.B [] (Then C rest Q) s := wpAny_execs_nil h
theorem seq_nil (h : Q .next s) : C.B [] Q s := wpAny_execs_nil h
theorem seq_cont {pos : Pos} (h : Q .cont s) : C.B (.Continue pos :: rest) Q s := wpAny_execs_cons (wpAny_Continue h)
/-! the same with a pure right side -/
theorem do_assign {x : Str} {p' pos : Pos} {e : Expr} {p : PV} (n : Nat) (H : St C ks lm l s) (he : ev ks lm n e = some p)
    (h : ∀ s', St C ks ((x, p) :: lm) l s' → C.B rest Q s') (hk : ks.lookup x = some .local ∨ (ks.lookup x = some .cell ∧ C.env.func.isSome = true) := by exact .inl rfl)
    (hs : swapsWith e (some (.Name x p')) pos.line C.env = pure false := by rfl) : C.B (.Assign [.Name x p'] e pos :: rest) Q s :=
  seq_assign (ev_ok n H he fun v s' hv H' => store_ok H' hk hv h) hs
theorem do_return {e : Expr} {pos : Pos} {p : PV} (n : Nat) (H : St C ks lm l s) (he : ev ks lm n e = some p)
    (h : ∀ v s', VS v p → St C ks lm l s' → Q (.ret v) s') : C.B (.Return (some e) pos :: rest) Q s :=
  seq_return (ev_ok n H he h)
/-- an if whose test is walked by hand -/
theorem seq_if {t : Expr} {body orelse : List Stmt} {pos : Pos}
    (h : C.X (isTrue t C.env (eval t C.env)) (fun b s₂ => (b = true → C.B body (Then C rest Q) s₂) ∧ (b = false → C.B orelse (Then C rest Q) s₂)) s) :
    C.B (.If t body orelse pos :: rest) Q s := seq_then (wpAny_If (wpAny_mono h (fun b s' hb => by
      cases b with
      | true => exact hb.1 rfl
      | false => exact hb.2 rfl) fun _ _ x => x))
theorem do_if {t : Expr} {body orelse : List Stmt} {pos : Pos} {p : PV} {b : Bool} (n : Nat) (H : St C ks lm l s) (he : ev ks lm n t = some p) (hb : tr p = some b)
    (ht : b = true → ∀ s', St C ks lm l s' → C.B body (Then C rest Q) s')
    (hf : b = false → ∀ s', St C ks lm l s' → C.B orelse (Then C rest Q) s') : C.B (.If t body orelse pos :: rest) Q s :=
  seq_if (test_ok n H he hb fun s' H' => ⟨fun e => ht e s' H', fun e => hf e s' H'⟩)
noncomputable def ibinI (a b : Int) : Operator → Option PV
  | .Add => some (.int (a + b))
  | .BitOr => some (.int (Builtin.bitOr a b))
  | .LShift => if 0 ≤ b ∧ b ≤ 1000 ∧ a.natAbs < 2 ^ 64 then some (.int (a * 2 ^ b.toNat)) else none
  | _ => none
noncomputable def ibin (op : Operator) (a b : PV) : Option PV := match a with
  | .int a => match b with
    | .int b => ibinI a b op
    | _ => none
  | .str x => match b with
    | .str y => addS op x y
    | _ => none
  | _ => none
structure IBinOk (op : Operator) (a b c : PV) : Prop where
  ok : ∀ (prog : Program) (w : World) (A : Around) (s : Shared) (E : Value → Shared → Prop) (Q : Value → Shared → Prop) (ta tb : Tok), (∀ t tk, s.toks ≤ tk → Q (c.val t) { s with toks := tk }) → wpAny (model prog w) A (inplaceOp op (a.val ta) (b.val tb)) Q E s
theorem ibin_ok {op : Operator} {a b c : PV} (e : ibin op a b = some c) : IBinOk op a b c := by
  cases a with
  | int a =>
    cases b with
    | int b =>
      replace e : ibinI a b op = some c := e
      cases op with
      | Add => cases Option.some.inj e; exact .mk fun _ _ _ _ _ _ _ _ h => PyProof.Rows.iadd_int (h _ _ (Nat.le_succ _))
      | BitOr => cases Option.some.inj e; exact .mk fun _ _ _ _ _ _ _ _ h => ior_int (h _ _ (Nat.le_succ _))
      | LShift => obtain ⟨hb, rfl⟩ := ite_none e; exact .mk fun _ _ _ _ _ _ _ _ h => ilshift_int_small hb.1 (by omega) hb.2.2 (h _ _ (Nat.le_succ _))
      | _ => exact (none_some e).elim
    | _ => exact (none_some e).elim
  | str x =>
    cases b with
    | str y =>
      replace e : addS op x y = some c := e
      unfold addS at e
      obtain ⟨⟨rfl, hb⟩, rfl⟩ := ite_none e; exact .mk fun _ _ _ _ _ _ _ _ h => wpAny_with_toks (Nat.le_refl _) (PyProof.Rows.iadd_str (fun t tk ht => h t tk ht) (by rw [line_is]; omega))
    | _ => exact (none_some e).elim
  | _ => exact (none_some e).elim
theorem do_aug {x : Str} {p' pos : Pos} {op : Operator} {e : Expr} {a b c : PV} (n : Nat) (H : St C ks lm l s) (ha : nm ks lm x = some a) (he : ev ks lm n e = some b) (hc : ibin op a b = some c)
    (h : ∀ s', St C ks ((x, c) :: lm) l s' → C.B rest Q s') (hk : ks.lookup x = some .local ∨ (ks.lookup x = some .cell ∧ C.env.func.isSome = true) := by exact .inl rfl) : C.B (.AugAssign (.Name x p') op e pos :: rest) Q s := by
  refine wpAny_execs_cons (wpAny_AugAssign_Name (nm_ok H ha fun v hv => ev_ok n H he fun v2 s2 hv2 H2 => ?_))
  obtain ⟨t, rfl⟩ := hv
  obtain ⟨t2, rfl⟩ := hv2
  exact (ibin_ok hc).ok _ _ _ _ _ _ _ _ fun t' tk ht => store_ok (H2.toks tk ht) hk (.mk c t') h
end
end Mine
end
section
open PySem PySem.W PyProof.Rows PySem.Calls
namespace Mine
noncomputable def P0 : Params := { strHash := fun _ => 0, shareClass := fun _ => 0, mergeTok := id, idOf := fun a => a, idOfShared := fun _ _ => 0, followText := fun _ => true, idOfImm := fun _ => 0 }
noncomputable def fdOf (a : Addr) : FuncData := match (KH P0).lookup a with
  | some ⟨_, _, .func fd, _⟩ => fd
  | _ => default
noncomputable def bodyOf (a : Addr) : List Stmt := match (fdOf a).body with
  | .stmts b => b
  | _ => []
noncomputable def Bind (fd : FuncData) (params : List Str) : Prop := match params with
  | [] => False
  | x :: r => match r with
    | [] => ∀ a, bindArgs fd ⟨[a], []⟩ = pure [(x, a)]
    | y :: r => match r with
      | [] => ∀ a b, bindArgs fd ⟨[a, b], []⟩ = pure [(x, a), (y, b)]
      | z :: r => match r with
        | [] => ∀ a b c, bindArgs fd ⟨[a, b, c], []⟩ = pure [(x, a), (y, b), (z, c)]
        | _ => False
theorem Bind.zip {fd : FuncData} {params : List Str} {vs : List Value} (h : Bind fd params) (hl : params.length = vs.length) : bindArgs fd ⟨vs, []⟩ = pure (params.zip vs) := by
  rcases params with _ | ⟨x, _ | ⟨y, _ | ⟨z, _ | ⟨_, _⟩⟩⟩⟩
  · exact h.elim
  · obtain ⟨a, rfl⟩ := List.length_eq_one_iff.mp hl.symm
    exact h a
  · rcases vs with _ | ⟨a, _ | ⟨b, _ | ⟨_, _⟩⟩⟩ <;> first | exact h a b | cases hl
  · rcases vs with _ | ⟨a, _ | ⟨b, _ | ⟨c, _ | ⟨_, _⟩⟩⟩⟩ <;> first | exact h a b c | cases hl
  · exact h.elim
/-- what the written part says of a def -/
structure Def (a : Addr) (params : List Str) : Prop where
  at_ : ∀ P, (KH P).lookup a = some ⟨.type "function", none, .func (fdOf a), #[]⟩
  code : ∀ P, (codeIn (KH P) (fdOf a).code (fdOf a).qualname && keepIn (KH P) (.ref a)) = true
  body : (fdOf a).body = .stmts (bodyOf a)
  bind : Bind (fdOf a) params
  flag : ((fdOf a).scope.isCoroutine || (fdOf a).scope.isGenerator || !(fdOf a).scope.kind == .function) = false
  glob : (fdOf a).globals = mainGlobals
  blt : (fdOf a).builtins = builtinsNs
  clos : (fdOf a).closure = []
/-- the kinds of names that a walk of the def uses -/
noncomputable def ksOk (a : Addr) (params : List Str) (ks : Kinds) (n : Nat) : Bool :=
  (params.all fun x => (ks.lookup x == some .local) || (ks.lookup x == some .cell)) &&
  (ks.all fun q => ((fdOf a).scope.names.lookup q.1 == some q.2) && !(q.1 == Str.ofString "__debug__") && !(q.1 == Str.ofString "__classdict__") && !(q.2 == .free) && (!(q.2 == .cell) || ((cellsFrom n (fdOf a).scope.names []).lookup q.1).isSome))
theorem bound {k : Str → Option NameKind} {ks : Kinds} (hk : ∀ x q, ks.lookup x = some q → k x = some q) {params : List Str} {vs : List Value} {ps : List PV} (hv : VSs vs ps) (hp : ∀ x ∈ params, ks.lookup x = some .local ∨ ks.lookup x = some .cell) (nd : params.Nodup) :
    ∀ m cm x, (x ∉ params → bindL k (params.zip vs) m x = m x ∧ bindC k (params.zip vs) cm x = cm x) ∧
      ∀ p, (params.zip ps).lookup x = some p → ∃ v, (if ks.lookup x = some .local then bindL k (params.zip vs) m x else bindC k (params.zip vs) cm x) = some v ∧ VS v p := by
  induction hv generalizing params with
  | nil => intro m cm x; rw [List.zip_nil_right, List.zip_nil_right]; exact ⟨fun _ => ⟨rfl, rfl⟩, fun p h => nomatch h⟩
  | cons a _ ih =>
    rename_i v q vs ps _
    intro m cm x
    cases params with
    | nil => exact ⟨fun _ => ⟨rfl, rfl⟩, fun p h => nomatch h⟩
    | cons y r =>
      have nd' := List.nodup_cons.mp nd
      have I := fun m cm => ih (params := r) (fun x h => hp x (.tail _ h)) nd'.2 m cm x
      refine ⟨fun hx => ?_, fun p h => ?_⟩
      · have hxy : x ≠ y := fun e => hx (e ▸ .head _)
        obtain ⟨h1, h2⟩ := (I (if k y = some .local then fun z => if z = y then some v else m z else m) (if k y = some .local then cm else fun z => if z = y then some v else cm z)).1 fun h => hx (.tail _ h)
        refine ⟨h1.trans ?_, h2.trans ?_⟩
        · split
          · exact if_neg hxy
          · rfl
        · split
          · rfl
          · exact if_neg hxy
      · rw [List.zip_cons_cons, List.lookup_cons] at h
        split at h
        · rename_i e
          cases eq_of_beq e
          cases Option.some.inj h
          refine ⟨v, ?_, a⟩
          obtain ⟨h1, h2⟩ := (I (if k x = some .local then fun z => if z = x then some v else m z else m) (if k x = some .local then cm else fun z => if z = x then some v else cm z)).1 nd'.1
          rcases hp x (.head _) with e | e
          · rw [if_pos e]
            exact h1.trans (by rw [if_pos (hk _ _ e)]; exact if_pos rfl)
          · have e' := hk _ _ e
            rw [if_neg (by rw [e]; exact nofun)]
            exact h2.trans (by rw [if_neg (by rw [e']; exact nofun)]; exact if_pos rfl)
        · exact (I _ _).2 p h
section
variable {C : Cx} {ks : Kinds} {lm : Vars} {l : Led} {s : Shared}
theorem St.hid (H : St C ks lm l s) {b : Addr} {o : Obj} (e : C.g.get? b = some o) : (hideAll s.heap (l.map (·.1))).get? b = some o :=
  hideAll_get _ (H.keep b o e) fun q => by
    obtain ⟨p, hp, rfl⟩ := List.mem_map.mp q
    rw [(H.N p hp).2.2] at e; cases e
/-- behind a call the caller's facts stand again -/
theorem St.back (H : St C ks lm l s) {C' : Cx} {ks' : Kinds} {lm' : Vars} {l' : Led} {s' : Shared} (hg : C'.g = hideAll s.heap (l.map (·.1))) (h0 : C'.s₀ = C.s₀) (H' : St C' ks' lm' l' s') : St C ks lm l' s' := by
  obtain ⟨m, cm, F, hc, hm⟩ := H.F
  have kp : ∀ b o, s.heap.get? b = some o → (∀ p ∈ l, p.1 ≠ b) → C'.g.get? b = some o := fun b o e n => by
    rw [hg]; exact hideAll_get _ e fun q => by
      obtain ⟨p, hp, e⟩ := List.mem_map.mp q
      exact n p hp e
  obtain ⟨oL, es, ep, hL, hd, hk, hf⟩ := F.ns
  have hLg := kp _ _ hL fun p hp => (H.N p hp).2.1
  have nk : ∀ b o, s.heap.get? b = some o → (∀ p ∈ l, p.1 ≠ b) → ∀ p ∈ l', p.1 ≠ b := fun b o e n p hp q => by
    have := (H'.N p hp).2.2
    rw [q, kp b o e n] at this; cases this
  refine ⟨H.V, ⟨m, cm, ⟨⟨oL, es, ep, H'.keep _ _ hLg, hd, hk, hf⟩, fun b o e => H'.keep _ _ (hg ▸ H.hid e), F.above⟩, fun x c hx => ?_, hm⟩, fun x c hx => ?_, fun p hp => ?_, H'.D, H'.gens.trans (by rw [h0]), H'.os.trans (by rw [h0]), H'.tk⟩
  · obtain ⟨o, ho, hd⟩ := hc x c hx
    exact ⟨o, H'.keep _ _ (kp c o ho (H.K x c hx).2.1), hd⟩
  · obtain ⟨o, ho, -⟩ := hc x c hx
    exact ⟨(H.K x c hx).1, nk c o ho (H.K x c hx).2.1, (H.K x c hx).2.2⟩
  · refine ⟨(H'.N p hp).1, nk _ _ hL (fun p hp => (H.N p hp).2.1) p hp, ?_⟩
    cases q : C.g.get? p.1 with
    | none => rfl
    | some o =>
      have := (H'.N p hp).2.2
      rw [hg, H.hid q] at this; cases this
theorem St.Gd (H : St C ks lm l s) : Gd C.w (hideAll s.heap (l.map (·.1))) := by
  obtain ⟨p, lo, me, mg, mb, T⟩ := C.G.T
  exact ⟨C.G.X.keeps fun b o e => H.hid e, p, lo, me, mg, mb, T.keeps fun b o e => H.hid e⟩
/-- the frame within -/
noncomputable def St.cx (H : St C ks lm l s) (A : Around) (env : Env) : Cx := ⟨C.prog, C.w, A, env, hideAll s.heap (l.map (·.1)), C.s₀, H.Gd⟩
/-- a call that returns -/
def retv (f : Flow) : Value := match f with
  | .ret v => v
  | _ => .none
noncomputable def Ret (Q : Value → Shared → Prop) (r : Result) (s : Shared) : Prop := match r with
  | .ok f => match f with
    | .ret v => Q v s
    | _ => False
  | _ => False
theorem call_of {f : Value} {vs : List Value} {Q : Value → Shared → Prop} (h : codeAny (model C.prog C.w) C.A (.call f ⟨vs, []⟩) (Ret Q) s) : C.X (call f vs) Q s :=
  wpAny_call (codeAny_mono h fun r s' hr => by
    cases r with
    | error e => exact hr.elim
    | ok f => cases f <;> first | exact hr | exact hr.elim)
/-- where a def may be entered: the ledger, and the ground without it -/
structure Base0 (w : World) (s₀ : Shared) (l : Led) (s : Shared) : Prop where
  N : ∀ p ∈ l, ∃ o, s.heap.get? p.1 = some o ∧ p.2 o
  D : (l.map (·.1)).Nodup
  gens : s.gens = s₀.gens
  os : s.os = s₀.os
  G : Mine.Gd w (hideAll s.heap (l.map (·.1)))
structure Base (w : World) (s₀ : Shared) (l : Led) (s : Shared) : Prop where
  b0 : Base0 w s₀ l s
  tk : 0 < s.toks
/-- one name bound to a local: a token goes -/
theorem bind_one {M : Model} {A : Around} {E : Value → Shared → Prop} {s₀ s : Shared} {m cm : Str → Option Value} {env : Env} {n : Str} {v : Value} {Q : Unit → Shared → Prop} (x : InCallC s₀ env.locals m env.cells cm s) (hk : env.scope.kind = .function) (hl : env.kindOf n = some .local)
    (h : ∀ s', InCallC s₀ env.locals (fun y => if y = n then some v else m y) env.cells cm s' → 0 < s'.toks → Q () s') : wpAny M A (storeName env n v) Q E s := by
  refine wpAny_storeName_local hl x.toInCall.ns (fun h' hn hs => h _ ?_ (Nat.succ_pos _)) (by rw [hk]; rfl)
  obtain ⟨⟨⟨h₁, tk, e⟩, -, kp, fr⟩, cell, apart, above⟩ := x
  exact ⟨⟨⟨h', s.toks + 1, by rw [e]⟩, hn, fun b o e => hs.extBut b o (Nat.ne_of_lt (Nat.lt_of_lt_of_le (Heap.lt_size e) fr)) (kp b o e), fr⟩, fun k c hc => (cell k c hc).sameBut hs (Nat.ne_of_gt (above k c (mem_of_lookup hc))), apart, above⟩
theorem newEnvP {M : Model} {A : Around} {E : Value → Shared → Prop} {s : Shared} {scope : Scope} {globals : Addr} {binds : List (Str × Value)} {qual : Str} {func : Option Addr} {code : Value} {builtins : Addr} {Q : Env → Shared → Prop}
    (hk : scope.kind = .function)
    (hkind : ∀ x ∈ binds, scope.names.lookup x.1 = some .local ∨ (scope.names.lookup x.1 = some .cell ∧ ((cellsFrom (s.heap.objs.size + 1) scope.names []).lookup x.1).isSome = true))
    (hp : 0 < s.toks ∨ ∃ x v, binds = [(x, v)] ∧ scope.names.lookup x = some .local)
    (hQ : ∀ env, env = newEnv scope s.heap.objs.size globals (cellsFrom (s.heap.objs.size + 1) scope.names []) qual func code none builtins →
      ∀ s', InCallC s env.locals (bindL env.kindOf binds fun _ => none) env.cells (bindC env.kindOf binds fun _ => none) s' → 0 < s'.toks → Q env s') :
    wpAny M A (newFunctionEnv scope globals [] binds qual func code none builtins) Q E s := by
  rcases hp with hp | ⟨x, v, rfl, hl⟩
  · exact wpAny_with_toks (n := 1) hp (wpAny_newFunctionEnv_cells hk hkind fun env he s' x ht => hQ env he s' x ht)
  · unfold newFunctionEnv
    simp only [Option.isSome_none, Bool.false_eq_true, if_false]
    refine wpAny_bind (wpAny_alloc ?_)
    refine wpAny_bind (wpAny_layCells _ (fun name kind cells => by cases hkc : kind == NameKind.cell <;> simp) _ _ _ _ ?_)
    have ok := cellsFrom_ok scope.names (s.heap.push { cls := .type "frame", data := .dict #[] }) (s.heap.objs.size + 1) [] ⟨fun _ _ hm => (nomatch hm), List.Pairwise.nil⟩ (by rw [Heap.size_push]; exact Nat.le_refl _)
    rw [Heap.size_push] at ok
    rw [show ({ s with heap := s.heap.push { cls := .type "frame", data := .dict #[] } } : Shared).heap.objs.size = s.heap.objs.size + 1 from Heap.size_push ..]
    rw [List.forIn_cons]
    have hl' : (newEnv scope s.heap.objs.size globals (cellsFrom (s.heap.objs.size + 1) scope.names []) qual func code none builtins).kindOf x = some .local := hl
    refine wpAny_bind (wpAny_bind (wpAny_bind (bind_one (s₀ := s) (env := newEnv scope s.heap.objs.size globals (cellsFrom (s.heap.objs.size + 1) scope.names []) qual func code none builtins) (m := fun _ => none) (cm := fun _ => none)
      ⟨⟨⟨_, _, rfl⟩, (Heap.Ns.new s.heap (.type "frame")).keeps (pushCells_keeps _ _), fun b o e => pushCells_keeps _ _ b o (Heap.get?_push_of_some _ e), Nat.le_refl _⟩, fun n c hc => (ok.empty n c (mem_of_lookup hc)).1, ok.apart, fun n c hm => (ok.empty n c hm).2⟩ hk hl fun s' x' ht => wpAny_pure ?_)))
    refine wpAny_pure (a := PUnit.unit) (wpAny_pure (hQ _ rfl s' ?_ ht))
    unfold bindL bindC
    rw [if_pos hl', if_pos hl']
    exact x'
theorem Base0.keep {w : World} {s₀ : Shared} {l : Led} {s : Shared} (B : Base0 w s₀ l s) : ∀ b o, (hideAll s.heap (l.map (·.1))).get? b = some o → s.heap.get? b = some o := fun b o e => of_hideAll _ e
theorem enterP {prog : Program} {w : World} {s₀ s : Shared} {l : Led} {a : Addr} {params : List Str} {vs : List Value} {ps : List PV} {Q : Value → Shared → Prop} {A : Around} (n : Nat) (D : Def a params) (ks' : Kinds) (hks : ∀ n, ksOk a params ks' n = true) (nd : params.Nodup) (B : Base0 w s₀ l s) (hpos : 0 < s.toks ∨ ∃ x, params = [x] ∧ ks'.lookup x = some .local) (hA : Ok A (n + 1)) (hv : VSs vs ps) (hl : params.length = ps.length)
    (h : ∀ (C' : Cx) s', C'.prog = prog → C'.w = w → C'.s₀ = s₀ → C'.g = hideAll s.heap (l.map (·.1)) → Ok C'.A n → C'.env = callEnvC (fdOf a) C'.env.locals a → St C' ks' (params.zip ps) l s' → C'.B (bodyOf a) (fun f => Q (retv f)) s') :
    codeAny (model prog w) A (.call (.ref a) ⟨vs, []⟩) (Ret Q) s := by
  obtain ⟨p, lo, me, mg, mb, T⟩ := B.G.T
  have fl := D.flag
  simp only [Bool.or_eq_false_iff] at fl
  have kf : (fdOf a).scope.kind = .function := by have := fl.2; simpa using this
  have hk0 := fun n => Bool.and_eq_true_iff.mp (hks n)
  have hpar : ∀ x ∈ params, ks'.lookup x = some .local ∨ ks'.lookup x = some .cell := fun x hx => by simpa using List.all_eq_true.mp (hk0 0).1 x hx
  have hkd : ∀ x k, ks'.lookup x = some k → (fdOf a).scope.names.lookup x = some k ∧ x ≠ Str.ofString "__debug__" ∧ x ≠ Str.ofString "__classdict__" ∧ k ≠ .free ∧ ∀ n, k = .cell → ∃ c, (cellsFrom n (fdOf a).scope.names []).lookup x = some c := fun x k e => by
    have q := fun n => List.all_eq_true.mp (hk0 n).2 _ (mem_of_lookup e)
    simp only [Bool.and_eq_true, Bool.or_eq_true, Bool.not_eq_true', beq_iff_eq, beq_eq_false_iff_ne] at q
    exact ⟨(q 0).1.1.1.1, (q 0).1.1.1.2, (q 0).1.1.2, (q 0).1.2, fun n hc => ((q n).2.resolve_left fun w => w hc) |> Option.isSome_iff_exists.mp⟩
  have code := fun P => Bool.and_eq_true_iff.mp (D.code P)
  have lt : ∀ {p : Addr × AO}, p ∈ l → p.1 < s.heap.objs.size := fun hp => let ⟨o, ho, _⟩ := B.N _ hp; Heap.lt_size ho
  have hp' : 0 < s.toks ∨ ∃ x v, params.zip vs = [(x, v)] ∧ (fdOf a).scope.names.lookup x = some .local := by
    rcases hpos with hp | ⟨x, e1, e2⟩
    · exact .inl hp
    · obtain ⟨v, e3⟩ := List.length_eq_one_iff.mp (hv.length.trans (hl.symm.trans (congrArg List.length e1)))
      exact .inr ⟨x, v, by rw [e1, e3]; rfl, (hkd _ _ e2).1⟩
  refine codeAny_call_function hA.room (B.keep _ _ (B.G.X _ _ (D.at_ w.params))) rfl fl.1.1 fl.1.2 D.body (codeRec_of (B.G.X.keeps B.keep) (code _).1) (BindsTo.of_eq (D.bind.zip (hl.trans hv.length.symm)) _ _ _ _ ?_)
  rw [D.clos]
  refine newEnvP kf (fun x hx => ?_) hp' fun env he s' x ht => ?_
  · have hx' : x.1 ∈ params := (List.of_mem_zip (a := x.1) (b := x.2) hx).1
    exact (hpar _ hx').imp (fun e => (hkd _ _ e).1) fun e => ⟨(hkd _ _ e).1, Option.isSome_iff_exists.mpr ((hkd _ _ e).2.2.2.2 _ rfl)⟩
  · have hL : s.heap.objs.size = env.locals := by rw [he]; rfl
    have hcl : env.cells = cellsFrom (env.locals + 1) (fdOf a).scope.names [] := by rw [he]; rfl
    have hko : ∀ x k, ks'.lookup x = some k → env.kindOf x = some k := fun x k e => by rw [he]; exact (hkd x k e).1
    refine ⟨(T.nolimit.keeps B.keep).keeps x.toInCall.keep, codeAny_func ?_⟩
    have hso : s'.gens = s.gens ∧ s'.os = s.os := by
      obtain ⟨_, _, e⟩ := x.toInCall.same
      rw [e]; exact ⟨rfl, rfl⟩
    let C' : Cx := ⟨prog, w, A.deeper env, env, hideAll s.heap (l.map (·.1)), s₀, B.G⟩
    have eC : C'.env = env := rfl
    refine wpAny_mono (noE (h C' s' rfl rfl rfl rfl (hA.deeper _) (by rw [eC, he]; rfl) ⟨⟨by rw [eC, he]; exact kf, by rw [eC, he]; exact D.glob, by rw [eC, he]; exact D.blt, hko, fun y hy => ?_, fun x k e hk => ?_, fun _ => x.apart⟩,
      ⟨_, _, ⟨x.toInCall.ns, fun b o e => x.toInCall.keep b o (of_hideAll _ e), by show (hideAll _ _).objs.size ≤ _; rw [hideAll_size]; exact x.toInCall.fresh⟩, x.cell, fun y q hq => (bound hko hv hpar nd _ _ y).2 q hq⟩, fun y c hy => ?_, fun p hp => ?_, B.D, hso.1.trans B.gens, hso.2.trans B.os, ht⟩)) (fun f s'' hq => hq) fun _ _ z => z
    · cases q : ks'.lookup y with
      | none => rfl
      | some k =>
        have := hkd y k q
        exact absurd hy fun w => w.elim this.2.1 this.2.2.1
    · obtain ⟨c, hc⟩ := (hkd x k e).2.2.2.2 (env.locals + 1) (hk.resolve_right (hkd x k e).2.2.2.1)
      exact ⟨c, by rw [eC, hcl]; exact hc⟩
    · have hgt := x.above y c (mem_of_lookup hy)
      have hge : s.heap.objs.size ≤ c := hL ▸ Nat.le_of_lt hgt
      exact ⟨Nat.ne_of_gt hgt, fun p hp e => absurd (e ▸ lt hp) (Nat.not_lt.mpr hge), fun _ _ => Heap.get?_none_of_le (by show (hideAll _ _).objs.size ≤ _; rw [hideAll_size]; exact hge)⟩
    · obtain ⟨o, ho, r⟩ := B.N p hp
      exact ⟨⟨o, x.toInCall.keep _ _ ho, r⟩, fun e => absurd (e ▸ lt hp) (by rw [hL]; exact Nat.lt_irrefl _), hideAll_none _ (List.mem_map_of_mem hp)⟩
theorem enterB {prog : Program} {w : World} {s₀ s : Shared} {l : Led} {a : Addr} {params : List Str} {vs : List Value} {ps : List PV} {Q : Value → Shared → Prop} {A : Around} (n : Nat) (D : Def a params) (ks' : Kinds) (hks : ∀ n, ksOk a params ks' n = true) (nd : params.Nodup) (B : Base w s₀ l s) (hA : Ok A (n + 1)) (hv : VSs vs ps) (hl : params.length = ps.length)
    (h : ∀ (C' : Cx) s', C'.prog = prog → C'.w = w → C'.s₀ = s₀ → C'.g = hideAll s.heap (l.map (·.1)) → Ok C'.A n → C'.env = callEnvC (fdOf a) C'.env.locals a → St C' ks' (params.zip ps) l s' → C'.B (bodyOf a) (fun f => Q (retv f)) s') :
    codeAny (model prog w) A (.call (.ref a) ⟨vs, []⟩) (Ret Q) s := enterP n D ks' hks nd B.b0 (.inl B.tk) hA hv hl h
theorem St.base (H : St C ks lm l s) : Base C.w C.s₀ l s := ⟨⟨fun p hp => (H.N p hp).1, H.D, H.gens, H.os, H.Gd⟩, H.tk⟩
theorem enterC {a : Addr} {params : List Str} {vs : List Value} {ps : List PV} {Q : Value → Shared → Prop} {A : Around} (n : Nat) (D : Def a params) (ks' : Kinds) (hks : ∀ n, ksOk a params ks' n = true) (nd : params.Nodup) (H : St C ks lm l s) (hA : Ok A (n + 1)) (hv : VSs vs ps) (hl : params.length = ps.length)
    (h : ∀ C' s', Ok C'.A n → C'.env = callEnvC (fdOf a) C'.env.locals a → St C' ks' (params.zip ps) l s' → (∀ lm' l' s', St C' ks' lm' l' s' → St C ks lm l' s') → C'.B (bodyOf a) (fun f => Q (retv f)) s') :
    codeAny (model C.prog C.w) A (.call (.ref a) ⟨vs, []⟩) (Ret Q) s :=
  enterB n D ks' hks nd H.base hA hv hl fun C' s' _ _ h0 hg hA' he H' => h C' s' hA' he H' fun lm' l' s'' H'' => St.back H hg h0 H''
/-- a cell of a frame that is left -/
theorem St.backCell (H : St C ks lm l s) {C' : Cx} {ks' : Kinds} {lm' : Vars} {l' : Led} {s' : Shared} (hg : C'.g = hideAll s.heap (l.map (·.1))) (h0 : C'.s₀ = C.s₀) (H' : St C' ks' lm' l' s') {x : Str} {c : Addr} {p : PV} (hx : C'.env.cells.lookup x = some c) (hf : C'.env.func.isSome = true) (hk : ks'.lookup x = some .cell) (hp : lm'.lookup x = some p) :
    St C ks lm ((c, fun o => ∃ v, o.data = .cell (some v) ∧ VS v p) :: l') s' := by
  have H2 := St.back H hg h0 H'
  obtain ⟨v, hv, q⟩ := H'.val x p hp
  rw [if_neg (by rw [hk]; exact nofun)] at hv
  obtain ⟨o, ho, hd⟩ := H'.cell x c hx
  obtain ⟨-, k2, k3⟩ := H'.K x c hx
  have gn := k3 hf hk
  rw [hg] at gn
  have none_of : ∀ b o, s.heap.get? b = some o → (∀ p ∈ l, p.1 ≠ b) → b ≠ c := fun b o e n w => by
    have := hideAll_get (l.map (·.1)) e fun q => by
      obtain ⟨p, hp, e⟩ := List.mem_map.mp q
      exact n p hp e
    rw [w, gn] at this; cases this
  obtain ⟨oL, es, ep, hL, -⟩ := H.fr.ns
  refine ⟨H2.V, H2.F, fun y d hy => ⟨(H2.K y d hy).1, List.forall_mem_cons.mpr ⟨?_, (H2.K y d hy).2.1⟩, (H2.K y d hy).2.2⟩, List.forall_mem_cons.mpr ⟨⟨⟨o, ho, v, hv ▸ hd, q⟩, ?_, ?_⟩, H2.N⟩, List.nodup_cons.mpr ⟨fun w => ?_, H2.D⟩, H2.gens, H2.os, H2.tk⟩
  · obtain ⟨o', ho', -⟩ := H.cell y d hy
    exact (none_of d o' ho' (H.K y d hy).2.1).symm
  · exact (none_of _ oL hL fun p hp => (H.N p hp).2.1).symm
  · cases w : C.g.get? c with
    | none => rfl
    | some o' =>
      have := H.hid w
      rw [gn] at this; cases this
  · obtain ⟨p, hp, e⟩ := List.mem_map.mp w
    exact k2 p hp e
theorem enter {a : Addr} {params : List Str} {vs : List Value} {ps : List PV} {Q : Value → Shared → Prop} (n : Nat) (D : Def a params) (ks' : Kinds) (hks : ∀ n, ksOk a params ks' n = true) (nd : params.Nodup) (H : St C ks lm l s) (hA : Ok C.A (n + 1)) (hv : VSs vs ps) (hl : params.length = ps.length)
    (h : ∀ C' s', Ok C'.A n → C'.env = callEnvC (fdOf a) C'.env.locals a → St C' ks' (params.zip ps) l s' → (∀ lm' l' s', St C' ks' lm' l' s' → St C ks lm l' s') → C'.B (bodyOf a) (fun f => Q (retv f)) s') :
    C.X (call (.ref a) vs) Q s := call_of (enterC n D ks' hks nd H hA hv hl h)
end
theorem d24 : Def 24 ["x"] := ⟨fun P => by kernel_rfl, fun P => by kernel_rfl, by kernel_rfl, fun a => by kernel_rfl, by kernel_rfl, by kernel_rfl, by kernel_rfl, by kernel_rfl⟩
section
variable {C : Cx} {ks : Kinds} {lm : Vars} {l : Led} {s : Shared}
theorem t24 {v : Value} {i : Int} {Q : Value → Shared → Prop} (H : St C ks lm l s) (hA : Ok C.A 1) (hv : VS v (.int i)) (h : ∀ s', St C ks lm l s' → Q (.bool (decide (i < 256))) s') :
    C.X (call (.ref 24) [v]) Q s := by
  refine enter 0 d24 [("x", .local), ("NT_OFFSET", .globalImplicit)] (fun n => by kernel_rfl) (by decide) H hA (ps := [.int i]) (.cons hv .nil) rfl fun C' s' hA' _ H' back => ?_
  refine do_return 3 H' rfl fun v s₁ hv' H₁ => ?_
  obtain ⟨t, rfl⟩ := hv'
  exact h _ (back _ _ _ H₁)
end
end Mine
end
section
open PySem PySem.W PyProof.Rows PySem.Calls
namespace Mine
section
variable {C : Cx} {ks : Kinds} {lm : Vars} {l : Led} {s : Shared}
theorem plain_of_ev {n : Nat} {e : Expr} {p : PV} {env : Env} (h : ev ks lm n e = some p) (rest : List Expr) : starEach (e :: rest) env = (false, eval e env) :: starEach rest env := by
  cases n with
  | zero => exact (none_some h).elim
  | succ n => cases e <;> first | rfl | exact (none_some h).elim
theorem evs_cons {n : Nat} {e : Expr} {r : List Expr} {ps : List PV} (h : evs ks lm n (e :: r) = some ps) : ∃ p qs, ev ks lm n e = some p ∧ evs ks lm n r = some qs ∧ p :: qs = ps := by
  obtain ⟨p, h1, h⟩ := bind_some h
  obtain ⟨qs, h2, h⟩ := bind_some h
  exact ⟨p, qs, h1, h2, Option.some.inj h⟩
theorem evs_ok {es : List Expr} {ps : List PV} {pos : Pos} {Q : List Value → Shared → Prop} (n : Nat) (H : St C ks lm l s) (he : evs ks lm n es = some ps) (h : ∀ vs s', VSs vs ps → St C ks lm l s' → Q vs s') :
    C.X (spliced (backTo pos (starEach es C.env))) Q s := by
  induction es generalizing ps Q s with
  | nil => cases he; exact wpAny_items_nil (h [] s .nil H)
  | cons e r ih =>
    obtain ⟨p, qs, h1, h2, rfl⟩ := evs_cons he
    exact wpAny_items_cons (ev_ok n H h1 fun v s1 hv H1 => ih H1 h2 fun vs s2 hvs H2 => h _ s2 (.cons hv hvs) H2) (plain_of_ev h1 r)
theorem evs_head {n : Nat} {e : Expr} {rest : List Expr} {ps : List PV} {env : Env} (he : evs ks lm n (e :: rest) = some ps) : starEach (e :: rest) env = (false, eval e env) :: starEach rest env := by
  obtain ⟨p, qs, h1, -⟩ := evs_cons he
  exact plain_of_ev h1 rest
/-! displays -/
theorem newList_ok {vs : List Value} {ps : List PV} {Q : Value → Shared → Prop} (H : St C ks lm l s) (hv : VSs vs ps) (hl : ps.length ≤ 1000) (h : ∀ a s', St C ks lm ((a, aList ps) :: l) s' → Q (.ref a) s') : C.X (newList vs) Q s :=
  wpAny_newObj_type (h _ _ (H.push (tk := s.toks) ⟨_, _, rfl, hv⟩ rfl)) (by show vs.toArray.size ≤ sizeLine; rw [List.size_toArray, hv.length, line_is]; omega)
theorem newTuple_ok {vs : List Value} {ps : List PV} {Q : Value → Shared → Prop} (H : St C ks lm l s) (hv : VSs vs ps) (hl : ps.length ≤ 1000) (h : ∀ a s', St C ks lm ((a, aTup ps) :: l) s' → Q (.ref a) s') : C.X (newTuple vs) Q s :=
  wpAny_newObj_type (h _ _ (H.push (tk := s.toks) ⟨_, _, rfl, hv⟩ rfl)) (by show vs.toArray.size ≤ sizeLine; rw [List.size_toArray, hv.length, line_is]; omega)
theorem List_ev {es : List Expr} {ps : List PV} {pos : Pos} {Q : Value → Shared → Prop} (n : Nat) (H : St C ks lm l s) (he : evs ks lm n es = some ps) (h : ∀ a s', St C ks lm ((a, aList ps) :: l) s' → Q (.ref a) s') (hl : ps.length ≤ 1000 := by decide) :
    C.X (eval (.List es pos) C.env) Q s :=
  List_ (evs_ok n H he fun vs s' hv H' => newList_ok H' hv hl h)
theorem Tuple_ev {es : List Expr} {ps : List PV} {k : Nat} {pos : Pos} {Q : Value → Shared → Prop} (n : Nat) (H : St C ks lm l s) (he : evs ks lm n es = some ps) (h : ∀ a s', St C ks lm ((a, aTup ps) :: l) s' → Q (.ref a) s') (hl : ps.length ≤ 1000 := by decide) :
    C.X (eval (.Tuple es k pos) C.env) Q s :=
  Tuple_ (evs_ok n H he fun vs s' hv H' => newTuple_ok H' hv hl h)
/-! calls with pure arguments -/
theorem callB {pos : Pos} {id : String} {first : List Value} {e : Expr} {rest : List Expr} {Q : Value → Shared → Prop}
    (h : C.X (spliced (backTo pos (starEach (e :: rest) C.env))) (fun vs s₁ => C.X (call (.builtin id) (first ++ vs)) Q s₁) s)
    (he : starEach (e :: rest) C.env = (false, eval e C.env) :: starEach rest C.env := by rfl)
    (hplain : (backTo pos (starEach rest C.env)).any (·.1) = false := by rfl) : C.X (callWith pos (.builtin id) first (backTo pos (starEach (e :: rest) C.env)) []) Q s := by
  rw [he] at h ⊢
  exact callWith_builtin (by show (false || (backTo pos (starEach rest C.env)).any (·.1)) = false; rw [hplain]; rfl) (evalArgs_plain h)
theorem Call_fn {x : Str} {xp pos : Pos} {e : Expr} {rest : List Expr} {a : Addr} {ps : List PV} {params : List Str} {Q : Value → Shared → Prop} (n : Nat) (D : Def a params) (H : St C ks lm l s)
    (hx : nm ks lm x = some (.ref a)) (he : evs ks lm n (e :: rest) = some ps) (h : ∀ vs s', VSs vs ps → St C ks lm l s' → C.X (call (.ref a) vs) Q s')
    (hplain : (backTo pos (starEach rest C.env)).any (·.1) = false := by rfl) : C.X (eval (.Call (.Name x xp) (e :: rest) [] pos) C.env) Q s := by
  refine Call_ (Name_ok H hx fun v hv => ?_)
  obtain ⟨_, rfl⟩ := hv
  exact callWith_K (h₀ := C.g) C.G.X (Bool.and_eq_true_iff.mp (D.code _)).2 (evs_ok n H he fun vs s' hv H' => ⟨C.G.X.keeps H'.keep, h vs _ hv H'⟩) (evs_head he) hplain
theorem Call_bi {x : Str} {xp pos : Pos} {e : Expr} {rest : List Expr} {id : String} {ps : List PV} {Q : Value → Shared → Prop} (n : Nat) (H : St C ks lm l s)
    (hx : nm ks lm x = some (.raw (.builtin id))) (he : evs ks lm n (e :: rest) = some ps) (h : ∀ vs s', VSs vs ps → St C ks lm l s' → C.X (call (.builtin id) vs) Q s')
    (hplain : (backTo pos (starEach rest C.env)).any (·.1) = false := by rfl) : C.X (eval (.Call (.Name x xp) (e :: rest) [] pos) C.env) Q s := by
  refine Call_ (Name_ok H hx fun v hv => ?_)
  obtain ⟨_, rfl⟩ := hv
  exact PyProof.Rows.callWith_builtin1 (evs_ok n H he fun vs s' hv H' => h vs _ hv H') (evs_head he) hplain
theorem Call_ty {x : Str} {xp pos : Pos} {e : Expr} {rest : List Expr} {T : String} {ps : List PV} {Q : Value → Shared → Prop} (n : Nat) (H : St C ks lm l s)
    (hx : nm ks lm x = some (.raw (.type T))) (he : evs ks lm n (e :: rest) = some ps) (h : ∀ vs s', VSs vs ps → St C ks lm l s' → C.X (call (.type T) vs) Q s')
    (hplain : (backTo pos (starEach rest C.env)).any (·.1) = false := by rfl) : C.X (eval (.Call (.Name x xp) (e :: rest) [] pos) C.env) Q s := by
  refine Call_ (Name_ok H hx fun v hv => ?_)
  obtain ⟨_, rfl⟩ := hv
  exact PyProof.Rows.callWith_type1 (evs_ok n H he fun vs s' hv H' => h vs _ hv H') (evs_head he) hplain
/-! methods of lists -/
theorem meth_list {a : Addr} {ps : List PV} {i : Nat} {name : Str} {id : String} {pl : Sem Bool} {Q : Value × List Value → Shared → Prop} (H : St C ks lm l s) (hi : l[i]? = some (a, aList ps)) (slot : Slot "list" name id) (hty : typeOf (.builtin id) = pure (.type "method_descriptor"))
    (h : Q (.builtin id, [.ref a]) s) : C.X (getMethod (.ref a) name pl) Q s := by
  obtain ⟨vs, n, hl, r⟩ := H.isL hi
  exact getMethod_list_of slot hty hl.isList ⟨_, hl, rfl⟩ h
/-- x.meth(args) upon a name that holds a list -/
theorem Call_lm {x name : Str} {xp ap pos : Pos} {args : List Expr} {a : Addr} {ps : List PV} {i : Nat} {id : String} {Q : Value → Shared → Prop} (H : St C ks lm l s)
    (hx : nm ks lm x = some (.ref a)) (hi : l[i]? = some (a, aList ps)) (slot : Slot "list" name id) (hty : typeOf (.builtin id) = pure (.type "method_descriptor"))
    (h : C.X (callWith pos (.builtin id) [.ref a] (backTo pos (starEach args C.env)) []) Q s)
    (he : eval (.Call (.Attribute (.Name x xp) name ap) args [] pos) C.env = (do
      let ov ← eval (.Name x xp) C.env
      standAt ap.atName
      let (f, first) ← holding [ov] (getMethod ov name (do return (← importBound (.Name x xp) C.env).getD true))
      callWith pos f first (backTo pos (starEach args C.env)) []) := by rfl) :
    C.X (eval (.Call (.Attribute (.Name x xp) name ap) args [] pos) C.env) Q s :=
  MethodCall_ (Name_ok H hx fun v hv => by
    obtain ⟨_, rfl⟩ := hv
    exact meth_list H hi slot hty h) he
theorem append_ok {a : Addr} {ps : List PV} {i : Nat} {v : Value} {p : PV} {Q : Value → Shared → Prop} (H : St C ks lm l s) (hi : l[i]? = some (a, aList ps)) (hv : VS v p) (hl : ps.length ≤ 1000000) (h : ∀ s', St C ks lm (l.set i (a, aList (ps ++ [p]))) s' → Q .none s') :
    C.X (call (.builtin "list.append") [.ref a, v]) Q s := by
  obtain ⟨vs, n, hL, r⟩ := H.isL hi
  refine wpAny_list_append_plain (hsz := by have := r.length; rw [line_is]; simp only [Array.length_toList] at this; omega) ⟨n, hL⟩ fun h' hp hs => ?_
  obtain ⟨n', hp⟩ := hp
  exact h _ (H.set (tk := s.toks) hi hs hp ⟨_, _, rfl, by rw [Array.toList_push]; exact Paired.app r (.cons hv .nil)⟩)
/-- x.append(e) -/
theorem do_append {x : Str} {xp ap cp pos : Pos} {e : Expr} {a : Addr} {ps : List PV} {p : PV} {i : Nat} {rest : List Stmt} {Q : Flow → Shared → Prop} (H : St C ks lm l s) (hx : nm ks lm x = some (.ref a)) (hi : l[i]? = some (a, aList ps)) (hl : ps.length ≤ 1000000)
    (he : C.X (eval e C.env) (fun v s' => ∃ l' lm', VS v p ∧ St C ks lm' l' s' ∧ l'[i]? = some (a, aList ps) ∧ ∀ s', St C ks lm' (l'.set i (a, aList (ps ++ [p]))) s' → C.B rest Q s') s)
    (hp : starEach [e] C.env = [(false, eval e C.env)]) 
    (hm : eval (.Call (.Attribute (.Name x xp) "append" ap) [e] [] cp) C.env = (do
      let ov ← eval (.Name x xp) C.env
      standAt ap.atName
      let (f, first) ← holding [ov] (getMethod ov "append" (do return (← importBound (.Name x xp) C.env).getD true))
      callWith cp f first (backTo cp (starEach [e] C.env)) []) := by rfl) :
    C.B (.Expr (.Call (.Attribute (.Name x xp) "append" ap) [e] [] cp) pos :: rest) Q s := by
  refine seq_expr H.V (Call_lm H hx hi slot_list_append (by kernel_rfl) ?_ hm) 
  refine callB (wpAny_items_cons (wpAny_mono he (fun v s' hq => ?_) fun _ _ z => z) hp) hp rfl
  obtain ⟨l', lm', hv, H', hi', k⟩ := hq
  exact wpAny_items_nil (append_ok H' hi' hv hl k)
end
end Mine
end
section
open PySem PySem.W PyProof.Rows PySem.Calls
namespace Mine
theorem Ents.find {es : List DictEntry} {qs : List (Str × PV)} (h : Ents es qs) (x : Str) : es.any (·.refKey) = false ∧ (∀ p, qs.lookup x = some p → ∃ e, es.find? (·.key.isStr x) = some e ∧ VS e.val p) ∧ (qs.lookup x = none → es.find? (·.key.isStr x) = none) := by
  induction h with
  | nil => exact ⟨rfl, fun p h => (none_some h).elim, fun _ => rfl⟩
  | cons a _ ih =>
    rename_i e q es qs _
    obtain ⟨⟨t, ht⟩, hv⟩ := a
    have hk : e.key.isStr x = (q.1 == x) := by rw [ht]; rfl
    rw [List.any_cons, List.find?_cons, hk]
    refine ⟨?_, ?_⟩
    · rw [ih.1]; simp [DictEntry.refKey, ht]
    · obtain ⟨y, p⟩ := q
      rw [List.lookup_cons]
      by_cases w : x = y
      · subst w
        simp only [beq_self_eq_true]
        exact ⟨fun p e' => ⟨e, rfl, Option.some.inj e' ▸ hv⟩, fun e' => nomatch e'⟩
      · rw [beq_eq_false_iff_ne.mpr w, beq_eq_false_iff_ne.mpr (Ne.symm w)]
        exact ih.2
theorem Ents.has {es : List DictEntry} {qs : List (Str × PV)} (h : Ents es qs) {x : Str} {p : PV} (hp : qs.lookup x = some p) : ∃ v, getL x es = some (some v) ∧ VS v p := by
  obtain ⟨e, he, hv⟩ := (Ents.find h x).2.1 p hp
  exact ⟨e.val, by unfold getL; rw [he], hv⟩
theorem Ents.not {es : List DictEntry} {qs : List (Str × PV)} (h : Ents es qs) {x : Str} (hp : qs.lookup x = none) : getL x es = some none := by
  unfold getL; rw [(Ents.find h x).2.2 hp, (Ents.find h x).1]; rfl
noncomputable def putV (x : Str) (p : PV) : List (Str × PV) → List (Str × PV)
  | [] => [(x, p)]
  | q :: r => bif q.1 == x then (q.1, p) :: r else q :: putV x p r
theorem Ents.put {es : List DictEntry} {qs : List (Str × PV)} (h : Ents es qs) (x : Str) {hs : Int} {t : Tok} {v : Value} {p : PV} (hv : VS v p) : Ents (putL x hs (.str x t) v es) (putV x p qs) ∧ (putV x p qs).length ≤ qs.length + 1 := by
  induction h with
  | nil => exact ⟨.cons ⟨⟨t, rfl⟩, hv⟩ .nil, Nat.le_refl _⟩
  | cons a r ih =>
    rename_i e q es qs
    obtain ⟨⟨t', ht⟩, a⟩ := a
    unfold putL putV
    have hk : e.key.isStr x = (q.1 == x) := by rw [ht]; rfl
    rw [hk]
    cases q.1 == x with
    | true => exact ⟨.cons ⟨⟨t', ht⟩, hv⟩ r, Nat.le_succ _⟩
    | false => exact ⟨.cons ⟨⟨t', ht⟩, a⟩ ih.1, Nat.succ_le_succ ih.2⟩
abbrev LRel := Paired fun (a : Addr × Obj) (b : Addr × AO) => a.1 = b.1 ∧ b.2 a.2
section
variable {C : Cx} {ks : Kinds} {lm : Vars} {l : Led} {s : Shared}
theorem LRel.map {ns : List (Addr × Obj)} {l : Led} (h : LRel ns l) : ns.map (·.1) = l.map (·.1) := by
  induction h with
  | nil => rfl
  | cons a _ ih => rw [List.map_cons, List.map_cons, ih, a.1]
theorem LRel.get {ns : List (Addr × Obj)} {l : Led} (h : LRel ns l) {i : Nat} {a : Addr} {ao : AO} (hi : l[i]? = some (a, ao)) : ∃ o, ns[i]? = some (a, o) ∧ ao o := by
  obtain ⟨⟨b, o⟩, h1, rfl, h3⟩ := Paired.get h hi
  exact ⟨o, h1, h3⟩
theorem LRel.set {ns : List (Addr × Obj)} {l : Led} (h : LRel ns l) (i : Nat) {a : Addr} {ao : AO} {o : Obj} (r : ao o) : LRel (ns.set i (a, o)) (l.set i (a, ao)) := by
  induction h generalizing i with
  | nil => exact .nil
  | cons r' h' ih =>
    cases i with
    | zero => exact .cons ⟨rfl, r⟩ h'
    | succ n => exact .cons r' (ih n)
theorem LRel.mem {ns : List (Addr × Obj)} {l : Led} (h : LRel ns l) {p : Addr × AO} (hp : p ∈ l) : ∃ o, (p.1, o) ∈ ns ∧ p.2 o := by
  obtain ⟨i, hi⟩ := List.getElem?_of_mem hp
  obtain ⟨⟨b, o⟩, h1, rfl, h3⟩ := Paired.get h hi
  exact ⟨o, List.mem_of_getElem? h1, h3⟩
theorem newsOf {l' : Led} (H : St C ks lm l s) (hs : ∀ p ∈ l', p ∈ l) : ∃ ns, News C.g C.env.locals s.heap ns ∧ LRel ns l' := by
  induction l' with
  | nil => exact ⟨[], News.nil, .nil⟩
  | cons p r ih =>
    obtain ⟨ns, N, R⟩ := ih fun q hq => hs q (.tail _ hq)
    obtain ⟨⟨o, ho, q⟩, a, b⟩ := H.N p (hs p (.head _))
    exact ⟨(p.1, o) :: ns, List.forall_mem_cons.mpr ⟨⟨ho, a, b⟩, N⟩, .cons ⟨rfl, q⟩ R⟩
/-- the cells that the frame's ground does not hold -/
theorem cellNews (H : St C ks lm l s) {cs : List (Str × Addr)} (hc : ∀ q ∈ cs, C.env.cells.lookup q.1 = some q.2) : ∃ ns, News C.g C.env.locals s.heap ns ∧ (∀ p ∈ ns, ∀ q ∈ l, q.1 ≠ p.1) ∧ ∀ q ∈ cs, C.g.get? q.2 = none → ∃ o, s.heap.get? q.2 = some o ∧ (q.2, o) ∈ ns := by
  induction cs with
  | nil => exact ⟨[], News.nil, fun p hp => absurd hp List.not_mem_nil, fun p hp => absurd hp List.not_mem_nil⟩
  | cons q r ih =>
    obtain ⟨ns, N, K, R⟩ := ih fun q hq => hc q (.tail _ hq)
    have hq := hc q (.head _)
    obtain ⟨m, cm, F, hcell, -⟩ := H.F
    obtain ⟨o, ho, -⟩ := hcell _ _ hq
    cases hg : C.g.get? q.2 with
    | none =>
      refine ⟨(q.2, o) :: ns, List.forall_mem_cons.mpr ⟨⟨ho, (H.K _ _ hq).1, hg⟩, N⟩, List.forall_mem_cons.mpr ⟨(H.K _ _ hq).2.1, K⟩, List.forall_mem_cons.mpr ⟨fun _ => ⟨o, ho, .head _⟩, fun q hq h => ?_⟩⟩
      obtain ⟨o, h1, h2⟩ := R q hq h
      exact ⟨o, h1, .tail _ h2⟩
    | some o' => exact ⟨ns, N, K, List.forall_mem_cons.mpr ⟨fun h => (none_some (h.symm.trans hg)).elim, R⟩⟩
theorem upd_at {ns cs : List (Addr × Obj)} (nd : (ns.map (·.1)).Nodup) {i : Nat} {a : Addr} {o : Obj} (o' : Obj) (hi : ns[i]? = some (a, o)) (hcs : ∀ q ∈ cs, q.1 ≠ a) : Upd a o o' (ns ++ cs) (ns.set i (a, o') ++ cs) := by
  induction ns generalizing i with
  | nil => cases hi
  | cons p r ih =>
    have nd := List.nodup_cons.mp nd
    cases i with
    | zero => cases Option.some.inj hi; exact .head fun q hq e => (List.mem_append.mp hq).elim (fun hq => nd.1 (List.mem_map.mpr ⟨q, hq, e⟩)) fun hq => hcs q hq e
    | succ n => exact .tail (fun e => nd.1 (List.mem_map.mpr ⟨_, List.mem_of_getElem? (i := n) hi, e.symm⟩)) (ih nd.2 hi)
/-! instances of the class at 97 -/
/-- what an object's own entry asks of the class -/
noncomputable def ownName (K : Frag) (x : Str) : Bool := plainGet K 97 x && hasDictIn K 97 && findIn K (.ref 97) x == some none
theorem inst_at (H : St C ks lm l s) {i j : Nat} {x dx : Addr} {qs : List (Str × PV)} (hi : l[i]? = some (x, aInst 97 dx)) (hj : l[j]? = some (dx, aNs qs)) : ∃ es n, InstAt s.heap x (instObj 97 dx) 97 (some (dictOf es n)) ∧ Ents es qs := by
  obtain ⟨o, ho, rfl⟩ := H.at hi
  obtain ⟨od, hod, es, n, rfl, r⟩ := H.at hj
  exact ⟨es, n, ⟨ho, rfl, rfl, hod⟩, r⟩
theorem attr_ok {i j : Nat} {x dx : Addr} {qs : List (Str × PV)} {name : Str} {p : PV} {expr : Bool} {Q : Value → Shared → Prop} (H : St C ks lm l s) (hi : l[i]? = some (x, aInst 97 dx)) (hj : l[j]? = some (dx, aNs qs)) (hc : ∀ P, ownName (KH P) name = true) (hn : qs.lookup name = some p)
    (hh : ∀ t, handedIn (p.val t) = true) (h : ∀ v s', VS v p → St C ks lm l s' → Q v s') : C.X (getAttr (.ref x) name expr) Q s := by
  obtain ⟨es, n, I, R⟩ := inst_at H hi hj
  obtain ⟨v, hv, t, rfl⟩ := Ents.has R hn
  have hc' := hc C.w.params
  unfold ownName at hc'
  simp only [Bool.and_eq_true, beq_iff_eq] at hc'
  obtain ⟨m, cm, F, -⟩ := H.F
  exact get_own F C.G.X I hc'.1.1 hc'.1.2 hc'.2 rfl hv (hh t) (h _ _ (.mk p t) (H.toks _))
theorem setattr_ok {i j : Nat} {x dx : Addr} {qs : List (Str × PV)} {name : Str} {v : Value} {p : PV} {Q : Unit → Shared → Prop} (H : St C ks lm l s) (hi : l[i]? = some (x, aInst 97 dx)) (hj : l[j]? = some (dx, aNs qs))
    (ht : ∀ P, takerIn (KH P) 97 name = some none)
    (hs : ∀ P, findIn (KH P) (.ref 97) "__setattr__" = some (some (.builtin "object.__setattr__"))) (hp : ∀ P, (plainOver (KH P) 97 && hasDictIn (KH P) 97) = true)
    (hv : VS v p) (hl : qs.length ≤ 900) (h : ∀ s', St C ks lm (l.set j (dx, aNs (putV name p qs))) s' → Q () s') : C.X (setAttr (.ref x) name v) Q s := by
  obtain ⟨es, n, I, R⟩ := inst_at H hi hj
  obtain ⟨ns, N, LR⟩ := newsOf H fun _ h => h
  obtain ⟨od, hod, es', n', rfl, R'⟩ := LR.get hj
  have e3 : dictOf es' n' = dictOf es n := Option.some.inj ((N _ (List.mem_of_getElem? hod)).1.symm.trans I.dict)
  rw [e3] at hod
  obtain ⟨m, cm, F, hc, hm⟩ := H.F
  have nd : (ns.map (·.1)).Nodup := LR.map ▸ H.D
  have hg : (getL name es).isSome = true := by
    cases q : qs.lookup name with
    | none => rw [Ents.not R q]; rfl
    | some p => obtain ⟨_, a, _⟩ := Ents.has R q; rw [a]; rfl
  have hpp := Bool.and_eq_true_iff.mp (hp C.w.params)
  have put := fun hs t => Ents.put R name (hs := hs) (t := t) hv
  obtain ⟨cs, NC, KC, RC⟩ := cellNews H (cs := C.env.cells.filter fun q => C.env.cells.lookup q.1 == some q.2) fun q hq => beq_iff_eq.mp (List.mem_filter.mp hq).2
  have hdx := List.mem_of_getElem? hj
  refine set_dict F C.G.X (fun p hp => (List.mem_append.mp hp).elim (N p) (NC p)) I rfl (hs _) hpp.1 (ht _) hpp.2 hg rfl (upd_at nd _ hod fun q hq e => KC q hq _ hdx e.symm) (by rw [(put _ _).1.length]; have := (put 0 0).2; omega) fun h' F' N' => ?_
  have LR' := LR.set j (a := dx) (ao := aNs (putV name p qs)) (o := dictOf (putL name (PyData.keyHash C.w.params name) (.str name (s.toks + 1)) v es) (putN name es n)) ⟨_, _, rfl, (put _ _).1⟩
  refine h _ ⟨H.V, ⟨m, cm, F', fun y c hy => ?_, hm⟩, fun y c hy => ⟨(H.K y c hy).1, fun q hq => ?_, (H.K y c hy).2.2⟩, fun q hq => ?_, set_map (aNs (putV name p qs)) hj ▸ H.D, H.gens, H.os, Nat.lt_of_lt_of_le H.tk (by first | exact Nat.le_refl _ | exact Nat.le_add_right _ _)⟩
  · obtain ⟨o, ho, hd⟩ := hc y c hy
    cases q : C.g.get? c with
    | some o' => exact ⟨o, by rw [← ho, H.keep _ _ q]; exact F'.keep _ _ q, hd⟩
    | none =>
      obtain ⟨o', ho', hm'⟩ := RC (y, c) (List.mem_filter.mpr ⟨mem_of_lookup hy, beq_iff_eq.mpr hy⟩) q
      cases Option.some.inj (ho.symm.trans ho')
      exact ⟨o, (N' _ (List.mem_append_right _ hm')).1, hd⟩
  · rcases set_at H.D hj hq with rfl | hq
    · exact (H.K y c hy).2.1 (dx, aNs qs) hdx
    · exact (H.K y c hy).2.1 q hq.1
  · obtain ⟨o, ho, q⟩ := LR'.mem hq
    have := N' _ (List.mem_append_left _ ho)
    exact ⟨⟨o, this.1, q⟩, this.2⟩
/-- a method of the class, called at once -/
theorem meth_ok {i j : Nat} {x dx f : Addr} {qs : List (Str × PV)} {name : Str} {pl : Sem Bool} {Q : Value × List Value → Shared → Prop} (H : St C ks lm l s) (hi : l[i]? = some (x, aInst 97 dx)) (hj : l[j]? = some (dx, aNs qs))
    (hg : ∀ P, (plainGet (KH P) 97 name && isFn (KH P) (.ref f)) = true) (hf : ∀ P, findIn (KH P) (.ref 97) name = some (some (.ref f))) (hn : qs.lookup name = none) (h : Q (.ref f, [.ref x]) s) :
    C.X (getMethod (.ref x) name pl) Q s := by
  obtain ⟨es, n, I, R⟩ := inst_at H hi hj
  have hg' := Bool.and_eq_true_iff.mp (hg C.w.params)
  obtain ⟨m, cm, F, -⟩ := H.F
  exact method_inst F C.G.X I hg'.1 (hf _) hg'.2 (Ents.not R hn) h
def aBound (f x : Addr) : AO := fun o => o = methodObj (.ref f) (.ref x)
/-- a method of the class, as an object -/
theorem bound_ok {i j : Nat} {x dx f : Addr} {qs : List (Str × PV)} {name : Str} {expr : Bool} {Q : Value → Shared → Prop} (H : St C ks lm l s) (hi : l[i]? = some (x, aInst 97 dx)) (hj : l[j]? = some (dx, aNs qs))
    (hg : ∀ P, (plainGet (KH P) 97 name && isFn (KH P) (.ref f) && hasDictIn (KH P) 97) = true) (hf : ∀ P, findIn (KH P) (.ref 97) name = some (some (.ref f)))
    (hgf : ∀ P, specialIn (KH P) (.ref f) "__get__" = some (some (.builtin "function.__get__"))) (htk : ∀ P, takesIn (KH P) (.ref f) = some false) (hc : copiedNames.contains name = false) (hn : qs.lookup name = none)
    (h : ∀ q s', St C ks lm ((q, aBound f x) :: l) s' → Q (.ref q) s') : C.X (getAttr (.ref x) name expr) Q s := by
  obtain ⟨es, n, I, R⟩ := inst_at H hi hj
  have hg2 := Bool.and_eq_true_iff.mp (hg C.w.params)
  have hg1 := Bool.and_eq_true_iff.mp hg2.1
  have K := C.G.X.keeps H.keep
  exact get_bind K I (plainGet_of hg1.1).1 (findObj_fn hg2.2 (hf _) (hgf _) (htk _) hc (by show lookIn name (dictOf es n) = _; rw [lookIn_dict, Ents.not R hn])) (plainGet_of hg1.1).2
    (wpAny_call (fn_get (s := { s with toks := s.toks + 1 }) K (beq_iff_eq.mp hg1.2) (handed_on rfl (h _ _ (H.push (o := methodObj (.ref f) (.ref x)) (ao := aBound f x) (tk := s.toks + 1) rfl rfl)))))
/-- an own entry that is called -/
theorem meth_own {i j : Nat} {x dx : Addr} {qs : List (Str × PV)} {name : Str} {p : PV} {pl : Sem Bool} {Q : Value × List Value → Shared → Prop} (H : St C ks lm l s) (hi : l[i]? = some (x, aInst 97 dx)) (hj : l[j]? = some (dx, aNs qs)) (hc : ∀ P, ownName (KH P) name = true) (hn : qs.lookup name = some p)
    (hh : ∀ t, handedIn (p.val t) = true) (h : ∀ v s', VS v p → St C ks lm l s' → Q (v, []) s') : C.X (getMethod (.ref x) name pl) Q s := by
  obtain ⟨es, n, I, R⟩ := inst_at H hi hj
  have hc' := hc C.w.params
  unfold ownName at hc'
  simp only [Bool.and_eq_true, beq_iff_eq] at hc'
  exact method_usual (C.G.X.keeps H.keep) I (plainGet_of hc'.1.1).1 (plainGet_of hc'.1.1).2 hc'.2 rfl (attr_ok H hi hj hc hn hh h)
end
end Mine
end
section
open PySem PySem.W PyProof.Rows PySem.Calls
namespace Mine
section
variable {prog : Program} {w : World} {A : Around} {E : Value → Shared → Prop} {s : Shared}
/-! iter(f, sentinel) -/
theorem entry_iter : entryFor table "iter" = some Builtin.«iter» := entryFor_of_fast (by kernel_rfl)
theorem args_iter2 (a b : Value) : argsOk "iter" ⟨[a, b], []⟩ := by unfold argsOk; kernel_rfl
theorem method_special : typeLookup (.type "method") "__call__" = pure (some (.builtin "method.__call__")) := by rw [typeLookup_type, builtinLookup_eq_fast]; kernel_rfl
theorem call_iter2 {q f : Addr} {x : Value} {e : Value} {Q : Value → Shared → Prop} (ho : s.heap.get? q = some (methodObj (.ref f) x))
    (h : Q (.ref s.heap.objs.size) { s with heap := s.heap.push { cls := .type "callable_iterator", data := .fields #[.ref q, e, .bool false] } }) : wpAny (model prog w) A (call (.builtin "iter") [.ref q, e]) Q E s := by
  refine call_function_entry (by decide +kernel) (by decide +kernel) entry_iter (args_iter2 _ _) ?_
  unfold Builtin.«iter»
  refine wpAny_bind (m := someArgs "iter" 1 2 _) (wpAny_of_eq (a := [Value.ref q, e]) (by first | rfl | kernel_rfl!) ?_)
  dsimp only
  refine wpAny_bind (wpAny_specialOf ⟨_, ho, rfl⟩ method_special ?_)
  rw [if_neg (by simp)]
  refine wpAny_bind (wpAny_rule (wpAny_bind ?_))
  exact wpAny_newObj_type (wpAny_pure ⟨_, rfl, h⟩) (by show 3 ≤ sizeLine + 2; rw [line_is]; omega)
theorem wpAny_callBorrowed {f : Value} {pos : List Value} {Q : Value → Shared → Prop} (h : codeAny (model prog w) A (.call f ⟨pos, []⟩) (Ret Q) s) : wpAny (model prog w) A (callBorrowed f pos) Q E s := fun Γ p hΓ => by
  refine wpCode_mono (R := Ret Q) (fun r s' hr => ?_) (h _ p rfl (hΓ.enter _ none p (by intro x; cases x)))
  rcases r with e | f
  · exact hr.elim
  · cases f <;> first | exact hr | exact hr.elim
theorem slot_ci : Slot "callable_iterator" "__next__" "callable_iterator.__next__" :=
  .of (owner := "callable_iterator") (n := "__next__") (by rw [typeLookup_type, builtinLookup_eq_fast]; kernel_rfl) (by decide +kernel) (by decide +kernel) (by decide +kernel)
    (by first | exact .inl (by decide +kernel) | exact .inr (by decide +kernel)) (by rw [isSubtype_type]; kernel_rfl)
theorem entry_ci : entryFor table "callable_iterator.__next__" = some Builtin.«callable_iterator.__next__» := entryFor_of_fast (by kernel_rfl)
theorem args_ci (a : Value) : argsOk "callable_iterator.__next__" ⟨[a], []⟩ := by unfold argsOk; kernel_rfl
theorem slot_ci_iter : Slot "callable_iterator" "__iter__" "callable_iterator.__iter__" :=
  .of (owner := "callable_iterator") (n := "__iter__") (by rw [typeLookup_type, builtinLookup_eq_fast]; kernel_rfl) (by decide +kernel) (by decide +kernel) (by decide +kernel)
    (by first | exact .inl (by decide +kernel) | exact .inr (by decide +kernel)) (by rw [isSubtype_type]; kernel_rfl)
theorem entry_ci_iter : entryFor table "callable_iterator.__iter__" = some Builtin.«dict_keyiterator.__iter__» :=
  entryFor_alias (id' := "dict_keyiterator.__iter__") (by kernel_rfl) (by first | rfl | decide +kernel | (unfold String.splitOn; simp +decide [String.splitOnAux])) (by decide +kernel) (by kernel_rfl)
theorem args_ci_iter (a : Value) : argsOk "callable_iterator.__iter__" ⟨[a], []⟩ := by unfold argsOk; kernel_rfl
theorem ci_iter {it q : Addr} {t : Tok} {Q : Value → Shared → Prop} (hit : s.heap.get? it = some { cls := .type "callable_iterator", data := .fields #[.ref q, .str (Str.ofString "") t, .bool false] }) (h : Q (.ref it) s) : wpAny (model prog w) A (pyIter (.ref it)) Q E s := by
  have hT : s.TypeIs (.ref it) "callable_iterator" := ⟨_, hit, rfl⟩
  refine wpAny_pyIter_slot hT slot_ci_iter (wpAny_call_entry slot_ci_iter hT entry_ci_iter ?_ (args_ci_iter _))
  show wpAny _ _ (ret (.ref it)) _ _ s
  exact wpAny_pure ⟨_, rfl, "callable_iterator", _, hT, slot_ci.lookup, h⟩
theorem borrows {q f x : Addr} {fo : Obj} {fd : FuncData} {Q : Bool → Shared → Prop} (hq : s.heap.get? q = some (methodObj (.ref f) (.ref x))) (hf : s.heap.get? f = some fo) (hd : fo.data = .func fd) (h : Q true s) : wpAny (model prog w) A (borrowsExactly (.ref q)) Q E s := by
  unfold borrowsExactly
  refine wpAny_bind (wpAny_load hq ?_)
  refine wpAny_bind (wpAny_load hf ?_)
  rw [hd]
  exact wpAny_pure h
theorem ci_next {it q x f : Addr} {t : Tok} {Q : Option Value → Shared → Prop} (hh : A.handled = none) (hit : s.heap.get? it = some { cls := .type "callable_iterator", data := .fields #[.ref q, .str (Str.ofString "") t, .bool false] })
    (hq : s.heap.get? q = some (methodObj (.ref f) (.ref x))) (hf : ∃ fo fd, s.heap.get? f = some fo ∧ fo.data = .func fd)
    (hcall : codeAny (model prog w) A.in1 (.call (.ref f) ⟨[.ref x], []⟩) (Ret fun r s' => ∃ y u, r = .str y u ∧ s'.heap.get? it = some { cls := .type "callable_iterator", data := .fields #[.ref q, .str (Str.ofString "") t, .bool false] } ∧
      s'.heap.get? q = some (methodObj (.ref f) (.ref x)) ∧ (∃ fo fd, s'.heap.get? f = some fo ∧ fo.data = .func fd) ∧ (y ≠ Str.ofString "" → Q (some r) s') ∧ (y = Str.ofString "" → ∀ h', Heap.ExtBut it s'.heap h' → Q none { s' with heap := h' })) s) :
    wpAny (model prog w) A (pyNext (.ref it)) Q E s := by
  have hT : s.TypeIs (.ref it) "callable_iterator" := ⟨_, hit, rfl⟩
  unfold pyNext
  refine wpAny_bind (wpAny_attempt (wpAny_callSpecial?_slot (name := Str.ofString "__next__") hT slot_ci (wpAny_call_entry slot_ci hT entry_ci ?_ (args_ci _))))
  obtain ⟨fo, fd, hfo, hfd⟩ := hf
  unfold Builtin.«callable_iterator.__next__»
  refine wpAny_bind (m := slotArgs "__next__" 0 _) (wpAny_of_eq (a := (Value.ref it, [])) (by first | rfl | kernel_rfl!) ?_)
  dsimp only
  refine wpAny_bind (wpAny_field hit rfl (x := .bool false) rfl ?_)
  rw [if_neg (by simp)]
  refine wpAny_bind (wpAny_field hit rfl (x := .ref q) rfl ?_)
  unfold callOutOfASlot
  refine wpAny_bind (wpAny_attempt (wpAny_bind (borrows hq hfo hfd ?_)))
  rw [if_pos rfl]
  refine wpAny_callBorrowed (method_call hq (codeAny_mono hcall fun r s' hr => ?_))
  rcases r with e | fl
  · exact hr.elim
  cases fl with
  | ret v =>
    obtain ⟨y, u, rfl, hit', hq', ⟨fo', fd', hfo', hfd'⟩, h1, h2⟩ := hr
    show wpAny _ _ (field (.ref it) 2 >>= _) _ _ s'
    refine wpAny_bind (wpAny_field hit' rfl (x := .bool false) rfl ?_)
    rw [if_neg (by simp)]
    refine wpAny_bind (wpAny_field hit' rfl (x := .str (Str.ofString "") t) rfl ?_)
    refine wpAny_bind (wpAny_holding (eqGives_str _ _ _ _ prog w _ _ s' _ ?_))
    by_cases hy : y = Str.ofString ""
    · subst hy
      rw [if_neg (by simp)]
      refine wpAny_bind (wpAny_rule (wpAny_bind ?_))
      show wpAny _ _ (field (.ref it) 0 >>= fun v => slotLetsGo "callable_iterator.__next__" v _ >>= fun _ => setField (.ref it) 0 .none >>= fun _ => setField (.ref it) 1 .none >>= fun _ => setField (.ref it) 2 (.bool true)) _ _ _
      refine wpAny_bind (wpAny_field hit' rfl (x := .ref q) rfl (wpAny_bind ?_))
      unfold slotLetsGo
      refine wpAny_bind (borrows hq' hfo' hfd' ?_)
      rw [if_pos rfl]
      refine wpAny_pure ?_
      refine wpAny_bind (wpAny_setField hit' rfl (by simp) ?_)
      refine wpAny_bind (wpAny_setField (Heap.get?_update_self _ hit' rfl) rfl (by simp) ?_)
      refine wpAny_setField (Heap.get?_update_self _ (Heap.get?_update_self _ hit' rfl) rfl) rfl (by simp) ?_
      show wpAny _ _ (newExc (.type "StopIteration") [] >>= _) _ _ _
      refine wpAny_bind ?_
      simp only [newExc, newTuple]
      refine wpAny_bind (wpAny_newObj_type ?_ (by size_fits))
      refine wpAny_bind (m := firstArgMember _ _) (wpAny_of_eq (a := Value.none) (by first | rfl | (simp only [firstArgMember]; rfl)) ?_)
      refine wpAny_newObj_type ?_ (by size_fits)
      simp only [raiseNew]
      refine wpAny_bind (wpAny_handled ?_)
      rw [show A.in1.handled = none from hh]
      refine wpAny_bind (wpAny_pure (wpAny_throw ?_))
      refine wpAny_bind (wpAny_isInstance (T := "StopIteration") (b := true) ⟨_, Heap.get?_push_size _ rfl, rfl⟩ isSubtype_stop ?_)
      exact wpAny_pure (h2 rfl _ ((((Heap.SameBut.update ..).trans (Heap.SameBut.update ..)).trans (Heap.SameBut.update ..)).extBut.push _ |>.push _))
    · have : (Str.ofString "" == y) = false := by rw [beq_eq_false_iff_ne]; exact Ne.symm hy
      rw [this, if_pos (by rfl)]
      exact wpAny_pure ⟨_, rfl, wpAny_pure (h1 hy)⟩
  | _ => exact hr.elim
end
end Mine
end
section
open PySem PySem.W PyProof.Rows PySem.Calls
namespace Mine
def aCell (p : PV) : AO := fun o => ∃ v, o.data = .cell (some v) ∧ VS v p
noncomputable def cellVal (h : Heap) (c : Addr) : Option Value := match h.get? c with
  | some o => match o.data with
    | .cell v => v
    | _ => none
  | none => none
theorem cellVal_of {h : Heap} {c : Addr} {v : Option Value} (x : h.IsCell c v) : cellVal h c = v := by
  obtain ⟨o, ho, hd⟩ := x
  unfold cellVal
  rw [ho]
  show (match o.data with | .cell v => v | _ => none) = v
  rw [hd]
theorem snoc_inv {vs : List Value} {ps : List PV} {p : PV} (h : VSs vs (ps ++ [p])) : ∃ us v, vs = us ++ [v] ∧ VSs us ps ∧ VS v p := by
  induction ps generalizing vs with
  | nil =>
    cases h with
    | cons a b => cases b; exact ⟨[], _, rfl, .nil, a⟩
  | cons q r ih =>
    cases h with
    | cons a b =>
      obtain ⟨us, v, rfl, h1, h2⟩ := ih b
      exact ⟨_ :: us, v, rfl, .cons a h1, h2⟩
section
variable {C : Cx} {ks : Kinds} {lm : Vars} {l : Led} {s : Shared}
/-- a frame over a closure -/
theorem St.inner (H : St C ks lm l s) {A : Around} {env : Env} {ks' : Kinds} {lm' : Vars} {h₁ : Heap} {m' : Str → Option Value} {tk : Nat} (V : Env0 env ks') (hns : h₁.Ns env.locals m') (hL : s.heap.objs.size ≤ env.locals) (hk : ∀ b o, s.heap.get? b = some o → h₁.get? b = some o)
    (hc : ∀ x c, env.cells.lookup x = some c → (∃ v, s.heap.IsCell c v) ∧ ∀ p ∈ l, p.1 ≠ c)
    (hl : ∀ x p, lm'.lookup x = some p → ks'.lookup x ≠ some .local ∧ ∃ c v, env.cells.lookup x = some c ∧ s.heap.IsCell c (some v) ∧ VS v p)
    (hf : env.func.isSome = true → ∀ x, ks'.lookup x ≠ some .cell) (ht : s.toks ≤ tk := by first | exact Nat.le_refl _ | exact Nat.le_add_right _ _ | omega) : St (H.cx A env) ks' lm' l { s with heap := h₁, toks := tk } := by
  have lt : ∀ {b : Addr} {o : Obj}, s.heap.get? b = some o → b ≠ env.locals := fun e q => absurd (q ▸ Heap.lt_size e) (Nat.not_lt.mpr hL)
  refine ⟨V, ⟨m', fun x => (env.cells.lookup x).bind (cellVal s.heap), ⟨hns, fun b o e => hk b o (of_hideAll _ e), by show (hideAll _ _).objs.size ≤ _; rw [hideAll_size]; exact hL⟩, fun x c hx => ?_, fun x p hx => ?_⟩, fun x c hx => ?_, fun p hp => ?_, H.D, H.gens, H.os, Nat.lt_of_lt_of_le H.tk ht⟩
  · obtain ⟨v, hv⟩ := (hc x c hx).1
    show h₁.IsCell c ((env.cells.lookup x).bind _)
    rw [show env.cells.lookup x = some c from hx, Option.bind_some, cellVal_of hv]
    exact hv.keeps hk
  · obtain ⟨h1, c, v, h2, h3, h4⟩ := hl x p hx
    refine ⟨v, ?_, h4⟩
    rw [if_neg h1]
    show (env.cells.lookup x).bind _ = _
    rw [h2, Option.bind_some, cellVal_of h3]
  · obtain ⟨v, o, ho, -⟩ := (hc x c hx).1
    exact ⟨lt ho, (hc x c hx).2, fun h e => absurd e (hf h x)⟩
  · obtain ⟨⟨o, ho, r⟩, -, -⟩ := H.N p hp
    exact ⟨⟨o, hk _ _ ho, r⟩, lt ho, hideAll_none _ (List.mem_map_of_mem hp)⟩
/-- the same when one object was held back from the frame within -/
theorem St.backC {c : Addr} {ao : AO} (H : St C ks lm ((c, ao) :: l) s) {C' : Cx} {ks' : Kinds} {lm' : Vars} {l' : Led} {s' : Shared} (hg : C'.g = hideAll s.heap (l.map (·.1))) (h0 : C'.s₀ = C.s₀) (H' : St C' ks' lm' l' s') : St C ks lm ((c, ao) :: l') s' := by
  have H2 := St.back H.drop1 hg h0 H'
  obtain ⟨⟨o, ho, r⟩, a, b⟩ := H.N _ (.head _)
  have hc : C'.g.get? c = some o := by
    rw [hg]
    exact hideAll_get _ ho (List.nodup_cons.mp H.D).1
  refine ⟨H2.V, H2.F, fun x d hx => ⟨(H2.K x d hx).1, List.forall_mem_cons.mpr ⟨(H.K x d hx).2.1 _ (.head _), (H2.K x d hx).2.1⟩, (H2.K x d hx).2.2⟩, List.forall_mem_cons.mpr ⟨⟨⟨o, H'.keep _ _ hc, r⟩, a, b⟩, H2.N⟩, List.nodup_cons.mpr ⟨fun q => ?_, H2.D⟩, H2.gens, H2.os, H2.tk⟩
  obtain ⟨p, hp, e⟩ := List.mem_map.mp q
  have := (H'.N p hp).2.2
  rw [e, hc] at this; cases this
/-- list.pop() -/
theorem pop_ok {a : Addr} {ps : List PV} {p : PV} {i : Nat} {pos : Pos} {Q : Value → Shared → Prop} (H : St C ks lm l s) (hi : l[i]? = some (a, aList (ps ++ [p]))) (hl : ps.length ≤ 1000000) (h : ∀ v s', VS v p → St C ks lm (l.set i (a, aList ps)) s' → Q v s') :
    C.X (callWith pos (.builtin "list.pop") [.ref a] [] []) Q s := by
  obtain ⟨vs, n, hL, r⟩ := H.isL hi
  obtain ⟨us, v, hus, r1, r2⟩ := snoc_inv r
  cases vs with
  | mk vs =>
  cases (show vs = us ++ [v] from hus)
  have hlen := r1.length
  have hz : (us ++ [v]).toArray.size - 1 = us.length := by rw [List.size_toArray, List.length_append]; rfl
  refine P.pop_list hL (by rw [hz, List.getElem?_toArray]; exact List.getElem?_concat_length) ?_ (by rw [line_is]; rw [List.size_toArray, List.length_append, hlen]; simp only [List.length_singleton]; omega)
  refine h v _ r2 (H.set (tk := s.toks) hi (Heap.SameBut.update ..) (IsL.update hL _) ⟨_, _, rfl, ?_⟩)
  rw [hz, List.eraseIdxIfInBounds_toArray, List.eraseIdx_append_of_length_le (Nat.le_refl _), Nat.sub_self]
  show VSs (us ++ []) ps
  rw [List.append_nil]; exact r1
/-- list != [] -/
theorem ne_nil_ok {a b : Addr} {ps : List PV} {i j : Nat} {Q : Value → Shared → Prop} (H : St C ks lm l s) (hu : C.A.units < cLine) (hi : l[i]? = some (a, aList ps)) (hj : l[j]? = some (b, aList [])) (h : Q (.bool (decide (ps.length ≠ 0))) s) :
    C.X (compareOp .NotEq (.ref a) (.ref b)) Q s := by
  obtain ⟨vs, n, hL, r⟩ := H.isL hi
  obtain ⟨us, n', hL', r'⟩ := H.isL hj
  have hus : us.size = 0 := r'.length
  have hvs : vs.size = ps.length := r.length
  show wpAny _ _ (richCompare .NotEq _ _) _ _ _
  by_cases q : ps.length = 0
  · exact SeqAt.RcNeAt.lists (e := fun _ => true) hL.isList hL'.isList (by rw [hvs, hus, q]) hu (fun j h1 _ => by rw [hvs, q] at h1; exact absurd h1 (Nat.not_lt_zero _)) C.prog C.w _ Q (by rw [hvs, q]; rw [q] at h; exact h)
  · exact SeqAt.RcNeAt.lists_lengths hL.isList hL'.isList (by rw [hvs, hus]; exact bne_iff_ne.mpr q) hu C.prog C.w _ Q (by rw [decide_eq_true q] at h; exact h)
end
/-! the lambda of _law_feed -/
noncomputable def lamOf (b : List Stmt) : Arguments × Expr × Scope := match b with
  | _ :: st :: _ => match st with
    | .Assign _ e _ => match e with
      | .Lambda a b c _ => (a, b, c)
      | _ => default
    | _ => default
  | _ => default
noncomputable def lamParts : Arguments × Expr × Scope := lamOf (bodyOf 134)
noncomputable def lamQual : Str := ((fdOf 134).qualname ++ ".<locals>.") ++ "<lambda>"
def LamP (c cr : Addr) : AO := fun o => ∃ pm ctv, o = kla_obj "<lambda>" lamQual lamParts.1 lamParts.2.1 lamParts.2.2 [(Str.ofString "signs", c)] pm cr ctv
def CodeP : AO := fun o => ∃ vs t, o.data = .fields vs ∧ vs[1]? = some (.str lamQual t)
section
variable {C : Cx} {ks : Kinds} {lm : Vars} {l : Led} {s : Shared}
theorem lam_call {fn c sg cr : Addr} {cs : List PV} {v : Value} {i1 i2 i4 : Nat} {Q : Value → Shared → Prop} (H : St C ks lm ((c, aCell (.ref sg)) :: l) s) (hA : Ok C.A 1) (h1 : l[i1]? = some (fn, LamP c cr)) (h2 : l[i2]? = some (cr, CodeP)) (h4 : l[i4]? = some (sg, aList cs.reverse))
    (hl : cs.length ≤ 1000) (hnil : cs = [] → ∀ v' s', VS v' (.str "") → St C ks lm ((c, aCell (.ref sg)) :: l) s' → Q v' s') (hcons : ∀ p t, cs = p :: t → ∀ v' s', VS v' p → St C ks lm ((c, aCell (.ref sg)) :: l.set i4 (sg, aList t.reverse)) s' → Q v' s') :
    C.X (call (.ref fn) [v]) Q s := by
  have H1 := H.drop1
  obtain ⟨o, ho, pm, ctv, rfl⟩ := H1.at h1
  obtain ⟨oc, hoc, vs, t, hd, hv⟩ := H1.at h2
  obtain ⟨⟨cc, hcc, cv, hcd, hcv⟩, -⟩ := H.N _ (.head _)
  obtain ⟨p', lo, me, mg, mb, T⟩ := C.G.T
  refine wpAny_call (kla_callFunE hA.room ho rfl (by kernel_rfl) (by kernel_rfl) rfl ⟨cr, oc, vs, t, rfl, hoc, hd, hv⟩ ?_)
  rw [show bindArgs (kla_fn "<lambda>" lamQual lamParts.1 lamParts.2.1 lamParts.2.2 [(Str.ofString "signs", c)] pm (.ref cr) ctv) ⟨[v], []⟩ = pure [(Str.ofString "count", v)] by kernel_rfl]
  refine wpAny_pure (wpAny_newFunctionEnv (by simpa using List.all_eq_true.mp (show (lamParts.2.2.names.all fun x => x.2 != .cell) = true by kernel_rfl)) (fun x hx => by
    rw [List.mem_singleton] at hx; subst hx; kernel_rfl) (fun h₁ hns hsb => ?_) (by kernel_rfl))
  have hk : ∀ b o, s.heap.get? b = some o → h₁.get? b = some o := fun b o e => hsb.extBut b o (Nat.ne_of_lt (Heap.lt_size e)) (Heap.get?_push_of_some _ e)
  refine ⟨(T.nolimit.keeps H.keep).keeps hk, kla_codeExpr ?_⟩
  generalize henv : newEnv lamParts.2.2 s.heap.objs.size mainGlobals [(Str.ofString "signs", c)] (lamQual ++ ".<locals>.") (some fn) (.ref cr) none builtinsNs = env
  have hL : env.locals = s.heap.objs.size := by rw [← henv]; rfl
  have hcells : env.cells = [(Str.ofString "signs", c)] := by rw [← henv]; rfl
  have only : ∀ {α : Type} {x : Str} {a b : α}, List.lookup x [(Str.ofString "signs", a)] = some b → x = Str.ofString "signs" ∧ a = b := fun e => by
    rw [List.lookup_cons] at e
    split at e
    · rename_i q; exact ⟨eq_of_beq q, Option.some.inj e⟩
    · cases e
  have V : Env0 env [(Str.ofString "signs", .free)] := by
    refine ⟨by rw [← henv]; kernel_rfl, by rw [← henv]; rfl, by rw [← henv]; rfl, fun x k e => ?_, fun y hy => by rcases hy with rfl | rfl <;> rfl, fun x k e _ => ?_, fun _ => by rw [hcells]; exact List.pairwise_singleton _ _⟩
    · obtain ⟨rfl, rfl⟩ := only e
      rw [← henv]; kernel_rfl
    · obtain ⟨rfl, rfl⟩ := only e
      exact ⟨c, by rw [hcells]; rfl⟩
  have H' := H1.inner (A := C.A.deeper env) (lm' := [(Str.ofString "signs", .ref sg)]) (h₁ := h₁) (tk := s.toks + [(Str.ofString "count", v)].length) V (hL ▸ hns) (Nat.le_of_eq hL.symm) hk (fun x d hx => by
      rw [hcells] at hx
      obtain ⟨rfl, rfl⟩ := only hx
      exact ⟨⟨_, cc, hcc, hcd⟩, fun p hp e => (List.nodup_cons.mp H.D).1 (List.mem_map.mpr ⟨p, hp, e⟩)⟩) (fun x p hx => by
      obtain ⟨rfl, rfl⟩ := only hx
      exact ⟨by decide, c, cv, by rw [hcells]; rfl, ⟨cc, hcc, hcd⟩, hcv⟩) (fun _ x e => nomatch (only e).2)
  refine noE (show (H1.cx (C.A.deeper env) env).X (eval (.IfExp (.Compare (.Name "signs" _) [.NotEq] [.List [] _] _) (.Call (.Attribute (.Name "signs" _) "pop" _) [] [] _) (.Constant (.str "") _ _) _) (H1.cx (C.A.deeper env) env).env) _ _ from ?_)
  refine IfExp_ (wpAny_isTrue_Compare1 (Name_ok H' rfl fun v1 hv1 => List_ev 1 H' rfl fun e s₁ H₁ => ?_))
  obtain ⟨_, rfl⟩ := hv1
  have hi4 : ((e, aList []) :: l)[i4 + 1]? = some (sg, aList cs.reverse) := h4
  refine ne_nil_ok H₁ (hA.deeper (n := 0) env).units hi4 (j := 0) rfl (wpAny_truthy_bool ?_)
  cases cs with
  | nil =>
    rw [if_neg (by decide)]
    exact ev_ok 1 H₁ rfl fun v2 s2 hv2 H2 => hnil rfl _ _ hv2 (St.backC (C' := H1.cx (C.A.deeper env) env) H rfl rfl H2.drop1)
  | cons p t =>
    rw [if_pos (by rw [List.length_reverse]; exact decide_eq_true (Nat.succ_ne_zero _))]
    refine Call_lm H₁ rfl hi4 F.slot_list_pop F.type_list_pop ?_
    rw [List.reverse_cons] at hi4
    exact pop_ok H₁ hi4 (by rw [List.length_reverse]; rw [List.length_cons] at hl; omega) fun v' s₂ hv' H₂ => hcons p t rfl _ _ hv' (St.backC (C' := H1.cx (C.A.deeper env) env) H rfl rfl H₂.drop1)
end
end Mine
end
section
open PySem PySem.W PyProof.Rows PySem.Calls
namespace Mine
/-- an iterator at the ledger's head that gives `items` -/
structure Walk (it : Addr) (items : List PV) (IA : Nat → AO) (side : Led → Prop) : Prop where
  item : ∀ {C : Cx} {ks : Kinds} {lm : Vars} {l : Led} {s : Shared} {k : Nat} {p : PV} {Q : Option Value → Shared → Prop}, side l → St C ks lm ((it, IA k) :: l) s → items[k]? = some p →
    (∀ v s', VS v p → St C ks lm ((it, IA (k + 1)) :: l) s' → Q (some v) s') → C.X (pyNext (.ref it)) Q s
  fin : ∀ {C : Cx} {ks : Kinds} {lm : Vars} {l : Led} {s : Shared} {k : Nat} {Q : Option Value → Shared → Prop}, C.A.handled = none → side l → St C ks lm ((it, IA k) :: l) s → items[k]? = none →
    (∀ s', St C ks lm l s' → Q none s') → C.X (pyNext (.ref it)) Q s
  mono : ∀ {l : Led} (e : Addr × AO), side l → side (e :: l)
  self : ∀ {C : Cx} {ks : Kinds} {lm : Vars} {l : Led} {s : Shared} {Q : Value → Shared → Prop}, St C ks lm ((it, IA 0) :: l) s → Q (.ref it) s → C.X (pyIter (.ref it)) Q s
section
variable {C : Cx} {ks : Kinds} {lm : Vars} {l : Led} {s : Shared}
theorem iter_step {it : Addr} {ao ao' : AO} (H : St C ks lm ((it, ao) :: l) s) {o' : Obj} {h' : Heap} {tk : Nat} (hs : Heap.SameBut it s.heap h') (e : h'.get? it = some o') (r : ao' o') (ht : s.toks ≤ tk := by first | exact Nat.le_refl _ | exact Nat.le_succ _ | omega) : St C ks lm ((it, ao') :: l) { s with heap := h', toks := tk } :=
  H.set (i := 0) rfl hs e r ht
/-! lists -/
def aLIter (a : Addr) (k : Nat) : AO := fun o => o.cls = .type "list_iterator" ∧ o.data = .fields #[.ref a, .int k 0]
def Has (a : Addr) (ao : AO) (l : Led) : Prop := (a, ao) ∈ l
theorem St.mem (H : St C ks lm l s) {a : Addr} {ao : AO} (h : Has a ao l) : ∃ o, s.heap.get? a = some o ∧ ao o := (H.N _ h).1
theorem walk_list (it a : Addr) (ps : List PV) : Walk it ps (aLIter a) (Has a (aList ps)) where
  item {C ks lm l s k p Q} hl H hp h := by
    obtain ⟨oi, hoi, ri⟩ := H.at (i := 0) rfl
    obtain ⟨_, ho, vs, n, rfl, r⟩ := H.drop1.mem hl
    obtain ⟨v, hv, q⟩ := Paired.get r hp
    refine wpAny_pyNext_list_item (i := k) ⟨oi, hoi, ri⟩ ⟨_, ho, rfl, n, rfl⟩ (by rw [← Array.getElem?_toList]; exact hv) fun h' hi hs => ?_
    obtain ⟨o, ho, r⟩ := hi
    exact h v _ q (iter_step (tk := s.toks) H hs ho r)
  fin {C ks lm l s k Q} hh hl H hp h := by
    obtain ⟨oi, hoi, ri⟩ := H.at (i := 0) rfl
    obtain ⟨_, ho, vs, n, rfl, r⟩ := H.drop1.mem hl
    refine wpAny_pyNext_list_end (i := k) hh ⟨oi, hoi, ri⟩ ⟨_, ho, rfl, n, rfl⟩ (by rw [← Array.getElem?_toList]; rw [List.getElem?_eq_none_iff, r.length]; exact List.getElem?_eq_none_iff.mp hp) fun h' hs => h _ (H.lost (tk := s.toks) hs)
  mono e h := .tail _ h
  self {C ks lm l s Q} H h := by
    obtain ⟨oi, hoi, ri⟩ := H.at (i := 0) rfl
    exact wpAny_pyIter_listiter (i := 0) (l := a) ⟨oi, hoi, ri⟩ h
theorem iter_list {a : Addr} {ps : List PV} {v : Value} {Q : Value → Shared → Prop} (H : St C ks lm l s) (hv : VS v (.ref a)) (hl : Has a (aList ps) l) (h : ∀ it s', St C ks lm ((it, aLIter a 0) :: l) s' → Q (.ref it) s') : C.X (pyIter v) Q s := by
  obtain ⟨_, rfl⟩ := hv
  obtain ⟨_, ho, vs, n, rfl, r⟩ := H.mem hl
  exact wpAny_pyIter_list (l := a) ⟨_, ho, rfl, n, rfl⟩ (h _ _ (H.push (tk := s.toks) ⟨rfl, rfl⟩ rfl))
/-! tuples -/
def aTIter (a : Addr) (k : Nat) : AO := fun o => o.cls = .type "tuple_iterator" ∧ o.data = .fields #[.ref a, .int k 0]
theorem walk_tuple (it a : Addr) (ps : List PV) : Walk it ps (aTIter a) (Has a (aTup ps)) where
  item {C ks lm l s k p Q} hl H hp h := by
    obtain ⟨oi, hoi, ri⟩ := H.at (i := 0) rfl
    obtain ⟨_, ho, vs, n, rfl, r⟩ := H.drop1.mem hl
    obtain ⟨v, hv, q⟩ := Paired.get r hp
    refine wpAny_pyNext_tuple_item (i := k) ⟨oi, hoi, ri⟩ ⟨_, ho, rfl, n, rfl⟩ (by rw [← Array.getElem?_toList]; exact hv) fun h' hi hs => ?_
    obtain ⟨o, ho, r⟩ := hi
    exact h v _ q (iter_step (tk := s.toks) H hs ho r)
  fin {C ks lm l s k Q} hh hl H hp h := by
    obtain ⟨oi, hoi, ri⟩ := H.at (i := 0) rfl
    obtain ⟨_, ho, vs, n, rfl, r⟩ := H.drop1.mem hl
    refine wpAny_pyNext_tuple_end (i := k) hh ⟨oi, hoi, ri⟩ ⟨_, ho, rfl, n, rfl⟩ (by rw [← Array.getElem?_toList]; rw [List.getElem?_eq_none_iff, r.length]; exact List.getElem?_eq_none_iff.mp hp) fun h' hs => h _ (H.lost (tk := s.toks) hs)
  mono e h := .tail _ h
  self {C ks lm l s Q} H h := by
    obtain ⟨oi, hoi, ri⟩ := H.at (i := 0) rfl
    exact wpAny_pyIter_tupleiter (i := 0) (t := a) ⟨oi, hoi, ri⟩ h
theorem iter_tuple {a : Addr} {ps : List PV} {v : Value} {Q : Value → Shared → Prop} (H : St C ks lm l s) (hv : VS v (.ref a)) (hl : Has a (aTup ps) l) (h : ∀ it s', St C ks lm ((it, aTIter a 0) :: l) s' → Q (.ref it) s') : C.X (pyIter v) Q s := by
  obtain ⟨_, rfl⟩ := hv
  obtain ⟨_, ho, vs, n, rfl, r⟩ := H.mem hl
  exact wpAny_pyIter_tuple (t := a) ⟨_, ho, rfl, n, rfl⟩ (h _ _ (H.push (tk := s.toks) ⟨rfl, rfl⟩ rfl))
/-! for -/
/-- a turn's end -/
def Turn (I : Shared → Prop) (Q : Flow → Shared → Prop) (f : Flow) (s : Shared) : Prop := match f with
  | .next => I s
  | .cont => I s
  | .brk => Q .next s
  | .ret v => Q (.ret v) s
theorem loop_for {x : Str} {xp : Pos} {it : Addr} {body : List Stmt} {items : List PV} {IA : Nat → AO} {side : Led → Prop} {Q : Flow → Shared → Prop} {E : Value → Shared → Prop} (W : Walk it items IA side) (hh : C.A.handled = none) (J : Nat → Vars → Led → Prop)
    (hs : ∀ k lm l, J k lm l → side l) (hk : ks.lookup x = some .local ∨ (ks.lookup x = some .cell ∧ C.env.func.isSome = true)) (H : St C ks lm ((it, IA 0) :: l) s) (h0 : J 0 lm l)
    (turn : ∀ k p lm l s, items[k]? = some p → J k lm l → St C ks ((x, p) :: lm) ((it, IA (k + 1)) :: l) s → C.B body (Turn (fun s => ∃ lm l, J (k + 1) lm l ∧ St C ks lm ((it, IA (k + 1)) :: l) s) Q) s)
    (fin : ∀ lm l s, J items.length lm l → St C ks lm l s → Q .next s) :
    codeAny (model C.prog C.w) C.A (.forLoop (.Name x xp) (.ref it) body [] C.env) (fun r s' => match r with | .ok f => Q f s' | .error e => E e s') s := by
  refine codeAny_forLoop (fun n s => ∃ k lm l, n = items.length + 1 - k ∧ k ≤ items.length ∧ J k lm l ∧ St C ks lm ((it, IA k) :: l) s) (fun n s hI => ?_) _ ⟨0, lm, l, rfl, Nat.zero_le _, h0, H⟩
  obtain ⟨k, lm, l, rfl, hle, hJ, H⟩ := hI
  refine noE ?_
  cases e : items[k]? with
  | none =>
    have hk' : k = items.length := Nat.le_antisymm hle (List.getElem?_eq_none_iff.mp e)
    exact W.fin hh (hs k lm l hJ) H e fun s' H' => wpAny_execs_nil (fin lm l s' (hk' ▸ hJ) H')
  | some p =>
    have hlt := (List.getElem?_eq_some_iff.mp e).1
    refine W.item (hs k lm l hJ) H e fun v s' hv H' => noE (wpAny_assign_Name (store_ok H' hk hv fun s'' H'' => noE (wpAny_mono (turn k p lm l s'' e hJ H'') (fun f s3 hf => ?_) fun _ _ z => z)))
    cases f with
    | next => obtain ⟨lm', l', hj, H3⟩ := hf; exact ⟨_, Nat.sub_lt_sub_left (Nat.lt_succ_of_lt hlt) (Nat.lt_succ_self k), k + 1, lm', l', rfl, hlt, hj, H3⟩
    | cont => obtain ⟨lm', l', hj, H3⟩ := hf; exact ⟨_, Nat.sub_lt_sub_left (Nat.lt_succ_of_lt hlt) (Nat.lt_succ_self k), k + 1, lm', l', rfl, hlt, hj, H3⟩
    | brk => exact hf
    | ret v => exact hf
theorem seq_for {x : Str} {xp pos : Pos} {iter : Expr} {body orelse rest : List Stmt} {Q : Flow → Shared → Prop}
    (h : C.X (eval iter C.env) (fun v s₁ => C.X (pyIter v) (fun it s₂ => codeAny (model C.prog C.w) C.A (.forLoop (.Name x xp) it body orelse C.env) (fun r s' => match r with | .ok f => Then C rest Q f s' | .error e => cameBackBy (model C.prog C.w) C.A C.env NoE e s') s₂) s₁) s)
    (hs : ∀ x, foldedSetIterable iter C.env x = pure x := by intro _; rfl) : C.B (.For (.Name x xp) iter body orelse pos :: rest) Q s :=
  seq_then (wpAny_For h hs)
end
end Mine
end
section
open PySem PySem.W PyProof.Rows PySem.Calls
namespace Mine
/-! comprehensions: the closure, the frame -/
theorem closure_go {env : Env} {names : List (Str × NameKind)} (h : ∀ q ∈ names, q.2 = .free → ∃ c, env.cells.lookup q.1 = some c) (cs : List (Str × Addr)) :
    ∃ cl, (forIn names cs fun (q : Str × NameKind) cs => if (q.2 == NameKind.free) = true then (do let c ← cellOf env q.1; pure (ForInStep.yield ((q.1, c) :: cs))) else pure (ForInStep.yield cs) : Sem _) = pure (cl ++ cs) ∧
      (∀ p ∈ cl, env.cells.lookup p.1 = some p.2) ∧ ∀ q ∈ names, q.2 = .free → ∃ c, (cl ++ cs).lookup q.1 = some c := by
  induction names generalizing cs with
  | nil => exact ⟨[], rfl, fun p hp => absurd hp List.not_mem_nil, fun p hp => absurd hp List.not_mem_nil⟩
  | cons q r ih =>
    have ih := fun cs => ih (fun q hq => h q (.tail _ hq)) cs
    rw [List.forIn_cons]
    by_cases hq : q.2 = .free
    · obtain ⟨c, hc⟩ := h q (.head _) hq
      obtain ⟨cl, e, k, k2⟩ := ih ((q.1, c) :: cs)
      have e2 : cl ++ (q.1, c) :: cs = cl ++ [(q.1, c)] ++ cs := by rw [List.append_assoc]; rfl
      rw [e2] at e k2
      refine ⟨cl ++ [(q.1, c)], ?_, fun p hp => ?_, List.forall_mem_cons.mpr ⟨fun _ => ?_, k2⟩⟩
      · rw [if_pos (by rw [hq]; rfl)]
        unfold cellOf
        rw [hc]
        exact e
      · rcases List.mem_append.mp hp with hp | hp
        · exact k p hp
        · rw [List.mem_singleton] at hp; subst hp
          exact hc
      · cases w : (cl ++ [(q.1, c)] ++ cs).lookup q.1 with
        | some c => exact ⟨c, rfl⟩
        | none => exact absurd (List.lookup_eq_none_iff.mp w (q.1, c) (by simp)) (by simp)
    · obtain ⟨cl, e, k, k2⟩ := ih cs
      exact ⟨cl, by rw [if_neg (by simpa using hq)]; exact e, k, List.forall_mem_cons.mpr ⟨fun w => absurd w hq, k2⟩⟩
theorem lookup_map {g : Str → NameKind → NameKind} {names : List (Str × NameKind)} {x : Str} : (names.map fun q => (q.1, g q.1 q.2)).lookup x = (names.lookup x).map (g x) := by
  induction names with
  | nil => rfl
  | cons q r ih =>
    rw [List.map_cons, List.lookup_cons, List.lookup_cons, ih]
    cases e : x == q.1 with
    | true => rw [← eq_of_beq e]; rfl
    | false => rfl
/-- what the scope of a comprehension must be for the kinds `ks'` within -/
noncomputable def cchk (scope : Scope) (ks ks' : Kinds) : Bool :=
  scope.kind == .function &&
  (scope.names.all fun q => !(q.2 == .cell) && (!(q.2 == .local) || scope.names.lookup q.1 == some .local) && (!(q.2 == .free) || ks.lookup q.1 == some .cell || ks.lookup q.1 == some .free)) &&
  (ks'.all fun q => !(q.1 == Str.ofString "__debug__") && !(q.1 == Str.ofString "__classdict__") &&
    (match q.2 with
      | .local => scope.names.lookup q.1 == some .local
      | .cell => scope.names.lookup q.1 == some .free && ks.lookup q.1 == some .cell
      | .globalImplicit => scope.names.lookup q.1 == some .globalImplicit
      | _ => false))
section
variable {C : Cx} {ks : Kinds} {lm : Vars} {l : Led} {s : Shared}
/-- a dict of names that is nobody's business any more -/
def aFrm : AO := fun o => ∃ m, ∀ (h : Heap) (a : Addr), h.get? a = some o → h.Ns a m
theorem St.frm {L : Addr} (H : St C ks lm ((L, aFrm) :: l) s) : ∃ m, s.heap.Ns L m ∧ ∀ h', Heap.SameBut L s.heap h' → St C ks lm l { s with heap := h' } := by
  obtain ⟨⟨o, ho, m, hm⟩, -⟩ := H.N _ (.head _)
  exact ⟨m, hm _ _ ho, fun h' hs => H.lost (tk := s.toks) hs.extBut⟩
theorem comp_closure {scope : Scope} {ks' : Kinds} (hc : cchk scope ks ks' = true) (V : Env0 C.env ks) :
    ∃ cl, closureFor scope C.env = pure cl ∧ (∀ p ∈ cl, C.env.cells.lookup p.1 = some p.2) ∧ ∀ q ∈ scope.names, q.2 = .free → ∃ c, cl.lookup q.1 = some c := by
  have hn := (Bool.and_eq_true_iff.mp (Bool.and_eq_true_iff.mp hc).1).2
  simp only [Bool.and_eq_true, List.all_eq_true, Bool.or_eq_true, Bool.not_eq_true', beq_iff_eq, beq_eq_false_iff_ne] at hn
  obtain ⟨cl', e, hclo, hall⟩ := closure_go (env := C.env) (names := scope.names) (fun q hq hf => by
    rcases (hn q hq).2 with (h | h) | h
    · exact absurd hf h
    · exact V.cs _ _ h (.inl rfl)
    · exact V.cs _ _ h (.inr rfl)) []
  rw [List.append_nil] at e hall
  refine ⟨cl', ?_, hclo, hall⟩
  unfold closureFor
  show (forIn scope.names [] _ >>= fun cs => pure cs) = _
  rw [e]; rfl
theorem comp_frame {scope : Scope} {ks' : Kinds} {lm' : Vars} {elt iter : Expr} {target : Expr} {ifs : List Expr} {pos : Pos} {it : Value} {Q : Value → Shared → Prop} {use : Option (Value → Sem Unit)}
    (hc : cchk scope ks ks' = true) (hlm : ∀ x p, lm'.lookup x = some p → lm.lookup x = some p ∧ ks'.lookup x = some .cell) (H : St C ks lm l s) {cl' : List (Str × Addr)} (hclo : ∀ p ∈ cl', C.env.cells.lookup p.1 = some p.2) (hall : ∀ q ∈ scope.names, q.2 = .free → ∃ c, cl'.lookup q.1 = some c)
    (h : ∀ C' acc s', C'.A = C.A → St C' ks' lm' ((acc, aList []) :: l) s' → (∀ lm'' l'' s'', St C' ks' lm'' l'' s'' → St C ks lm ((C'.env.locals, aFrm) :: l'') s'') →
      codeAny (model C'.prog C'.w) C'.A (.compStart (.ListComp elt [⟨target, iter, ifs, 0⟩] scope pos) 0 it (.ref acc) C'.env) (compPost (model C.prog C.w) C.A NoE use Q (.ref acc) C'.env.locals) s') :
    C.X (newList []) (fun acc s₃ => C.X (newFunctionEnv scope C.env.globals cl' [] C.env.qual none .none (some C.env)) (fun cenv s₄ =>
      codeAny (model C.prog C.w) C.A (.compStart (.ListComp elt [⟨target, iter, ifs, 0⟩] scope pos) 0 it acc { cenv with scope := relabel scope C.env }) (compPost (model C.prog C.w) C.A NoE use Q acc cenv.locals) s₄) s₃) s := by
  unfold cchk at hc
  simp only [Bool.and_eq_true, List.all_eq_true, Bool.or_eq_true, Bool.not_eq_true', beq_iff_eq, beq_eq_false_iff_ne] at hc
  obtain ⟨⟨hk, hn⟩, hk'⟩ := hc
  refine wpAny_newObj_type (wpAny_newFunctionEnv (fun x hx => (hn x hx).1.1) (fun x hx => absurd hx List.not_mem_nil) (fun h₁ hns hsb => ?_) hk)
  have H1 : St C ks lm ((s.heap.objs.size, aList []) :: l) { s with heap := s.heap.push { cls := .type "list", data := .seq ([] : List Value).toArray } } := H.push (tk := s.toks) ⟨_, _, rfl, .nil⟩ rfl
  generalize hs1 : ({ s with heap := s.heap.push { cls := .type "list", data := .seq ([] : List Value).toArray } } : Shared) = s₁ at H1 hns hsb ⊢
  have hkp : ∀ b o, s₁.heap.get? b = some o → h₁.get? b = some o := fun b o e => hsb.extBut b o (Nat.ne_of_lt (Heap.lt_size e)) (Heap.get?_push_of_some _ e)
  generalize henv : compEnvC scope cl' s₁.heap.objs.size C.env = env'
  have hL : env'.locals = s₁.heap.objs.size := by rw [← henv]; rfl
  have hcells : env'.cells = cl' := by rw [← henv]; rfl
  have hkd : ∀ x, env'.kindOf x = (scope.names.lookup x).map fun k => if (k == .free && C.env.scope.kind == .function && C.env.kindOf x == some .cell) = true then .cell else k := fun x => by
    rw [← henv]
    refine Eq.trans ?_ (lookup_map (g := fun n k => if (k == .free && C.env.scope.kind == .function && C.env.kindOf n == some .cell) = true then .cell else k) (names := scope.names))
    show List.lookup x (scope.names.map _) = _
    congr 1
    refine List.map_congr_left fun q _ => ?_
    obtain ⟨n, k⟩ := q
    dsimp only
    split <;> rfl
  have V : Env0 env' ks' := by
    refine ⟨by rw [← henv]; exact hk, by rw [← henv]; exact H.V.glob, by rw [← henv]; exact H.V.blt, fun x k e => ?_, fun y hy => ?_, fun x k e h => ?_, ?_⟩
    · have := (hk' _ (mem_of_lookup e)).2
      rw [hkd]
      cases k with
      | «local» => rw [beq_iff_eq.mp this]; rfl
      | globalImplicit => rw [beq_iff_eq.mp this]; rfl
      | cell =>
        obtain ⟨h1, h2⟩ := Bool.and_eq_true_iff.mp this
        rw [beq_iff_eq.mp h1, H.V.kind, H.V.kd _ _ (beq_iff_eq.mp h2)]; rfl
      | _ => cases this
    · cases q : ks'.lookup y with
      | none => rfl
      | some k =>
        have := (hk' _ (mem_of_lookup q)).1
        exact absurd hy fun w => w.elim this.1 this.2
    · have := (hk' _ (mem_of_lookup e)).2
      rcases h with rfl | rfl
      · obtain ⟨h1, h2⟩ := Bool.and_eq_true_iff.mp this
        rw [hcells]; exact hall (x, .free) (mem_of_lookup (beq_iff_eq.mp h1)) rfl
      · cases this
    · rw [← henv]; exact nofun
  have hcell : ∀ x c, env'.cells.lookup x = some c → C.env.cells.lookup x = some c := fun x c e => hclo (x, c) (mem_of_lookup (hcells ▸ e))
  have HF := H1.F
  have H2 := H1.inner (A := C.A) (env := env') (lm' := lm') (h₁ := h₁) (tk := s₁.toks + ([] : List (Str × Value)).length) V (hL ▸ hns) (Nat.le_of_eq hL.symm) hkp
    (fun x c hx => ⟨by
      obtain ⟨m, cm, -, hcc, -⟩ := HF
      exact ⟨_, hcc x c (hcell x c hx)⟩, (H1.K x c (hcell x c hx)).2.1⟩)
    (fun x p hx => by
      obtain ⟨h1, h2⟩ := hlm x p hx
      obtain ⟨c, hxc⟩ := V.cs x _ h2 (.inl rfl)
      obtain ⟨m, cm, -, hcc, hm⟩ := HF
      obtain ⟨v, hv, q⟩ := hm x p h1
      have hko : ks.lookup x = some .cell := beq_iff_eq.mp (Bool.and_eq_true_iff.mp (show (scope.names.lookup x == some .free && ks.lookup x == some .cell) = true from (hk' _ (mem_of_lookup h2)).2)).2
      rw [if_neg (by rw [hko]; exact nofun)] at hv
      exact ⟨by rw [h2]; exact nofun, c, v, hxc, hv ▸ hcc x c (hcell x c hxc), q⟩) (by rw [← henv]; exact nofun)
  have res := h (H1.cx C.A env') s.heap.objs.size _ rfl H2 fun lm'' l'' s'' H3 => ?_
  · rw [← henv] at res
    exact res
  · have HB := St.back (C' := H1.cx C.A env') H1 rfl rfl H3
    obtain ⟨m, cm, F, -⟩ := H3.F
    obtain ⟨o, es, ep, ho, q⟩ := F.ns
    have hlo : s₁.heap.objs.size ≤ env'.locals := Nat.le_of_eq hL.symm
    refine ⟨HB.V, HB.F, fun x c hx => ⟨(HB.K x c hx).1, List.forall_mem_cons.mpr ⟨?_, (HB.K x c hx).2.1⟩, (HB.K x c hx).2.2⟩, List.forall_mem_cons.mpr ⟨⟨⟨o, ho, m, fun h a e => ⟨o, es, ep, e, q⟩⟩, Nat.ne_of_gt (Nat.lt_of_lt_of_le H1.Llt hlo), H1.gnone hlo⟩, HB.N⟩, List.nodup_cons.mpr ⟨fun w => ?_, HB.D⟩, HB.gens, HB.os, HB.tk⟩
    · obtain ⟨_, _, _, hcc, _⟩ := HF
      exact Nat.ne_of_gt (Nat.lt_of_lt_of_le (hcc x c hx).lt hlo)
    · obtain ⟨p, hp, e⟩ := List.mem_map.mp w
      exact (H3.N p hp).2.1 e
end
end Mine
end
section
open PySem PySem.W PyProof.Rows PySem.Calls
namespace Mine
section
variable {C : Cx} {ks : Kinds} {lm : Vars} {l : Led} {s : Shared}
/-- the tests of a comprehension's clause -/
def tests (C : Cx) (ifs : List Expr) : Sem Bool := forIn ifs true fun c r => if r = true then do let ok ← isTrue c C.env (eval c C.env); pure (ForInStep.yield ok) else pure (ForInStep.yield r)
theorem tests_nil {Q : Bool → Shared → Prop} (h : Q true s) : C.X (tests C []) Q s := wpAny_tests_nil h
theorem tests_one {c : Expr} {Q : Bool → Shared → Prop} (h : C.X (isTrue c C.env (eval c C.env)) Q s) : C.X (tests C [c]) Q s := wpAny_tests_one h
/-- a comprehension's loop: `ys` are the items so far, `J k ys l` the invariant behind k items -/
theorem loop_comp {x : Str} {xp pos : Pos} {it acc : Addr} {elt iter : Expr} {ifs : List Expr} {scope : Scope} {items : List PV} {IA : Nat → AO} {side : Led → Prop} {R : Result → Shared → Prop} (W : Walk it items IA side) (hh : C.A.handled = none) (J : Nat → List PV → Led → Prop)
    (hs : ∀ k ys l, J k ys l → side l ∧ ys.length ≤ k) (hz : items.length ≤ 1000) (hk : ks.lookup x = some .local) (hx : lm.lookup x = none) (H : St C ks lm ((acc, aList []) :: (it, IA 0) :: l) s) (h0 : J 0 [] l)
    (turn : ∀ k p ys l s, items[k]? = some p → J k ys l → St C ks ((x, p) :: lm) ((acc, aList ys) :: (it, IA (k + 1)) :: l) s → C.X (tests C ifs) (fun b s' =>
        if b = true then C.X (eval elt C.env) (fun v s'' => ∃ q l', VS v q ∧ J (k + 1) (ys ++ [q]) l' ∧ St C ks ((x, p) :: lm) ((acc, aList ys) :: (it, IA (k + 1)) :: l') s'') s'
        else J (k + 1) ys l ∧ St C ks ((x, p) :: lm) ((acc, aList ys) :: (it, IA (k + 1)) :: l) s') s)
    (fin : ∀ ys l s, J items.length ys l → St C ks lm ((acc, aList ys) :: l) s → R (.ok .next) s) :
    codeAny (model C.prog C.w) C.A (.compStart (.ListComp elt [⟨.Name x xp, iter, ifs, 0⟩] scope pos) 0 (.ref it) (.ref acc) C.env) R s := by
  have go : codeAny (model C.prog C.w) C.A (.compLoop (.ListComp elt [⟨.Name x xp, iter, ifs, 0⟩] scope pos) 0 (.ref it) (.ref acc) C.env) R s := by
    refine codeAny_compLoop_tests (fun n s => ∃ k ys l, n = items.length + 1 - k ∧ k ≤ items.length ∧ J k ys l ∧ St C ks lm ((acc, aList ys) :: (it, IA k) :: l) s) (fun n s hI => ?_) _ ⟨0, [], l, rfl, Nat.zero_le _, h0, H⟩
    obtain ⟨k, ys, l, rfl, hle, hJ, H⟩ := hI
    have H' : St C ks lm ((it, IA k) :: (acc, aList ys) :: l) s := H.perm (.swap ..)
    refine noE ?_
    cases e : items[k]? with
    | none =>
      have hk' : k = items.length := Nat.le_antisymm hle (List.getElem?_eq_none_iff.mp e)
      exact W.fin hh (W.mono _ (hs k ys l hJ).1) H' e fun s' H' => fin ys l s' (hk' ▸ hJ) H'
    | some p =>
      have hlt := (List.getElem?_eq_some_iff.mp e).1
      refine W.item (W.mono _ (hs k ys l hJ).1) H' e fun v s' hv H' => noE (wpAny_assign_Name (storeL (H'.perm (.swap ..)) hk hv fun s'' H'' => noE (wpAny_mono (turn k p ys l s'' e hJ H'') (fun b s3 hf => ?_) fun _ _ z => z)))
      have dec : items.length + 1 - (k + 1) < items.length + 1 - k := Nat.sub_lt_sub_left (Nat.lt_succ_of_lt hlt) (Nat.lt_succ_self k)
      cases b with
      | false =>
        rw [if_neg Bool.false_ne_true] at hf
        exact ⟨_, dec, k + 1, ys, l, rfl, hlt, hf.1, hf.2.pop hx⟩
      | true =>
        rw [if_pos rfl] at hf
        refine noE (wpAny_mono hf (fun v s4 h4 => ?_) fun _ _ z => z)
        obtain ⟨q, l', hq, hj, H4⟩ := h4
        exact noE (append_ok (i := 0) H4 rfl hq (Nat.le_trans (hs k ys l hJ).2 (by omega)) fun s5 H5 => ⟨_, dec, k + 1, ys ++ [q], l', rfl, hlt, hj, St.pop H5 hx⟩)
  exact codeAny_compStart_list go (noE (W.self (H.perm (.swap ..)) go))
/-- where the items come from -/
structure Src (C : Cx) (ks : Kinds) (lm : Vars) (items : List PV) (side : Led → Prop) (J : Led → Prop) (it : Value) (s : Shared) : Prop where
  ex : ∃ (i : Addr) (IA : Nat → AO) (l : Led), it = .ref i ∧ Walk i items IA side ∧ St C ks lm ((i, IA 0) :: l) s ∧ J l
theorem list_comp {x : Str} {xp pos : Pos} {elt iter : Expr} {ifs : List Expr} {scope : Scope} {items : List PV} {side : Led → Prop} {Q : Value → Shared → Prop} (ks' : Kinds) (lm' : Vars) (J : Nat → List PV → Led → Prop) (H : St C ks lm l s) (hh : C.A.handled = none)
    (hc : cchk scope ks ks' = true) (hlm : ∀ x p, lm'.lookup x = some p → lm.lookup x = some p ∧ ks'.lookup x = some .cell)
    (hi : C.X (eval iter C.env) (fun v s₁ => C.X (pyIter v) (Src C ks lm items side (J 0 [])) s₁) s)
    (hs : ∀ k ys l, J k ys l → side l ∧ ys.length ≤ k) (hz : items.length ≤ 1000) (hk : ks'.lookup x = some .local) (hx : lm'.lookup x = none)
    (turn : ∀ C' (IA : Nat → AO) i acc k p ys l s, C'.A = C.A → items[k]? = some p → J k ys l → St C' ks' ((x, p) :: lm') ((acc, aList ys) :: (i, IA (k + 1)) :: l) s → C'.X (tests C' ifs) (fun b s' =>
        if b = true then C'.X (eval elt C'.env) (fun v s'' => ∃ q l', VS v q ∧ J (k + 1) (ys ++ [q]) l' ∧ St C' ks' ((x, p) :: lm') ((acc, aList ys) :: (i, IA (k + 1)) :: l') s'') s'
        else J (k + 1) ys l ∧ St C' ks' ((x, p) :: lm') ((acc, aList ys) :: (i, IA (k + 1)) :: l) s') s)
    (fin : ∀ a ys l s', J items.length ys l → St C ks lm ((a, aList ys) :: l) s' → Q (.ref a) s')
    (hsi : ∀ x, foldedSetIterable iter C.env x = pure x := by intro _; rfl) : C.X (eval (.ListComp elt [⟨.Name x xp, iter, ifs, 0⟩] scope pos) C.env) Q s := by
  obtain ⟨cl, h1, h2, h3⟩ := comp_closure hc H.V
  have hc' := hc
  unfold cchk at hc'
  simp only [Bool.and_eq_true, List.all_eq_true, Bool.or_eq_true, Bool.not_eq_true', beq_iff_eq, beq_eq_false_iff_ne] at hc'
  rw [show eval (.ListComp elt [⟨.Name x xp, iter, ifs, 0⟩] scope pos) C.env = _ from eval_ListComp ..]
  refine wpAny_comprehension_free (use := none) rfl hsi h1 hc'.1.1 (fun y hy hl => (hc'.1.2 y hy).1.2.resolve_left fun w => w hl) (wpAny_mono hi (fun v s₁ h₁ => wpAny_mono h₁ (fun it s₂ h₂ => ?_) fun _ _ e => e) fun _ _ e => e)
  obtain ⟨i, IA, l₂, rfl, W, H2, hJ⟩ := h₂
  refine comp_frame hc hlm H2 h2 h3 fun C' acc s' hA H' back => ?_
  refine loop_comp W (hA ▸ hh) J hs hz hk hx H' hJ (fun k p ys l s e hj Hs => turn C' IA i acc k p ys l s hA e hj Hs) fun ys l s hj Hs => ?_
  obtain ⟨m, hm, hb⟩ := (back _ _ _ Hs).frm
  exact ⟨m, hm, fun h' hs' => fin _ _ _ _ hj (hb h' hs')⟩
end
end Mine
end
section
open PySem PySem.W PyProof.Rows PySem.Calls
namespace Mine
theorem d80 : Def 80 ["self"] := ⟨fun P => by kernel_rfl, fun P => by kernel_rfl, by kernel_rfl, fun a => by kernel_rfl, by kernel_rfl, by kernel_rfl, by kernel_rfl, by kernel_rfl⟩
theorem own_ok (P : Params) : ([(Str.ofString "lineno"), (Str.ofString "instream"), (Str.ofString "whitespace"), (Str.ofString "pushback"), (Str.ofString "read")].all fun x => ownName (KH P) x) = true := by kernel_rfl
theorem cls_setattr (P : Params) : findIn (KH P) (.ref 97) "__setattr__" = some (some (.builtin "object.__setattr__")) := by kernel_rfl
theorem cls_plain (P : Params) : (plainOver (KH P) 97 && hasDictIn (KH P) 97) = true := by kernel_rfl
theorem take_lineno (P : Params) : takerIn (KH P) 97 "lineno" = some none := by kernel_rfl
theorem own {x : Str} (P : Params) (h : x ∈ [(Str.ofString "lineno"), (Str.ofString "instream"), (Str.ofString "whitespace"), (Str.ofString "pushback"), (Str.ofString "read")]) : ownName (KH P) x = true := List.all_eq_true.mp (own_ok P) x h
def wsp : Str := Str.ofString "\n\t\r "
def nlc : Str := Str.ofString "\n"
structure LexA where
  x : Addr
  dx : Addr
  pb : Addr
  fd : Addr
  fdx : Addr
  fn : Addr
  cr : Addr
  c : Addr
  sg : Addr
  p2 : Addr
def lexQ (a : LexA) (ln : Int) : List (Str × PV) := [("lineno", .int ln), ("instream", .ref a.fd), ("whitespace", .str wsp), ("pushback", .ref a.pb)]
/-- the lexer's objects: lines so far, words pushed back, signs to come -/
def lexL (a : LexA) (ln : Int) (tk : List PV) (cs : List PV) (rest : Led) : Led :=
  (a.c, aCell (.ref a.sg)) :: (a.dx, aNs (lexQ a ln)) :: (a.pb, aList tk) :: (a.sg, aList cs.reverse) :: (a.x, aInst 97 a.dx) :: (a.fd, aInst 97 a.fdx) ::
  (a.fdx, aNs [("lineno", .int 1), ("instream", .none), ("whitespace", .str wsp), ("pushback", .ref a.p2), ("read", .ref a.fn)]) :: (a.fn, LamP a.c a.cr) :: (a.cr, CodeP) :: rest
section
variable {C : Cx} {ks : Kinds} {lm : Vars} {l rest : Led} {s : Shared}
/-- self.name -/
theorem Attr_ev {x name : Str} {xp ap : Pos} {a dx : Addr} {qs : List (Str × PV)} {p : PV} {i j : Nat} {Q : Value → Shared → Prop} (H : St C ks lm l s) (hx : nm ks lm x = some (.ref a)) (hi : l[i]? = some (a, aInst 97 dx)) (hj : l[j]? = some (dx, aNs qs)) (hn : qs.lookup name = some p) (ho : ∀ P, ownName (KH P) name = true)
    (hh : ∀ t, handedIn (p.val t) = true) (h : ∀ v s', VS v p → St C ks lm l s' → Q v s') : C.X (eval (.Attribute (.Name x xp) name ap) C.env) Q s :=
  Attribute_name (Name_ok H hx fun v hv => by
    obtain ⟨_, rfl⟩ := hv
    exact attr_ok H hi hj ho hn hh h)
/-- the call of a function object of the ledger -/
theorem callWith_led {i : Nat} {f : Addr} {c cr : Addr} {v : Value} {pos : Pos} {e : Expr} {args : List Expr} {ps : List PV} {first : List Value} {Q : Value → Shared → Prop} (n : Nat) (H : St C ks lm l s) (hv : VS v (.ref f)) (hi : l[i]? = some (f, LamP c cr))
    (he : evs ks lm n (e :: args) = some ps) (h : ∀ vs s', VSs vs ps → St C ks lm l s' → C.X (call (.ref f) (first ++ vs)) Q s')
    (hplain : (backTo pos (starEach args C.env)).any (·.1) = false := by rfl) : C.X (callWith pos v first (backTo pos (starEach (e :: args) C.env)) []) Q s := by
  obtain ⟨_, rfl⟩ := hv
  have hev := evs_ok (C := C) (pos := pos) (Q := fun vs s' => (∃ o, s'.heap.get? f = some o ∧ LamP c cr o) ∧ C.X (call (.ref f) (first ++ vs)) Q s') n H he fun vs s' hv H' => ⟨H'.at hi, h vs _ hv H'⟩
  rw [evs_head he] at hev ⊢
  exact callWith_of (P := fun h => ∃ o, h.get? f = some o ∧ LamP c cr o) (by show ((false || (backTo pos (starEach args C.env)).any (·.1)) || false) = false; rw [hplain]; rfl)
    (fun h ⟨o, ho, pm, ctv, e⟩ => ⟨.frame, .inl rfl, (Looks.ld (part := none) ho).andThen (by rw [e]; exact .now)⟩) (evalArgs_plain hev)
end
end Mine
end
section
open PySem PySem.W PyProof.Rows PySem.Calls
namespace Mine
section
variable {C : Cx} {ks : Kinds} {lm : Vars} {l rest : Led} {s : Shared}
/-- self.name op= e -/
theorem do_augattr {x name : Str} {xp ap pos : Pos} {op : Operator} {e : Expr} {a dx : Addr} {qs : List (Str × PV)} {old b c : PV} {i j : Nat} {rs : List Stmt} {Q : Flow → Shared → Prop} (n : Nat) (H : St C ks lm l s) (hx : nm ks lm x = some (.ref a)) (hi : l[i]? = some (a, aInst 97 dx)) (hj : l[j]? = some (dx, aNs qs)) (hn : qs.lookup name = some old) (hl : qs.length ≤ 900)
    (ho : ∀ P, ownName (KH P) name = true) (ht : ∀ P, takerIn (KH P) 97 name = some none) (hh : ∀ t, handedIn (old.val t) = true) (he : ev ks lm n e = some b) (hc : ibin op old b = some c)
    (h : ∀ s', St C ks lm (l.set j (dx, aNs (putV name c qs))) s' → C.B rs Q s') : C.B (.AugAssign (.Attribute (.Name x xp) name ap) op e pos :: rs) Q s := by
  refine wpAny_execs_cons (wpAny_AugAssign_AttributeAny (Name_ok H hx fun u hu => ?_))
  obtain ⟨_, rfl⟩ := hu
  refine attr_ok H hi hj ho hn hh fun v4 s5 hv4 H5 => ev_ok n H5 he fun v6 s6 hv6 H6 => ?_
  obtain ⟨t4, rfl⟩ := hv4
  obtain ⟨t6, rfl⟩ := hv6
  exact (ibin_ok hc).ok _ _ _ _ _ _ _ _ fun t7 tk7 ht7 => setattr_ok (H6.toks tk7 ht7) hi hj ht cls_setattr cls_plain (.mk c t7) hl h
theorem rc_tail {a : LexA} {ln : Int} {tk cs : List PV} {v : Value} {y : Str} {Q : Value → Shared → Prop} (H : St C [("self", .local), ("ch", .local)] [("self", .ref a.x)] (lexL a ln tk cs rest) s) (hv : VS v (.str y))
    (k : ∀ v' lm' s', VS v' (.str y) → St C [("self", .local), ("ch", .local)] lm' (lexL a (if y = nlc then ln + 1 else ln) tk cs rest) s' → Q v' s') :
    C.X (storeName C.env "ch" v) (fun _ s₂ => C.B (bodyOf 80).tail (fun f => Q (retv f)) s₂) s :=
  storeL H rfl hv fun s₃ H₃ => do_if 2 H₃ (b := decide (y = nlc)) rfl rfl
    (fun hb s₄ H₄ => do_augattr (i := 4) (j := 1) (old := .int ln) (c := .int (ln + 1)) 1 H₄ rfl rfl rfl rfl (by show (4 : Nat) ≤ 900; decide) (fun P => own P (.head _)) take_lineno (fun _ => rfl) rfl rfl fun s₅ H₅ =>
      then_next (do_return 1 H₅ rfl fun v' s₆ hv' H₆ => k _ _ _ hv' ((if_pos (of_decide_eq_true hb) : (if y = nlc then ln + 1 else ln) = _) ▸ H₆)))
    fun hb s₄ H₄ => then_next (do_return 1 H₄ rfl fun v' s₆ hv' H₆ => k _ _ _ hv' ((if_neg (of_decide_eq_false hb) : (if y = nlc then ln + 1 else ln) = _) ▸ H₆))
/-- `_read_char`: the next sign, or the empty str -/
theorem read_char {a : LexA} {ln : Int} {tk cs : List PV} {A : Around} {Q : Value → Shared → Prop} (H : St C ks lm (lexL a ln tk cs rest) s) (hA : Ok A 2) (hl : cs.length ≤ 1000)
    (hnil : cs = [] → ∀ v s', VS v (.str "") → St C ks lm (lexL a ln tk [] rest) s' → Q v s')
    (hcons : ∀ y t, cs = .str y :: t → ∀ v s', VS v (.str y) → St C ks lm (lexL a (if y = nlc then ln + 1 else ln) tk t rest) s' → Q v s') (hs : ∀ p ∈ cs, ∃ y, p = .str y) :
    codeAny (model C.prog C.w) A (.call (.ref 80) ⟨[.ref a.x], []⟩) (Ret Q) s := by
  refine enterC 1 d80 [("self", .local), ("ch", .local)] (fun n => by kernel_rfl) (by decide) H hA (ps := [.ref a.x]) (.cons (.raw _) .nil) rfl fun C' s₁ hA' _ H' back => ?_
  refine seq_assign (MethodCall_ (Attr_ev (i := 4) (j := 1) H' rfl rfl rfl (p := .ref a.fd) rfl (fun P => own P (.tail _ (.head _))) (fun _ => rfl) fun v s₂ hv H₂ => ?_))
  obtain ⟨_, rfl⟩ := hv
  refine meth_own (i := 5) (j := 6) H₂ rfl rfl (p := .ref a.fn) (fun P => own P (by decide)) rfl (fun _ => rfl) fun v s₃ hv H₃ => ?_
  refine callWith_led (i := 7) 1 H₃ hv rfl (ps := [.int 1]) rfl fun vs s₄ hvs H₄ => ?_
  obtain ⟨u, rfl⟩ := List.length_eq_one_iff.mp hvs.length
  refine lam_call (i1 := 6) (i2 := 7) (i4 := 2) H₄ (hA'.less (by decide)) rfl rfl rfl hl (fun hn v' s₅ hv' H₅ => ?_) fun p t hc v' s₅ hv' H₅ => ?_
  · subst hn
    refine rc_tail H₅ hv' fun v'' lm' s'' h1 h2 => hnil rfl v'' s'' h1 ?_
    rw [if_neg (by decide)] at h2
    exact back _ _ _ h2
  · obtain ⟨y, rfl⟩ := hs p (hc ▸ .head _)
    exact rc_tail H₅ hv' fun v'' lm' s'' h1 h2 => hcons y t hc v'' s'' h1 (back _ _ _ h2)
end
end Mine
end
section
open PySem PySem.W PyProof.Rows PySem.Calls
namespace Mine
theorem d94 : Def 94 ["self", "token"] := ⟨fun P => by kernel_rfl, fun P => by kernel_rfl, by kernel_rfl, fun a b => by kernel_rfl, by kernel_rfl, by kernel_rfl, by kernel_rfl, by kernel_rfl⟩
theorem d87 : Def 87 ["self"] := ⟨fun P => by kernel_rfl, fun P => by kernel_rfl, by kernel_rfl, fun a => by kernel_rfl, by kernel_rfl, by kernel_rfl, by kernel_rfl, by kernel_rfl⟩
/-- `lm'` is part of `lm` -/
def AllIn (lm : Vars) : Vars → Prop
  | [] => True
  | q :: r => lm.lookup q.1 = some q.2 ∧ AllIn lm r
theorem AllIn.mem {lm lm' : Vars} (h : AllIn lm lm') {q : Str × PV} (hq : q ∈ lm') : lm.lookup q.1 = some q.2 := by
  induction lm' with
  | nil => cases hq
  | cons p r ih =>
    rcases List.mem_cons.mp hq with rfl | hq
    · exact h.1
    · exact ih h.2 hq
section
variable {C : Cx} {ks : Kinds} {lm : Vars} {l rest : Led} {s : Shared}
theorem St.norm (H : St C ks lm l s) {lm' : Vars} (h : AllIn lm lm') : St C ks lm' l s := H.locals fun x p e => h.mem (mem_of_lookup e)
theorem push_token {a : LexA} {ln : Int} {tk cs : List PV} {v : Value} {p : PV} {Q : Value → Shared → Prop} (H : St C ks lm (lexL a ln tk cs rest) s) (hA : Ok C.A 2) (hv : VS v p) (hl : tk.length ≤ 1000)
    (h : ∀ s', St C ks lm (lexL a ln (tk ++ [p]) cs rest) s' → Q .none s') : C.X (call (.ref 94) [.ref a.x, v]) Q s := by
  refine enter 1 d94 [("self", .local), ("token", .local)] (fun n => by kernel_rfl) (by decide) H hA (ps := [.ref a.x, p]) (.cons (.raw _) (.cons hv .nil)) rfl fun C' s₁ hA' _ H' back => ?_
  refine seq_expr H'.V (MethodCall_ (Attr_ev (i := 4) (j := 1) H' rfl rfl rfl (p := .ref a.pb) rfl (fun P => own P (by decide)) (fun _ => rfl) fun v s₂ hv H₂ => ?_))
  obtain ⟨_, rfl⟩ := hv
  refine meth_list (i := 2) H₂ rfl slot_list_append (by kernel_rfl) ?_
  refine callB (evs_ok (C := C') 1 H₂ (ps := [p]) rfl fun vs s₃ hvs H₃ => ?_)
  cases hvs with
  | cons hv hn =>
    cases hn
    exact append_ok (i := 2) H₃ rfl hv (Nat.le_trans hl (by decide)) fun s₄ H₄ => seq_nil (h _ (back _ _ _ H₄))
/-- a method without arguments -/
theorem Meth0 {x name : Str} {xp ap pos : Pos} {a dx f : Addr} {qs : List (Str × PV)} {params : List Str} {i j : Nat} {Q : Value → Shared → Prop} (D : Def f params) (H : St C ks lm l s) (hx : nm ks lm x = some (.ref a)) (hi : l[i]? = some (a, aInst 97 dx)) (hj : l[j]? = some (dx, aNs qs))
    (hg : ∀ P, (plainGet (KH P) 97 name && isFn (KH P) (.ref f)) = true) (hf : ∀ P, findIn (KH P) (.ref 97) name = some (some (.ref f))) (hn : qs.lookup name = none) (h : C.X (call (.ref f) [.ref a]) Q s)
    (he : eval (.Call (.Attribute (.Name x xp) name ap) [] [] pos) C.env = (do
      let ov ← eval (.Name x xp) C.env
      standAt ap.atName
      let (f, first) ← holding [ov] (getMethod ov name (do return (← importBound (.Name x xp) C.env).getD true))
      callWith pos f first (backTo pos (starEach [] C.env)) []) := by rfl) : C.X (eval (.Call (.Attribute (.Name x xp) name ap) [] [] pos) C.env) Q s :=
  MethodCall_ (Name_ok H hx fun v hv => by
    obtain ⟨_, rfl⟩ := hv
    exact meth_ok H hi hj hg hf hn (callWith_K0 (C.G.X.keeps H.keep) (Bool.and_eq_true_iff.mp (D.code _)).2 h)) he
/-- a method with pure arguments -/
theorem MethN {x name : Str} {xp ap pos : Pos} {a dx f : Addr} {e : Expr} {args : List Expr} {ps : List PV} {qs : List (Str × PV)} {params : List Str} {i j : Nat} {Q : Value → Shared → Prop} (n : Nat) (D : Def f params) (H : St C ks lm l s) (hx : nm ks lm x = some (.ref a)) (hi : l[i]? = some (a, aInst 97 dx)) (hj : l[j]? = some (dx, aNs qs))
    (hg : ∀ P, (plainGet (KH P) 97 name && isFn (KH P) (.ref f)) = true) (hf : ∀ P, findIn (KH P) (.ref 97) name = some (some (.ref f))) (hn : qs.lookup name = none) (hev : evs ks lm n (e :: args) = some ps)
    (h : ∀ vs s', VSs vs ps → St C ks lm l s' → C.X (call (.ref f) (.ref a :: vs)) Q s')
    (hplain : (backTo pos (starEach args C.env)).any (·.1) = false := by rfl)
    (he : eval (.Call (.Attribute (.Name x xp) name ap) (e :: args) [] pos) C.env = (do
      let ov ← eval (.Name x xp) C.env
      standAt ap.atName
      let (f, first) ← holding [ov] (getMethod ov name (do return (← importBound (.Name x xp) C.env).getD true))
      callWith pos f first (backTo pos (starEach (e :: args) C.env)) []) := by rfl) : C.X (eval (.Call (.Attribute (.Name x xp) name ap) (e :: args) [] pos) C.env) Q s :=
  MethodCall_ (Name_ok H hx fun v hv => by
    obtain ⟨_, rfl⟩ := hv
    exact meth_ok H hi hj hg hf hn (callWith_K (h₀ := C.g) C.G.X (Bool.and_eq_true_iff.mp (D.code _)).2 (evs_ok n H hev fun vs s' hv H' => ⟨C.G.X.keeps H'.keep, h vs _ hv H'⟩) (evs_head hev) hplain)) he
theorem g80 (P : Params) : (plainGet (KH P) 97 "_read_char" && isFn (KH P) (.ref 80) && hasDictIn (KH P) 97) = true := by kernel_rfl
theorem f80 (P : Params) : findIn (KH P) (.ref 97) "_read_char" = some (some (.ref 80)) := by kernel_rfl
theorem s80 (P : Params) : specialIn (KH P) (.ref 80) "__get__" = some (some (.builtin "function.__get__")) := by kernel_rfl
theorem k80 (P : Params) : takesIn (KH P) (.ref 80) = some false := by kernel_rfl
/-! the loop over the signs -/
def aCI (q : Addr) (t : Tok) : AO := fun o => o = { cls := .type "callable_iterator", data := .fields #[.ref q, .str (Str.ofString "") t, .bool false] }
def lexI (a : LexA) (ln : Int) (cs : List PV) (it q : Addr) (t : Tok) (rest : Led) : Led := lexL a ln [] cs ((it, aCI q t) :: (q, aBound 80 a.x) :: rest)
/-- signs: strs that are not empty -/
def Signs (cs : List PV) : Prop := ∀ p ∈ cs, ∃ y, p = .str y ∧ y ≠ Str.ofString ""
theorem Signs.strs {cs : List PV} (h : Signs cs) : ∀ p ∈ cs, ∃ y, p = .str y := fun p hp => let ⟨y, e, _⟩ := h p hp; ⟨y, e⟩
theorem tok_next {a : LexA} {ln : Int} {cs : List PV} {it q : Addr} {t : Tok} {Q : Option Value → Shared → Prop} (H : St C ks lm (lexI a ln cs it q t rest) s) (hA : Ok C.A 3) (hl : cs.length ≤ 1000) (hs : Signs cs)
    (hnil : cs = [] → ∀ s', St C ks lm (lexL a ln [] [] ((q, aBound 80 a.x) :: rest)) s' → Q none s')
    (hcons : ∀ y r, cs = .str y :: r → ∀ v s', VS v (.str y) → St C ks lm (lexI a (if y = nlc then ln + 1 else ln) r it q t rest) s' → Q (some v) s') :
    C.X (pyNext (.ref it)) Q s := by
  obtain ⟨oi, hoi, ri⟩ := H.at (i := 9) (a := it) rfl
  obtain ⟨oq, hoq, rq⟩ := H.at (i := 10) (a := q) rfl
  cases ri
  cases rq
  have K := fun {s : Shared} (k : ∀ b o, C.g.get? b = some o → s.heap.get? b = some o) => (C.G.X.keeps k)
  refine ci_next hA.h hoi hoq ⟨_, _, C.G.X.keeps H.keep _ _ (d80.at_ _), rfl⟩ (read_char H (hA.in1 (n := 2)) hl (fun hn v s' hv H' => ?_) (fun y r hc v s' hv H' => ?_) hs.strs)
  · obtain ⟨u, rfl⟩ := hv
    obtain ⟨oi, hoi', ri⟩ := H'.at (i := 9) (a := it) rfl
    obtain ⟨oq, hoq', rq⟩ := H'.at (i := 10) (a := q) rfl
    cases ri
    cases rq
    exact ⟨_, u, rfl, hoi', hoq', ⟨_, _, C.G.X.keeps H'.keep _ _ (d80.at_ _), rfl⟩, fun e => absurd rfl e, fun _ h' hh => hnil hn _ (St.lost (H'.front (i := 9) rfl) (tk := s'.toks) hh)⟩
  · have hv0 := hv
    obtain ⟨u, rfl⟩ := hv
    obtain ⟨oi, hoi', ri⟩ := H'.at (i := 9) (a := it) rfl
    obtain ⟨oq, hoq', rq⟩ := H'.at (i := 10) (a := q) rfl
    cases ri
    cases rq
    refine ⟨_, u, rfl, hoi', hoq', ⟨_, _, C.G.X.keeps H'.keep _ _ (d80.at_ _), rfl⟩, fun _ => hcons y r hc _ _ hv0 H', fun e => ?_⟩
    subst e
    obtain ⟨y', e1, e2⟩ := hs (.str (Str.ofString "")) (by rw [hc]; exact .head _)
    cases e1
    exact absurd rfl e2
end
end Mine
end
section
open PySem PySem.W PyProof.Rows PySem.Calls
namespace Mine
noncomputable def isWs (y : Str) : Bool := !(Builtin.Str.occurrences wsp y 0 wsp.length 1).isEmpty
def bsl : Str := Str.ofString "\\"
def qtl : Str := Str.ofString "\""
/-- a sign that a word may hold -/
structure Plain (y : Str) : Prop where
  ws : isWs y = false
  bs : y ≠ bsl
  qt : y ≠ qtl
  nl : y ≠ nlc
  ne : y ≠ Str.ofString ""
  len : y.length ≤ 10
/-- the signs of a word as written -/
def enc (e : Bool) (w : List Str) : List PV := w.flatMap fun y => if e then [.str bsl, .str y] else [.str y]
/-- the word -/
def glue (acc : Str) (w : List Str) : Str := w.foldl (· ++ ·) acc
noncomputable def tks : Kinds := [("self", .local), ("token", .local), ("fiter", .local), ("ch", .local), ("iter", .globalImplicit)]
section
variable {C : Cx} {lm : Vars} {l rest : Led} {s : Shared}
/-- the form of `self._read_char()` -/
abbrev RcEval (C : Cx) (p2 p3 p4 : Pos) : Prop := eval (.Call (.Attribute (.Name "self" p2) "_read_char" p3) [] [] p4) C.env = (do
      let ov ← eval (.Name "self" p2) C.env
      standAt p3.atName
      let (f, first) ← holding [ov] (getMethod ov "_read_char" (do return (← importBound (.Name "self" p2) C.env).getD true))
      callWith p4 f first (backTo p4 (starEach [] C.env)) [])
theorem ws_test {ks : Kinds} {a : LexA} {ln : Int} {cs : List PV} {it q : Addr} {t : Tok} {y : Str} {p1 p2 p3 pos : Pos} {Q : Bool → Shared → Prop} (H : St C ks lm (lexI a ln cs it q t rest) s) (hc : nm ks lm "ch" = some (.str y)) (hx : nm ks lm "self" = some (.ref a.x)) (h : ∀ s', St C ks lm (lexI a ln cs it q t rest) s' → Q (isWs y) s') :
    C.X (isTrue (.Compare (.Name "ch" p1) [.In] [.Attribute (.Name "self" p2) "whitespace" p3] pos) C.env (eval (.Compare (.Name "ch" p1) [.In] [.Attribute (.Name "self" p2) "whitespace" p3] pos) C.env)) Q s := by
  refine wpAny_isTrue_Compare1 (Name_ok H hc fun v1 hv1 => Attr_ev (i := 4) (j := 1) H hx rfl rfl (p := .str wsp) rfl (fun P => own P (by decide)) (fun _ => rfl) fun v s₂ hv H₂ => ?_)
  obtain ⟨t1, rfl⟩ := hv1
  obtain ⟨t2, rfl⟩ := hv
  exact (cmp_ok (op := .In) (a := .str y) (b := .str wsp) (c := isWs y) rfl).ok _ _ _ _ _ _ _ _ (wpAny_truthy_bool (h _ H₂))
/-- `ch = self._read_char()` upon a backslash -/
theorem take_next {a : LexA} {ln : Int} {cs : List PV} {it q : Addr} {t : Tok} {y : Str} {p1 p2 p3 p4 p5 : Pos} {rs : List Stmt} {Q : Flow → Shared → Prop} (H : St C tks lm (lexI a ln (.str y :: cs) it q t rest) s) (hA : Ok C.A 3) (hx : nm tks lm "self" = some (.ref a.x)) (hl : cs.length < 1000) (hy : y ≠ nlc) (hs : Signs (.str y :: cs))
    (h : ∀ s', St C tks (("ch", .str y) :: lm) (lexI a ln cs it q t rest) s' → C.B rs Q s')
    (he : RcEval C p2 p3 p4 := by rfl) :
    C.B (.Assign [.Name "ch" p1] (.Call (.Attribute (.Name "self" p2) "_read_char" p3) [] [] p4) p5 :: rs) Q s := by
  refine seq_assign (Meth0 (i := 4) (j := 1) d80 H hx rfl rfl (fun P => (Bool.and_eq_true_iff.mp (g80 P)).1) f80 rfl (call_of (read_char H (hA.less (by decide)) hl (fun e => nomatch e) (fun y' r e v s' hv H' => ?_) hs.strs)) he)
  cases e
  rw [if_neg hy] at H'
  exact storeL H' rfl hv h
abbrev LM (a : LexA) (it : Addr) (acc : Str) : Vars := [("token", .str acc), ("self", .ref a.x), ("fiter", .ref it)]
theorem Plain.sign {y : Str} (h : Plain y) : ∃ z, PV.str y = .str z ∧ z ≠ Str.ofString "" := ⟨y, rfl, h.ne⟩
theorem enc_cons (e : Bool) (y : Str) (w : List Str) : enc e (y :: w) = (if e then [.str bsl, .str y] else [.str y]) ++ enc e w := rfl
theorem enc_sign {e : Bool} {w : List Str} (h : ∀ y ∈ w, Plain y) : Signs (enc e w) := by
  induction w with
  | nil => intro p hp; cases hp
  | cons y w ih =>
    have := ih fun z hz => h z (.tail _ hz)
    intro p hp
    rw [enc_cons] at hp
    rcases List.mem_append.mp hp with hp | hp
    · cases e
      · rcases List.mem_singleton.mp hp with rfl
        exact (h y (.head _)).sign
      · rcases List.mem_cons.mp hp with rfl | hp
        · exact ⟨_, rfl, by decide⟩
        · rcases List.mem_singleton.mp hp with rfl
          exact (h y (.head _)).sign
    · exact this p hp
theorem Signs.app {a b : List PV} (h : Signs a) (k : Signs b) : Signs (a ++ b) := fun p hp => (List.mem_append.mp hp).elim (h p) (k p)
theorem Signs.cons {y : Str} {b : List PV} (h : y ≠ Str.ofString "") (k : Signs b) : Signs (.str y :: b) := fun p hp => (List.mem_cons.mp hp).elim (fun e => e ▸ ⟨y, rfl, h⟩) (k p)
/-- the loop over a word's signs: `stop` ends it -/
theorem tok_add {a : LexA} {it q : Addr} {t : Tok} {ln : Int} {cs : List PV} {acc y : Str} {p1 p2 p3 : Pos} {Q : Flow → Shared → Prop} (hlm : AllIn lm (LM a it acc)) (hc : nm tks lm "ch" = some (.str y)) (hl : acc.length + y.length ≤ 1000000) (H : St C tks lm (lexI a ln cs it q t rest) s)
    (h : ∀ s', St C tks (LM a it (acc ++ y)) (lexI a ln cs it q t rest) s' → Q .next s') : C.B [.AugAssign (.Name "token" p1) .Add (.Name "ch" p2) p3] Q s :=
  do_aug 1 H (a := .str acc) (b := .str y) (c := .str (acc ++ y)) hlm.1 hc (by show addS .Add acc y = _; unfold addS; rw [if_pos ⟨rfl, hl⟩]) fun s' H' => seq_nil (h s' (H'.norm ⟨rfl, by
    have h1 := hlm.2.1
    have h2 := hlm.2.2.1
    exact ⟨h1, h2, trivial⟩⟩))
/-- `if ch == '\\': ch = self._read_char()` -/
theorem tok_esc {a : LexA} {it q : Addr} {t : Tok} {ln : Int} {cs : List PV} {e : Bool} {acc y z : Str} {p1 p2 p3 p4 p5 p6 p7 p8 p9 : Pos} {k1 : Nat} {rs : List Stmt} {Q : Flow → Shared → Prop} (hlm : AllIn lm (LM a it acc)) (hc : nm tks lm "ch" = some (.str z)) (hA : Ok C.A 3) (hcs : cs.length < 1000)
    (hs : Signs cs) (hy : Plain y) (hz : z = if e then bsl else y) (H : St C tks lm (lexI a ln ((if e then [.str y] else []) ++ cs) it q t rest) s)
    (h : ∀ lm' s', AllIn lm' (LM a it acc) → nm tks lm' "ch" = some (.str y) → St C tks lm' (lexI a ln cs it q t rest) s' → C.B rs Q s') (he : RcEval C p2 p3 p4 := by rfl) :
    C.B (.If (.Compare (.Name "ch" p5) [.Eq] [.Constant (.str "\\") k1 p6] p7) [.Assign [.Name "ch" p1] (.Call (.Attribute (.Name "self" p2) "_read_char" p3) [] [] p4) p8] [] p9 :: rs) Q s := by
  have h1 := hlm.1
  have h2 := hlm.2.1
  have h3 := hlm.2.2.1
  refine do_if 2 H (p := .bool (decide (z = bsl))) (b := decide (z = bsl)) (by show ev _ _ 2 _ = _; unfold ev; dsimp only; rw [show ev tks lm 1 (.Name "ch" p5) = some (.str z) from hc]; rfl) rfl (fun hb s₁ H₁ => ?_) fun hb s₁ H₁ => ?_
  · cases e with
    | true => exact take_next H₁ hA h2 hcs hy.nl (Signs.cons hy.ne hs) (fun s₂ H₂ => then_next (h ((Str.ofString "ch", .str y) :: lm) s₂ ⟨h1, h2, h3, trivial⟩ rfl H₂)) he
    | false => exact absurd (hz.symm.trans (of_decide_eq_true hb)) hy.bs
  · cases e with
    | true => exact absurd hz (of_decide_eq_false hb)
    | false => exact then_next (h lm s₁ hlm (hc.trans (congrArg (fun x => some (PV.str x)) hz)) H₁)
theorem sign_of {e : Bool} {z y : Str} {w : List Str} {r cs : List PV} (h : enc e (z :: w) ++ r = .str y :: cs) (hz : Plain z) : y = (if e then bsl else z) ∧ cs = (if e then [.str z] else []) ++ (enc e w ++ r) ∧ isWs y = false ∧ y ≠ nlc ∧ y ≠ qtl := by
  cases e with
  | true => cases h; exact ⟨rfl, rfl, by kernel_rfl, by decide, by decide⟩
  | false => cases h; exact ⟨rfl, rfl, hz.ws, hz.nl, hz.qt⟩
theorem enc_len {e : Bool} {z : Str} {w : List Str} {r : List PV} (h : (enc e (z :: w) ++ r).length ≤ 1000) : (enc e w ++ r).length < 1000 := by
  rw [enc_cons, List.append_assoc, List.length_append] at h
  have : 1 ≤ (if e then [PV.str bsl, PV.str z] else [PV.str z]).length := by cases e <;> simp
  omega
theorem add_len {acc z : Str} {w : List Str} (hl : acc.length + 10 * (z :: w).length ≤ 1000000) (hz : Plain z) : (acc ++ z).length + 10 * w.length ≤ 1000000 ∧ acc.length + z.length ≤ 1000000 := by
  have := hz.len
  rw [List.length_cons] at hl
  rw [Str.length_append]
  omega
/-- the loop over a bare word's signs -/
theorem bare_loop {a : LexA} {it q : Addr} {t : Tok} {ln : Int} {e : Bool} {b acc : Str} {w : List Str} {r : List PV} {p1 p2 p3 p4 p5 p6 p7 p8 p9 p10 p11 p12 p13 p14 p15 p16 p17 p18 p19 p20 : Pos} {k1 : Nat} {R : Result → Shared → Prop} (hb : isWs b = true) (hlm : AllIn lm (LM a it acc)) (hA : Ok C.A 3) (hw : ∀ y ∈ w, Plain y)
    (hl : acc.length + 10 * w.length ≤ 1000000) (hcs : (enc e w ++ .str b :: r).length ≤ 1000) (hs : Signs (.str b :: r)) (H : St C tks lm (lexI a ln (enc e w ++ .str b :: r) it q t rest) s)
    (hR : ∀ v lm' s', VS v (.str (glue acc w)) → St C tks lm' (lexI a (if b = nlc then ln + 1 else ln) r it q t rest) s' → R (.ok (.ret v)) s') (he : RcEval C p2 p3 p4 := by rfl) :
    codeAny (model C.prog C.w) C.A (.forLoop (.Name "ch" p13) (.ref it) [.If (.Compare (.Name "ch" p14) [.In] [.Attribute (.Name "self" p15) "whitespace" p16] p17) [.Return (some (.Name "token" p18)) p19]
      [.If (.Compare (.Name "ch" p5) [.Eq] [.Constant (.str "\\") k1 p6] p7) [.Assign [.Name "ch" p1] (.Call (.Attribute (.Name "self" p2) "_read_char" p3) [] [] p4) p8] [] p9] p10, .AugAssign (.Name "token" p11) .Add (.Name "ch" p12) p20] [] C.env) R s := by
  refine codeAny_forLoop (fun n s => ∃ w' acc' lm, n = w'.length ∧ (∀ y ∈ w', Plain y) ∧ glue acc' w' = glue acc w ∧ acc'.length + 10 * w'.length ≤ 1000000 ∧ (enc e w' ++ .str b :: r).length ≤ 1000 ∧ AllIn lm (LM a it acc') ∧ St C tks lm (lexI a ln (enc e w' ++ .str b :: r) it q t rest) s)
    (fun n s hI => ?_) _ ⟨w, acc, lm, rfl, hw, rfl, hl, hcs, hlm, H⟩
  clear hw hl hcs hlm H
  obtain ⟨w', acc', lm, rfl, hw, hg, hl, hcs, hlm, H⟩ := hI
  have h1 := hlm.1
  have h2 := hlm.2.1
  have h3 := hlm.2.2.1
  refine noE (tok_next H hA hcs ((enc_sign hw).app hs) (fun hn => absurd hn (by simp)) fun y cs' hc v s₁ hv H₁ => ?_)
  refine noE (wpAny_assign_Name (store_ok H₁ (.inl rfl) hv fun s₂ H₂ => noE (seq_if (ws_test H₂ rfl h2 fun s₃ H₃ => ?_))))
  cases w' with
  | nil =>
    cases hc
    have hg : acc' = glue acc w := hg
    refine ⟨fun _ => do_return 1 H₃ (p := .str acc') h1 fun v' s₄ hv' H₄ => hR _ _ _ (hg ▸ hv') H₄, fun e => ?_⟩
    rw [hb] at e; cases e
  | cons z w2 =>
    have hz := hw z (.head _)
    have hw2 := fun u hu => hw u (List.Mem.tail _ hu)
    have hg : glue (acc' ++ z) w2 = glue acc w := hg
    obtain ⟨e1, e2, e3, e4, -⟩ := sign_of hc hz
    obtain ⟨l1, l2⟩ := add_len hl hz
    rw [if_neg e4, e2] at H₃
    have hcs2 := enc_len hcs
    refine ⟨fun e => absurd (e3.symm.trans e) (by decide), fun _ => tok_esc (lm := (Str.ofString "ch", .str y) :: lm) ⟨h1, h2, h3, trivial⟩ rfl hA hcs2 ((enc_sign hw2).app hs) hz e1 H₃ (fun lm' s₄ h4 h5 H₄ => ?_) he⟩
    exact then_next (tok_add h4 h5 l2 H₄ fun s₅ H₅ => ⟨_, Nat.lt_succ_self _, w2, acc' ++ z, _, rfl, hw2, hg, l1, Nat.le_of_lt hcs2, ⟨rfl, rfl, rfl, trivial⟩, H₅⟩)
/-- the loop over the signs of a word in quotation marks -/
theorem quote_loop {a : LexA} {it q : Addr} {t : Tok} {ln : Int} {e : Bool} {acc : Str} {w : List Str} {r : List PV} {p1 p2 p3 p4 p5 p6 p7 p8 p9 p10 p11 p12 p13 p14 p15 p17 p18 p19 p20 : Pos} {k1 k2 : Nat} {R : Result → Shared → Prop} (hlm : AllIn lm (LM a it acc)) (hA : Ok C.A 3) (hw : ∀ y ∈ w, Plain y)
    (hl : acc.length + 10 * w.length ≤ 1000000) (hcs : (enc e w ++ .str qtl :: r).length ≤ 1000) (hs : Signs r) (H : St C tks lm (lexI a ln (enc e w ++ .str qtl :: r) it q t rest) s)
    (hR : ∀ v lm' s', VS v (.str (glue acc w)) → St C tks lm' (lexI a ln r it q t rest) s' → R (.ok (.ret v)) s') (he : RcEval C p2 p3 p4 := by rfl) :
    codeAny (model C.prog C.w) C.A (.forLoop (.Name "ch" p13) (.ref it) [.If (.Compare (.Name "ch" p14) [.Eq] [.Constant (.str "\"") k2 p15] p17) [.Return (some (.Name "token" p18)) p19]
      [.If (.Compare (.Name "ch" p5) [.Eq] [.Constant (.str "\\") k1 p6] p7) [.Assign [.Name "ch" p1] (.Call (.Attribute (.Name "self" p2) "_read_char" p3) [] [] p4) p8] [] p9] p10, .AugAssign (.Name "token" p11) .Add (.Name "ch" p12) p20] [] C.env) R s := by
  have hs' : Signs (.str qtl :: r) := Signs.cons (by decide) hs
  refine codeAny_forLoop (fun n s => ∃ w' acc' lm, n = w'.length ∧ (∀ y ∈ w', Plain y) ∧ glue acc' w' = glue acc w ∧ acc'.length + 10 * w'.length ≤ 1000000 ∧ (enc e w' ++ .str qtl :: r).length ≤ 1000 ∧ AllIn lm (LM a it acc') ∧ St C tks lm (lexI a ln (enc e w' ++ .str qtl :: r) it q t rest) s)
    (fun n s hI => ?_) _ ⟨w, acc, lm, rfl, hw, rfl, hl, hcs, hlm, H⟩
  clear hw hl hcs hlm H
  obtain ⟨w', acc', lm, rfl, hw, hg, hl, hcs, hlm, H⟩ := hI
  have h1 := hlm.1
  have h2 := hlm.2.1
  have h3 := hlm.2.2.1
  refine noE (tok_next H hA hcs ((enc_sign hw).app hs') (fun hn => absurd hn (by simp)) fun y cs' hc v s₁ hv H₁ => ?_)
  refine noE (wpAny_assign_Name (store_ok H₁ (.inl rfl) hv fun s₂ H₂ => noE (seq_if (test_ok 2 H₂ (p := .bool (decide (y = qtl))) (b := decide (y = qtl)) rfl rfl fun s₃ H₃ => ?_))))
  cases w' with
  | nil =>
    cases hc
    have hg : acc' = glue acc w := hg
    refine ⟨fun _ => do_return 1 H₃ (p := .str acc') h1 fun v' s₄ hv' H₄ => hR _ _ _ (hg ▸ hv') H₄, fun e => absurd rfl (of_decide_eq_false e)⟩
  | cons z w2 =>
    have hz := hw z (.head _)
    have hw2 := fun u hu => hw u (List.Mem.tail _ hu)
    have hg : glue (acc' ++ z) w2 = glue acc w := hg
    obtain ⟨e1, e2, e3, e4, e5⟩ := sign_of hc hz
    obtain ⟨l1, l2⟩ := add_len hl hz
    rw [if_neg e4, e2] at H₃
    have hcs2 := enc_len hcs
    refine ⟨fun e => absurd (of_decide_eq_true e) e5, fun _ => tok_esc (lm := (Str.ofString "ch", .str y) :: lm) ⟨h1, h2, h3, trivial⟩ rfl hA hcs2 ((enc_sign hw2).app hs') hz e1 H₃ (fun lm' s₄ h4 h5 H₄ => ?_) he⟩
    exact then_next (tok_add h4 h5 l2 H₄ fun s₅ H₅ => ⟨_, Nat.lt_succ_self _, w2, acc' ++ z, _, rfl, hw2, hg, l1, Nat.le_of_lt hcs2, ⟨rfl, rfl, rfl, trivial⟩, H₅⟩)
end
end Mine
end
section
open PySem PySem.W PyProof.Rows PySem.Calls
namespace Mine
section
variable {C : Cx} {ks : Kinds} {lm : Vars} {l rest : Led} {s : Shared}
theorem list_truth {a : Addr} {ps : List PV} {i : Nat} {Q : Bool → Shared → Prop} (H : St C ks lm l s) (hi : l[i]? = some (a, aList ps)) (hl : ps.length ≤ 1000000) (h : ∀ s', St C ks lm l s' → Q (!ps.isEmpty) s') : C.X (truthy (.ref a)) Q s := by
  obtain ⟨vs, n, hL, r⟩ := H.isL hi
  have hz : vs.size = ps.length := r.length
  have hb : vs.isEmpty = ps.isEmpty := by
    cases vs with
    | mk vs =>
    cases r with
    | nil => rfl
    | cons _ _ => rfl
  exact wpAny_truthy_list hL.isList (by omega) (by rw [hb]; exact h _ (H.toks _))
/-- `self.pushback` as a test -/
theorem pb_test {a : LexA} {ln : Int} {tk cs : List PV} {x : Str} {p1 p2 : Pos} {Q : Bool → Shared → Prop} (H : St C ks lm (lexL a ln tk cs rest) s) (hx : nm ks lm x = some (.ref a.x)) (hl : tk.length ≤ 1000) (h : ∀ s', St C ks lm (lexL a ln tk cs rest) s' → Q (!tk.isEmpty) s') :
    C.X (isTrue (.Attribute (.Name x p1) "pushback" p2) C.env (eval (.Attribute (.Name x p1) "pushback" p2) C.env)) Q s :=
  wpAny_isTrue_value (Attr_ev (i := 4) (j := 1) H hx rfl rfl (p := .ref a.pb) rfl (fun P => own P (by decide)) (fun _ => rfl) fun v s' hv H' => by
    obtain ⟨_, rfl⟩ := hv
    exact list_truth (i := 2) H' rfl (Nat.le_trans hl (by decide)) h)
theorem pop0_ok {a : Addr} {p : PV} {ps : List PV} {i : Nat} {pos : Pos} {e : Expr} {Q : Value → Shared → Prop} (H : St C ks lm l s) (hi : l[i]? = some (a, aList (p :: ps))) (hl : ps.length ≤ 1000) (he : ev ks lm 2 e = some (.int 0)) (h : ∀ v s', VS v p → St C ks lm (l.set i (a, aList ps)) s' → Q v s') :
    C.X (callWith pos (.builtin "list.pop") [.ref a] [(false, eval e C.env)] []) Q s := by
  refine P.pop_at_list (ev_ok 2 H he fun v s₁ hv H₁ => ?_)
  obtain ⟨t, rfl⟩ := hv
  obtain ⟨vs, n, hL, r⟩ := H₁.isL hi
  cases vs with
  | mk vs =>
  cases r with
  | cons hv r =>
    rename_i u us
    have hz : us.length = ps.length := r.length
    refine ⟨_, n, 0, t, 0, u, by rw [line_is]; show us.length + 1 ≤ _; omega, rfl, hL, by decide, by unfold seqIndex?; simp, by simp, ?_⟩
    refine h u _ hv (H₁.set (tk := s₁.toks) hi (Heap.SameBut.update ..) (IsL.update hL _) ⟨_, _, rfl, ?_⟩)
    simpa using r
/-- the ledger with the loop's iterator -/
theorem lexI_drop {a : LexA} {ln : Int} {cs : List PV} {it q : Addr} {t : Tok} (H : St C ks lm (lexI a ln cs it q t rest) s) : St C ks lm (lexL a ln [] cs rest) s :=
  H.sub (List.Sublist.append_left (((List.sublist_cons_self _ _).trans (List.sublist_cons_self _ _))) (l := lexL a ln [] cs []))
theorem lexI_make {a : LexA} {ln : Int} {cs : List PV} {it q : Addr} {t : Tok} (H : St C ks lm ((it, aCI q t) :: (q, aBound 80 a.x) :: lexL a ln [] cs rest) s) : St C ks lm (lexI a ln cs it q t rest) s :=
  H.perm (List.perm_append_comm_assoc [(it, aCI q t), (q, aBound 80 a.x)] (lexL a ln [] cs []) rest)
theorem get_pushed {a : LexA} {ln : Int} {p : PV} {tk cs : List PV} {Q : Value → Shared → Prop} (H : St C ks lm (lexL a ln (p :: tk) cs rest) s) (hA : Ok C.A 2) (hl : tk.length < 1000)
    (h : ∀ v s', VS v p → St C ks lm (lexL a ln tk cs rest) s' → Q v s') : C.X (call (.ref 87) [.ref a.x]) Q s := by
  refine enter 1 d87 tks (fun n => by kernel_rfl) (by decide) H hA (ps := [.ref a.x]) (.cons (.raw _) .nil) rfl fun C' s₁ hA' _ H' back => ?_
  refine seq_if (pb_test H' rfl hl fun s₂ H₂ => ⟨fun _ => ?_, fun e => nomatch e⟩)
  refine seq_return (MethodCall_ (Attr_ev (i := 4) (j := 1) H₂ rfl rfl rfl (p := .ref a.pb) rfl (fun P => own P (by decide)) (fun _ => rfl) fun v s₃ hv H₃ => ?_))
  obtain ⟨_, rfl⟩ := hv
  refine meth_list (i := 2) H₃ rfl F.slot_list_pop F.type_list_pop ?_
  exact pop0_ok (i := 2) H₃ rfl (Nat.le_of_lt hl) rfl fun v s₄ hv H₄ => h v s₄ hv (back _ _ _ H₄)
theorem fiter_ok {a : LexA} {ln : Int} {cs : List PV} {p1 p2 p3 p4 p5 p6 p7 : Pos} {k : Nat} {rs : List Stmt} {Q : Flow → Shared → Prop} (H : St C tks lm (lexL a ln [] cs rest) s) (hx : nm tks lm "self" = some (.ref a.x))
    (h : ∀ it q t s', St C tks (("fiter", .ref it) :: lm) (lexI a ln cs it q t rest) s' → C.B rs Q s')
    (hs : swapsWith (.Call (.Name "iter" p2) [.Attribute (.Name "self" p3) "_read_char" p4, .Constant (.str "") k p5] [] p6) (some (.Name "fiter" p1)) p7.line C.env = pure false := by rfl)
    (hp : (backTo p6 (starEach [.Constant (.str "") k p5] C.env)).any (·.1) = false := by rfl) :
    C.B (.Assign [.Name "fiter" p1] (.Call (.Name "iter" p2) [.Attribute (.Name "self" p3) "_read_char" p4, .Constant (.str "") k p5] [] p6) p7 :: rs) Q s := by
  refine seq_assign (Call_ (Name_ok H (p := .raw (.builtin "iter")) rfl fun v hv => ?_)) hs
  obtain ⟨_, rfl⟩ := hv
  refine PyProof.Rows.callWith_builtin1 (wpAny_items_cons (Attribute_name (Name_ok H hx fun v hv => ?_)) rfl) rfl hp
  obtain ⟨_, rfl⟩ := hv
  refine bound_ok (i := 4) (j := 1) H rfl rfl g80 f80 s80 k80 (by decide) rfl fun q s₁ H₁ => ?_
  refine wpAny_items_cons (ev_ok 1 H₁ rfl fun v s₂ hv H₂ => wpAny_items_nil ?_) rfl
  obtain ⟨t, rfl⟩ := hv
  obtain ⟨oq, hoq, rq⟩ := H₂.at (i := 0) rfl
  cases rq
  refine call_iter2 hoq (storeL (H₂.push (ao := aCI q t) rfl rfl) rfl (.raw _) fun s₃ H₃ => ?_)
  exact h _ q t s₃ (lexI_make H₃)
theorem get_end {a : LexA} {ln : Int} {Q : Value → Shared → Prop} (H : St C ks lm (lexL a ln [] [] rest) s) (hA : Ok C.A 4)
    (h : ∀ v s', VS v (.str "") → St C ks lm (lexL a ln [] [] rest) s' → Q v s') : C.X (call (.ref 87) [.ref a.x]) Q s := by
  refine enter 3 d87 tks (fun n => by kernel_rfl) (by decide) H hA (ps := [.ref a.x]) (.cons (.raw _) .nil) rfl fun C' s₁ hA' _ H' back => ?_
  refine seq_if (pb_test H' rfl (by decide) fun s₂ H₂ => ⟨fun e => (nomatch e), fun _ => then_next ?_⟩)
  refine do_assign 1 H₂ rfl fun s₃ H₃ => fiter_ok H₃ rfl fun it q t s₄ H₄ => seq_for (Name_ok H₄ (p := .ref it) rfl fun v hv => ?_)
  obtain ⟨_, rfl⟩ := hv
  obtain ⟨oi, hoi, ri⟩ := H₄.at (i := 9) (a := it) rfl
  cases ri
  refine ci_iter hoi (codeAny_forLoop (fun n s => n = 0 ∧ St C' tks [("token", .str ""), ("self", .ref a.x)] (lexI a ln [] it q t rest) s) (fun n s hI => ?_) 0 ⟨rfl, H₄.norm ⟨rfl, rfl, trivial⟩⟩)
  obtain ⟨-, H⟩ := hI
  refine noE (tok_next H hA' (by decide) (fun p hp => nomatch hp) (fun _ s₅ H₅ => ?_) fun y r e => nomatch e)
  exact wpAny_execs_nil (do_return 1 H₅ rfl fun v s₆ hv H₆ => h v s₆ hv (back _ _ _ (H₆.sub (List.Sublist.append_left (List.sublist_cons_self _ _) (l := lexL a ln [] [] [])))))
/-- a word as it stands in the text -/
def dress (e q : Bool) (w : List Str) (b : Str) : List PV := if q then .str qtl :: (enc e w ++ [.str qtl]) else enc e w ++ [.str b]
theorem get_word {a : LexA} {ln : Int} {e qu : Bool} {w : List Str} {b : Str} {r : List PV} {Q : Value → Shared → Prop} (H : St C ks lm (lexL a ln [] (dress e qu w b ++ r) rest) s) (hA : Ok C.A 4) (hw : ∀ y ∈ w, Plain y) (hne : w ≠ []) (hwl : w.length ≤ 100) (hb : isWs b = true) (hb' : b ≠ Str.ofString "") (hs : Signs r) (hl : (dress e qu w b ++ r).length ≤ 1000)
    (h : ∀ v s', VS v (.str (glue (Str.ofString "") w)) → St C ks lm (lexL a (if qu = false ∧ b = nlc then ln + 1 else ln) [] r rest) s' → Q v s') : C.X (call (.ref 87) [.ref a.x]) Q s := by
  refine enter 3 d87 tks (fun n => by kernel_rfl) (by decide) H hA (ps := [.ref a.x]) (.cons (.raw _) .nil) rfl fun C' s₁ hA' _ H' back => ?_
  refine seq_if (pb_test H' rfl (Nat.zero_le _) fun s₂ H₂ => ⟨fun e => (nomatch e), fun _ => then_next ?_⟩)
  refine do_assign 1 H₂ rfl fun s₃ H₃ => fiter_ok H₃ rfl fun it q t s₄ H₄ => seq_for (Name_ok H₄ (p := .ref it) rfl fun v hv => ?_)
  obtain ⟨_, rfl⟩ := hv
  obtain ⟨oi, hoi, ri⟩ := H₄.at (i := 9) (a := it) rfl
  cases ri
  refine ci_iter hoi (codeAny_forLoop (fun n s => n = 0 ∧ St C' tks (LM a it (Str.ofString "")) (lexI a ln (dress e qu w b ++ r) it q t rest) s) (fun n s hI => ?_) 0 ⟨rfl, H₄.norm ⟨rfl, rfl, rfl, trivial⟩⟩)
  obtain ⟨-, H⟩ := hI
  clear H₄ H₃ H₂ H'
  cases qu with
  | true =>
    have es : dress e true w b ++ r = .str qtl :: (enc e w ++ .str qtl :: r) := by
      show PV.str qtl :: ((enc e w ++ [.str qtl]) ++ r) = _
      rw [List.append_assoc]; rfl
    rw [es] at H hl
    have hss : Signs (enc e w ++ .str qtl :: r) := (enc_sign hw).app (Signs.cons (by decide) hs)
    refine noE (tok_next H hA' hl (Signs.cons (by decide) hss) (fun hn => (nomatch hn)) fun y cs' hc v s₁ hv H₁ => ?_)
    cases hc
    rw [if_neg (by decide)] at H₁
    refine noE (wpAny_assign_Name (store_ok H₁ (.inl rfl) hv fun s₂ H₂ => noE (seq_if (ws_test H₂ rfl rfl fun s₃ H₃ => ⟨fun e => absurd e (by rw [show isWs qtl = false by kernel_rfl]; decide), fun _ => then_next ?_⟩))))
    refine seq_if (test_ok 2 H₃ (p := .bool true) (b := true) (by show some _ = _; rw [decide_eq_true (show qtl = Str.ofString "\"" from rfl)]) rfl fun s₄ H₄ => ⟨fun _ => ?_, fun e => (nomatch e)⟩)
    refine seq_for (Name_ok H₄ (p := .ref it) rfl fun v hv => ?_)
    obtain ⟨_, rfl⟩ := hv
    obtain ⟨oi, hoi, ri⟩ := H₄.at (i := 9) (a := it) rfl
    cases ri
    refine ci_iter hoi (quote_loop ⟨rfl, rfl, rfl, trivial⟩ hA' hw (by show 0 + _ ≤ _; omega) (Nat.le_of_lt hl) hs H₄ fun v lm' s₅ hv H₅ => h v s₅ hv (back _ _ _ (lexI_drop H₅)))
  | false =>
    have es : dress e false w b ++ r = enc e w ++ .str b :: r := by
      show (enc e w ++ [.str b]) ++ r = _
      rw [List.append_assoc]; rfl
    rw [es] at H hl
    cases w with
    | nil => exact absurd rfl hne
    | cons z w2 =>
    have hz := hw z (.head _)
    have hw2 := fun u hu => hw u (List.Mem.tail _ hu)
    have hsb : Signs (.str b :: r) := Signs.cons hb' hs
    refine noE (tok_next H hA' hl ((enc_sign hw).app hsb) (fun hn => absurd hn (by cases e <;> exact nofun)) fun y cs' hc v s₁ hv H₁ => ?_)
    obtain ⟨e1, e2, e3, e4, e5⟩ := sign_of hc hz
    rw [if_neg e4, e2] at H₁
    have hcs2 := enc_len hl
    refine noE (wpAny_assign_Name (store_ok H₁ (.inl rfl) hv fun s₂ H₂ => noE (seq_if (ws_test H₂ rfl rfl fun s₃ H₃ => ⟨fun e => absurd (e3.symm.trans e) (by decide), fun _ => then_next ?_⟩))))
    refine seq_if (test_ok 2 H₃ (p := .bool (decide (y = qtl))) (b := decide (y = qtl)) rfl rfl fun s₄ H₄ => ⟨fun e => absurd (of_decide_eq_true e) e5, fun _ => ?_⟩)
    refine tok_esc ⟨rfl, rfl, rfl, trivial⟩ rfl hA' hcs2 ((enc_sign hw2).app hsb) hz e1 H₄ fun lm' s₅ h4 h5 H₅ => ?_
    have g1 := h4.1
    have g2 := h4.2.1
    have g3 := h4.2.2.1
    refine do_aug 1 H₅ (a := .str (Str.ofString "")) (b := .str z) (c := .str (Str.ofString "" ++ z)) g1 h5 (by show addS .Add _ z = _; unfold addS; rw [if_pos ⟨rfl, by have := hz.len; show 0 + _ ≤ _; omega⟩]) fun s₆ H₆ => ?_
    refine seq_for (Name_ok H₆ (p := .ref it) g3 fun v hv => ?_)
    obtain ⟨_, rfl⟩ := hv
    obtain ⟨oi, hoi, ri⟩ := H₆.at (i := 9) (a := it) rfl
    cases ri
    refine ci_iter hoi (bare_loop (lm := (Str.ofString "token", .str (Str.ofString "" ++ z)) :: lm') (acc := Str.ofString "" ++ z) hb ⟨rfl, g2, g3, trivial⟩ hA' hw2 (by have := hz.len; rw [List.length_cons] at hwl; have : (Str.ofString "" ++ z).length = 0 + z.length := Str.length_append ..; omega) (Nat.le_of_lt hcs2) hsb H₆ fun v lm' s₇ hv H₇ => ?_)
    have H₇ := lexI_drop H₇
    rw [show (if b = nlc then ln + 1 else ln) = (if false = false ∧ b = nlc then ln + 1 else ln) by simp] at H₇
    exact h v s₇ hv (back _ _ _ H₇)
end
end Mine
end
section
open PySem PySem.W PyProof.Rows PySem.Calls PySem.Flt
namespace Mine
theorem d31 : Def 31 ["x"] := ⟨fun P => by kernel_rfl, fun P => by kernel_rfl, by kernel_rfl, fun a => by kernel_rfl, by kernel_rfl, by kernel_rfl, by kernel_rfl, by kernel_rfl⟩
theorem d38 : Def 38 ["x"] := ⟨fun P => by kernel_rfl, fun P => by kernel_rfl, by kernel_rfl, fun a => by kernel_rfl, by kernel_rfl, by kernel_rfl, by kernel_rfl, by kernel_rfl⟩
theorem d45 : Def 45 ["r", "g", "b"] := ⟨fun P => by kernel_rfl, fun P => by kernel_rfl, by kernel_rfl, fun a b c => by kernel_rfl, by kernel_rfl, by kernel_rfl, by kernel_rfl, by kernel_rfl⟩
theorem d52 : Def 52 ["h", "s", "v"] := ⟨fun P => by kernel_rfl, fun P => by kernel_rfl, by kernel_rfl, fun a b c => by kernel_rfl, by kernel_rfl, by kernel_rfl, by kernel_rfl, by kernel_rfl⟩
theorem d160 : Def 160 ["colour", "other"] := ⟨fun P => by kernel_rfl, fun P => by kernel_rfl, by kernel_rfl, fun a b => by kernel_rfl, by kernel_rfl, by kernel_rfl, by kernel_rfl, by kernel_rfl⟩
section
variable {C : Cx} {ks : Kinds} {lm : Vars} {l rest : Led} {s : Shared}
theorem t31 {v : Value} {i : Int} {Q : Value → Shared → Prop} (H : St C ks lm l s) (hA : Ok C.A 1) (hv : VS v (.int i)) (h : ∀ s', St C ks lm l s' → Q (.bool (decide (i ≥ 256))) s') :
    C.X (call (.ref 31) [v]) Q s := by
  refine enter 0 d31 [("x", .local), ("NT_OFFSET", .globalImplicit)] (fun n => by kernel_rfl) (by decide) H hA (ps := [.int i]) (.cons hv .nil) rfl fun C' s' hA' _ H' back => ?_
  refine do_return 3 H' rfl fun v s₁ hv' H₁ => ?_
  obtain ⟨t, rfl⟩ := hv'
  exact h _ (back _ _ _ H₁)
theorem t38 {v : Value} {i : Int} {Q : Value → Shared → Prop} (H : St C ks lm l s) (hA : Ok C.A 1) (hv : VS v (.int i)) (h : ∀ s', St C ks lm l s' → Q (.bool (decide (i = 0))) s') :
    C.X (call (.ref 38) [v]) Q s := by
  refine enter 0 d38 [("x", .local), ("ENDMARKER", .globalImplicit)] (fun n => by kernel_rfl) (by decide) H hA (ps := [.int i]) (.cons hv .nil) rfl fun C' s' hA' _ H' back => ?_
  refine do_return 3 H' rfl fun v s₁ hv' H₁ => ?_
  obtain ⟨t, rfl⟩ := hv'
  exact h _ (back _ _ _ H₁)
/-- the ways of an if that meet behind it -/
theorem do_if_join {t : Expr} {body orelse bs : List Stmt} {pos : Pos} {p : PV} {b : Bool} {Q : Flow → Shared → Prop} (J : Shared → Prop) (n : Nat) (H : St C ks lm l s) (he : ev ks lm n t = some p) (hb : tr p = some b)
    (ht : b = true → ∀ s', St C ks lm l s' → C.B body (fun f s'' => f = .next ∧ J s'') s')
    (hf : b = false → ∀ s', St C ks lm l s' → C.B orelse (fun f s'' => f = .next ∧ J s'') s') (k : ∀ s', J s' → C.B bs Q s') : C.B (.If t body orelse pos :: bs) Q s := by
  have w : ∀ {bd : List Stmt} {s' : Shared}, C.B bd (fun f s'' => f = .next ∧ J s'') s' → C.B bd (Then C bs Q) s' := fun h => wpAny_mono h (fun f s'' hj => by
    obtain ⟨rfl, hj⟩ := hj
    exact k s'' hj) fun _ _ z => z
  exact do_if n H he hb (fun e s' H' => w (ht e s' H')) fun e s' H' => w (hf e s' H')
/-! max and min of three floats -/
noncomputable def ltF (a b : UInt64) : Bool := Float64.cmp a b == some .lt
noncomputable def max3 (x y z : UInt64) : UInt64 := let m := if ltF x y then y else x; if ltF m z then z else m
noncomputable def min3 (x y z : UInt64) : UInt64 := let m := if ltF y x then y else x; if ltF z m then z else m
theorem three_num {x y z : UInt64} {t1 t2 t3 : Tok} : ∀ v ∈ #[Value.float x t1, .float y t2, .float z t3], NumV v := by
  intro v hv
  simp only [List.mem_toArray, List.mem_cons, List.not_mem_nil, or_false] at hv
  rcases hv with rfl | rfl | rfl <;> exact .float _ _
theorem max3_ok {x y z : UInt64} {vs : List Value} {Q : Value → Shared → Prop} (H : St C ks lm l s) (hh : C.A.handled = none) (hv : VSs vs [.flt x, .flt y, .flt z]) (h : ∀ v s', VS v (.flt (max3 x y z)) → St C ks lm l s' → Q v s') : C.X (call (.builtin "max") vs) Q s := by
  cases hv with
  | cons h1 hv =>
  cases hv with
  | cons h2 hv =>
  cases hv with
  | cons h3 hv =>
  cases hv
  obtain ⟨t1, ht1, rfl⟩ := VS.unflt h1
  obtain ⟨t2, ht2, rfl⟩ := VS.unflt h2
  obtain ⟨t3, ht3, rfl⟩ := VS.unflt h3
  have hT : (s.heap.push { cls := .type "tuple", data := .seq #[.float x t1, .float y t2, .float z t3] }).IsTuple s.heap.objs.size #[.float x t1, .float y t2, .float z t3] := ⟨_, Heap.get?_push_size _ rfl, rfl, 0, rfl⟩
  show C.X (call (.builtin "max") [.float x t1, .float y t2, .float z t3]) Q s
  refine wpAny_with_toks (Nat.le_refl s.toks) (call_max_three (wpAny_pyIter_tuple hT ?_))
  have hsz : (s.heap.push { cls := .type "tuple", data := .seq #[.float x t1, .float y t2, .float z t3] }).objs.size = s.heap.objs.size + 1 := Heap.size_push ..
  refine ⟨_, [_, s.heap.objs.size], [_], _, _, _, _, rfl, Walks.tuple (A := C.A.in1) hh _ s.heap.objs.size (by rw [hsz]; exact Nat.ne_of_lt (Nat.lt_succ_self _)) #[.float x t1, .float y t2, .float z t3],
    ⟨⟨_, Heap.get?_push_size _ rfl, rfl, rfl⟩, hT.push _⟩, fun c hc => ?_, by simp, cmpOf_gt _ three_num, fun v h' tk hP hk htk => ?_⟩
  · show c < ((s.heap.push _).push _).objs.size
    rw [Heap.size_push, hsz]
    rcases List.mem_cons.mp hc with rfl | hc
    · rw [hsz]; exact Nat.lt_succ_self _
    · rw [List.mem_singleton.mp hc]; exact Nat.lt_succ_of_lt (Nat.lt_succ_self _)
  · refine h v _ ?_ (H.keeps (fun d o e => hk d o (fun hm => ?_) (Heap.get?_push_of_some _ (Heap.get?_push_of_some _ e))) htk)
    · unfold max3 ltF
      cases c1 : (Float64.cmp x y == some .lt) <;> cases c2 : (Float64.cmp x z == some .lt) <;> cases c3 : (Float64.cmp y z == some .lt) <;>
        simp [argBest, ltV, c1, c2, c3] at hP ⊢ <;> subst hP <;> first | exact VS.flt ht1 | exact VS.flt ht2 | exact VS.flt ht3
    · have := Heap.lt_size e
      rw [List.mem_singleton.mp hm, hsz] at this
      exact Nat.lt_irrefl _ (Nat.lt_of_succ_lt this)
theorem min3_ok {x y z : UInt64} {vs : List Value} {Q : Value → Shared → Prop} (H : St C ks lm l s) (hh : C.A.handled = none) (hv : VSs vs [.flt x, .flt y, .flt z]) (h : ∀ v s', VS v (.flt (min3 x y z)) → St C ks lm l s' → Q v s') : C.X (call (.builtin "min") vs) Q s := by
  cases hv with
  | cons h1 hv =>
  cases hv with
  | cons h2 hv =>
  cases hv with
  | cons h3 hv =>
  cases hv
  obtain ⟨t1, ht1, rfl⟩ := VS.unflt h1
  obtain ⟨t2, ht2, rfl⟩ := VS.unflt h2
  obtain ⟨t3, ht3, rfl⟩ := VS.unflt h3
  have hT : (s.heap.push { cls := .type "tuple", data := .seq #[.float x t1, .float y t2, .float z t3] }).IsTuple s.heap.objs.size #[.float x t1, .float y t2, .float z t3] := ⟨_, Heap.get?_push_size _ rfl, rfl, 0, rfl⟩
  show C.X (call (.builtin "min") [.float x t1, .float y t2, .float z t3]) Q s
  refine wpAny_with_toks (Nat.le_refl s.toks) (call_min_three (wpAny_pyIter_tuple hT ?_))
  have hsz : (s.heap.push { cls := .type "tuple", data := .seq #[.float x t1, .float y t2, .float z t3] }).objs.size = s.heap.objs.size + 1 := Heap.size_push ..
  refine ⟨_, [_, s.heap.objs.size], [_], _, _, _, _, rfl, Walks.tuple (A := C.A.in1) hh _ s.heap.objs.size (by rw [hsz]; exact Nat.ne_of_lt (Nat.lt_succ_self _)) #[.float x t1, .float y t2, .float z t3],
    ⟨⟨_, Heap.get?_push_size _ rfl, rfl, rfl⟩, hT.push _⟩, fun c hc => ?_, by simp, cmpOf_lt _ three_num, fun v h' tk hP hk htk => ?_⟩
  · show c < ((s.heap.push _).push _).objs.size
    rw [Heap.size_push, hsz]
    rcases List.mem_cons.mp hc with rfl | hc
    · rw [hsz]; exact Nat.lt_succ_self _
    · rw [List.mem_singleton.mp hc]; exact Nat.lt_succ_of_lt (Nat.lt_succ_self _)
  · refine h v _ ?_ (H.keeps (fun d o e => hk d o (fun hm => ?_) (Heap.get?_push_of_some _ (Heap.get?_push_of_some _ e))) htk)
    · unfold min3 ltF
      cases c1 : (Float64.cmp y x == some .lt) <;> cases c2 : (Float64.cmp z x == some .lt) <;> cases c3 : (Float64.cmp z y == some .lt) <;>
        simp [argBest, ltV, c1, c2, c3] at hP ⊢ <;> subst hP <;> first | exact VS.flt ht1 | exact VS.flt ht2 | exact VS.flt ht3
    · have := Heap.lt_size e
      rw [List.mem_singleton.mp hm, hsz] at this
      exact Nat.lt_irrefl _ (Nat.lt_of_succ_lt this)
/-! rgb_to_hsv -/
noncomputable abbrev fl (n : Int) : UInt64 := Float64.ofInt n
/-- the hue, where it is told -/
noncomputable def hueF (r g b : UInt64) : Option UInt64 :=
  let mx := max3 r g b
  let rg := Float64.sub mx (min3 r g b)
  if (Float64.cmp (min3 r g b) mx == some .eq) = true ∨ Float64.isZero mx = true ∨ Float64.isZero rg = true then none else
  let rc := Float64.div (Float64.sub mx r) rg
  let gc := Float64.div (Float64.sub mx g) rg
  let bc := Float64.div (Float64.sub mx b) rg
  let h := if (Float64.cmp r mx == some .eq) = true then Float64.sub bc gc else if (Float64.cmp g mx == some .eq) = true then Float64.sub (Float64.add 4611686018427387904 rc) bc else Float64.sub (Float64.add 4616189618054758400 gc) rc
  some (Float64.divmod (Float64.div h 4618441417868443648) 4607182418800017408).2
noncomputable def k45 : Kinds := [("r", .local), ("g", .local), ("b", .local), ("maxc", .local), ("minc", .local), ("rangec", .local), ("v", .local), ("s", .local), ("rc", .local), ("gc", .local), ("bc", .local), ("h", .local), ("max", .globalImplicit), ("min", .globalImplicit)]
theorem rgb_ok {x y z hu : UInt64} {vs : List Value} {Q : Value → Shared → Prop} (H : St C ks lm l s) (hA : Ok C.A 2) (hv : VSs vs [.flt x, .flt y, .flt z]) (he : hueF x y z = some hu)
    (h : ∀ p q a s', St C ks lm ((a, aTup [.flt hu, p, q]) :: l) s' → Q (.ref a) s') : C.X (call (.ref 45) vs) Q s := by
  unfold hueF at he
  dsimp only at he
  split at he
  · cases he
  rename_i hc
  rw [not_or, not_or] at hc
  obtain ⟨c1, c2, c3⟩ := hc
  have c1 := Bool.eq_false_iff.mpr c1
  refine enter 1 d45 k45 (fun n => by kernel_rfl) (by decide) H hA hv rfl fun C' s₁ hA' _ H₁ back => ?_
  refine seq_assign (Call_bi 1 H₁ (ps := [.flt x, .flt y, .flt z]) rfl rfl fun vs s₂ hvs H₂ => max3_ok H₂ hA'.h hvs fun v s₃ hv H₃ => storeL H₃ rfl hv fun s₄ H₄ => ?_)
  refine seq_assign (Call_bi 1 H₄ (ps := [.flt x, .flt y, .flt z]) rfl rfl fun vs s₂ hvs H₂ => min3_ok H₂ hA'.h hvs fun v s₃ hv H₃ => storeL H₃ rfl hv fun s₅ H₅ => ?_)
  refine do_assign 2 H₅ rfl fun s₆ H₆ => do_assign 2 H₆ rfl fun s₇ H₇ => ?_
  refine do_if 2 H₇ (p := .bool (Float64.cmp (min3 x y z) (max3 x y z) == some .eq)) (b := false) rfl (congrArg some c1) (fun e => (nomatch e)) fun _ s₈ H₈ => then_next ?_
  refine do_assign 2 H₈ (if_pos c2) fun s₉ H₉ => do_assign 3 H₉ (if_pos c3) fun s₁₀ H₁₀ => do_assign 3 H₁₀ (if_pos c3) fun s₁₁ H₁₁ => do_assign 3 H₁₁ (if_pos c3) fun s₁₂ H₁₂ => ?_
  have z6 : ¬ Float64.isZero 4618441417868443648 = true := by decide +kernel
  have z1 : ¬ Float64.isZero 4607182418800017408 = true := by decide +kernel
  refine do_if_join (fun s' => ∃ g p q lm', some (Float64.divmod (Float64.div g 4618441417868443648) 4607182418800017408).2 = some hu ∧ AllIn lm' [("h", .flt g), ("s", p), ("v", q)] ∧ St C' k45 lm' l s') 2 H₁₂ (p := .bool (Float64.cmp x (max3 x y z) == some .eq)) (b := (Float64.cmp x (max3 x y z) == some .eq)) rfl rfl (fun e s₁₃ H₁₃ => ?_) (fun e s₁₃ H₁₃ => ?_) fun s' hj => ?_
  · rw [if_pos e] at he
    exact do_assign 2 H₁₃ rfl fun s₁₄ H₁₄ => seq_nil ⟨rfl, _, _, _, _, he, ⟨rfl, rfl, rfl, trivial⟩, H₁₄⟩
  · rw [if_neg (by rw [e]; exact Bool.false_ne_true)] at he
    refine do_if 2 H₁₃ (p := .bool (Float64.cmp y (max3 x y z) == some .eq)) (b := (Float64.cmp y (max3 x y z) == some .eq)) rfl rfl (fun e s₁₄ H₁₄ => ?_) fun e s₁₄ H₁₄ => ?_
    · rw [if_pos e] at he
      exact do_assign 3 H₁₄ rfl fun s₁₅ H₁₅ => then_next (seq_nil ⟨rfl, _, _, _, _, he, ⟨rfl, rfl, rfl, trivial⟩, H₁₅⟩)
    · rw [if_neg (by rw [e]; exact Bool.false_ne_true)] at he
      exact do_assign 3 H₁₄ rfl fun s₁₅ H₁₅ => then_next (seq_nil ⟨rfl, _, _, _, _, he, ⟨rfl, rfl, rfl, trivial⟩, H₁₅⟩)
  · obtain ⟨g, p, q, lm', eg, hl, H'⟩ := hj
    replace H' := H'.norm hl
    obtain rfl := Option.some.inj eg
    refine do_assign 3 H' (p := .flt (Float64.divmod (Float64.div g 4618441417868443648) 4607182418800017408).2) (by
      show (if ¬ Float64.isZero 4618441417868443648 = true then some (PV.flt (Float64.div g 4618441417868443648)) else none).bind _ = _
      rw [if_pos z6]
      exact if_pos z1) fun s' H' => seq_return (Tuple_ev 1 H' (ps := [.flt _, _, _]) rfl (fun a s'' H'' => h _ _ a s'' (back _ _ _ H'')) (show 3 ≤ 1000 by decide))
end
end Mine
end
section
open PySem PySem.W PyProof.Rows PySem.Calls PySem.Flt
namespace Mine
/-! hsv_to_rgb with full strength -/
noncomputable abbrev f1 : UInt64 := 4607182418800017408
noncomputable def pick (k : Int) (t p q : UInt64) : Option (UInt64 × UInt64 × UInt64) :=
  if k = 0 then some (f1, t, p) else if k = 1 then some (q, f1, p) else if k = 2 then some (p, f1, t) else if k = 3 then some (p, q, f1) else if k = 4 then some (t, p, f1) else if k = 5 then some (f1, p, q) else none
noncomputable def hsvF (h : UInt64) : Option (UInt64 × UInt64 × UInt64) :=
  let h6 := Float64.mul h 4618441417868443648
  let i := toInt Float64.truncOf h6
  if Float64.isFinite h6 = false ∨ Float64.isInf (Float64.ofInt i) = true then none else
  let f := Float64.sub h6 (Float64.ofInt i)
  pick (i.fmod 6) (Float64.mul f1 (Float64.sub f1 (Float64.mul f1 (Float64.sub f1 f)))) (Float64.mul f1 (Float64.sub f1 f1)) (Float64.mul f1 (Float64.sub f1 (Float64.mul f1 f)))
noncomputable def k52 : Kinds := [("h", .local), ("s", .local), ("v", .local), ("i", .local), ("f", .local), ("p", .local), ("q", .local), ("t", .local), ("int", .globalImplicit)]
section
variable {C : Cx} {ks : Kinds} {lm : Vars} {l rest : Led} {s : Shared}
theorem int_flt {x : UInt64} {vs : List Value} {Q : Value → Shared → Prop} (H : St C ks lm l s) (hf : Float64.isFinite x = true) (hv : VSs vs [.flt x]) (h : ∀ v s', VS v (.int (toInt Float64.truncOf x)) → St C ks lm l s' → Q v s') : C.X (call (.type "int") vs) Q s := by
  cases hv with
  | cons h1 hv =>
  cases hv
  obtain ⟨t1, rfl⟩ := h1
  rcases PySem.Flt.three x with ⟨hd, c⟩ | ⟨_, hd, c⟩ | ⟨sg, m, e, hd, c⟩
  · unfold Float64.isFinite at hf; rw [hd] at hf; cases hf
  · unfold Float64.isFinite at hf; rw [hd] at hf; cases hf
  · rw [toInt_fin hd] at h
    refine call_int_float hd ?_
    exact h _ _ (.mk (.int _) _) (H.toks _)
theorem do_ret3 {e1 e2 e3 : Expr} {k : Nat} {p1 p2 : Pos} {x y z : PV} {rs : List Stmt} {Q : Flow → Shared → Prop} (H : St C ks lm l s) (he : evs ks lm 1 [e1, e2, e3] = some [x, y, z]) (h : ∀ a s', St C ks lm ((a, aTup [x, y, z]) :: l) s' → Q (.ret (.ref a)) s') :
    C.B (.Return (some (.Tuple [e1, e2, e3] k p1)) p2 :: rs) Q s := seq_return (Tuple_ev 1 H he h (show 3 ≤ 1000 by decide))
theorem hsv_ok {hu x y z : UInt64} {vs : List Value} {Q : Value → Shared → Prop} (H : St C ks lm l s) (hA : Ok C.A 2) (hv : VSs vs [.flt hu, .flt f1, .flt f1]) (he : hsvF hu = some (x, y, z))
    (h : ∀ a s', St C ks lm ((a, aTup [.flt x, .flt y, .flt z]) :: l) s' → Q (.ref a) s') : C.X (call (.ref 52) vs) Q s := by
  unfold hsvF at he
  dsimp only at he
  split at he
  · cases he
  rename_i hc
  rw [not_or] at hc
  obtain ⟨c1, c2⟩ := hc
  have c1 := (Bool.not_eq_false _).mp c1
  have c0 : (Float64.cmp f1 0 == some Ordering.eq) = false := by decide +kernel
  refine enter 1 d52 k52 (fun n => by kernel_rfl) (by decide) H hA hv rfl fun C' s₁ hA' _ H₁ back => ?_
  refine do_if 2 H₁ (p := .bool (Float64.cmp f1 0 == some .eq)) (b := false) rfl (congrArg some c0) (fun e => (nomatch e)) fun _ s₂ H₂ => then_next ?_
  refine seq_assign (Call_ty 2 H₂ (ps := [.flt (Float64.mul hu 4618441417868443648)]) rfl rfl fun vs s₂ hvs H₂ => int_flt H₂ c1 hvs fun v s₃ hv H₃ => storeL H₃ rfl hv fun s₄ H₄ => ?_)
  refine do_assign 3 H₄ (if_pos ⟨rfl, c2⟩) fun s₅ H₅ => do_assign 3 H₅ rfl fun s₆ H₆ => do_assign 4 H₆ rfl fun s₇ H₇ => do_assign 6 H₇ rfl fun s₈ H₈ => do_assign 2 H₈ rfl fun s₉ H₉ => ?_
  generalize (toInt Float64.truncOf (Float64.mul hu 4618441417868443648)).fmod 6 = k at he H₉
  unfold pick at he
  refine do_if 2 H₉ (b := decide (k = 0)) rfl rfl (fun e s' H' => ?_) fun e s' H' => then_next ?_
  · rw [if_pos (of_decide_eq_true e)] at he; cases he
    exact do_ret3 H' rfl fun a s' H' => h a s' (back _ _ _ H')
  rw [if_neg (of_decide_eq_false e)] at he
  refine do_if 2 H' (b := decide (k = 1)) rfl rfl (fun e s' H' => ?_) fun e s' H' => then_next ?_
  · rw [if_pos (of_decide_eq_true e)] at he; cases he
    exact do_ret3 H' rfl fun a s' H' => h a s' (back _ _ _ H')
  rw [if_neg (of_decide_eq_false e)] at he
  refine do_if 2 H' (b := decide (k = 2)) rfl rfl (fun e s' H' => ?_) fun e s' H' => then_next ?_
  · rw [if_pos (of_decide_eq_true e)] at he; cases he
    exact do_ret3 H' rfl fun a s' H' => h a s' (back _ _ _ H')
  rw [if_neg (of_decide_eq_false e)] at he
  refine do_if 2 H' (b := decide (k = 3)) rfl rfl (fun e s' H' => ?_) fun e s' H' => then_next ?_
  · rw [if_pos (of_decide_eq_true e)] at he; cases he
    exact do_ret3 H' rfl fun a s' H' => h a s' (back _ _ _ H')
  rw [if_neg (of_decide_eq_false e)] at he
  refine do_if 2 H' (b := decide (k = 4)) rfl rfl (fun e s' H' => ?_) fun e s' H' => then_next ?_
  · rw [if_pos (of_decide_eq_true e)] at he; cases he
    exact do_ret3 H' rfl fun a s' H' => h a s' (back _ _ _ H')
  rw [if_neg (of_decide_eq_false e)] at he
  refine do_if 2 H' (b := decide (k = 5)) rfl rfl (fun e s' H' => ?_) fun e s' H' => then_next ?_
  · rw [if_pos (of_decide_eq_true e)] at he; cases he
    exact do_ret3 H' rfl fun a s' H' => h a s' (back _ _ _ H')
  rw [if_neg (of_decide_eq_false e)] at he
  cases he
end
end Mine
end
section
open PySem PySem.W PyProof.Rows PySem.Calls PySem.Flt
namespace Mine
theorem idx_bounds {k : Int} {n j : Nat} (h : seqIndex? k n = some j) : -(n : Int) ≤ k ∧ k < n ∧ j = (if k < 0 then k + n else k).toNat := by
  unfold seqIndex? at h
  by_cases h0 : k < 0
  · simp only [h0, if_true] at h ⊢
    by_cases q : (decide (0 ≤ k + (n : Int)) && decide (k + (n : Int) < (n : Int))) = true
    · rw [if_pos q] at h
      simp only [Bool.and_eq_true, decide_eq_true_eq] at q
      cases h
      exact ⟨by omega, by omega, rfl⟩
    · rw [if_neg q] at h; cases h
  · simp only [h0, if_false] at h ⊢
    by_cases q : (decide (0 ≤ k) && decide (k < (n : Int))) = true
    · rw [if_pos q] at h
      simp only [Bool.and_eq_true, decide_eq_true_eq] at q
      cases h
      exact ⟨by omega, by omega, rfl⟩
    · rw [if_neg q] at h; cases h
theorem seqI {i n : Nat} (h : i < n) : seqIndex? (i : Int) n = some i := by
  have := StrLaws.seqIndex_nonneg (i := (i : Int)) (n := n) (by omega) (by omega)
  simpa using this
section
variable {C : Cx} {ks : Kinds} {lm : Vars} {l rest : Led} {s : Shared}
theorem getItem_l {a : Addr} {ps : List PV} {k : Int} {u : Tok} {j : Nat} {p : PV} {Q : Value → Shared → Prop} (H : St C ks lm l s) (hl : Has a (aList ps) l) (hz : ps.length ≤ 1000000) (hk : seqIndex? k ps.length = some j) (hp : ps[j]? = some p) (h : ∀ v, VS v p → Q v s) :
    s.TypeIs (.ref a) "list" ∧ C.X (getItem (.ref a) (.int k u)) Q s := by
  obtain ⟨_, ho, vs, n, rfl, r⟩ := H.mem hl
  obtain ⟨v, hv, q⟩ := Paired.get r hp
  obtain ⟨b1, b2, b3⟩ := idx_bounds hk
  have hsz : vs.size = ps.length := r.length
  have hL : s.heap.IsList a vs := ⟨_, ho, rfl, n, rfl⟩
  refine ⟨⟨_, ho, rfl⟩, ?_⟩
  rw [Array.getElem?_toList] at hv
  by_cases h0 : k < 0
  · rw [if_pos h0] at b3
    exact wpAny_getItem_list_neg (x := v) hL h0 (by omega) (by omega) (by rw [hsz, ← b3]; exact hv) (h v q)
  · rw [if_neg h0] at b3
    exact wpAny_getItem_list (x := v) hL (by omega) (by omega) (by rw [← b3]; exact hv) (h v q)
theorem getItem_t {a : Addr} {ps : List PV} {k : Int} {u : Tok} {j : Nat} {p : PV} {Q : Value → Shared → Prop} (H : St C ks lm l s) (hl : Has a (aTup ps) l) (hz : ps.length ≤ 1000000) (hk : seqIndex? k ps.length = some j) (hp : ps[j]? = some p) (h : ∀ v, VS v p → Q v s) :
    s.TypeIs (.ref a) "tuple" ∧ C.X (getItem (.ref a) (.int k u)) Q s := by
  obtain ⟨_, ho, vs, n, rfl, r⟩ := H.mem hl
  obtain ⟨v, hv, q⟩ := Paired.get r hp
  obtain ⟨b1, b2, b3⟩ := idx_bounds hk
  have hsz : vs.size = ps.length := r.length
  have hT : IsTup s.heap a vs := ⟨_, ho, rfl, n, rfl⟩
  refine ⟨⟨_, ho, rfl⟩, ?_⟩
  rw [Array.getElem?_toList] at hv
  exact PyProof.Rows.getItem_tuple (x := v) hT (by omega) (by omega) (by rw [hsz]; exact hk) hv (h v q)
theorem tail_l {value idx : Expr} {a : Addr} {ps : List PV} {k : Int} {u : Tok} {j : Nat} {p : PV} {Q : Value → Shared → Prop} (H : St C ks lm l s) (hl : Has a (aList ps) l) (hk : seqIndex? k ps.length = some j) (hp : ps[j]? = some p) (h : ∀ v, VS v p → Q v s) (hz : ps.length ≤ 1000000)
    (hs : ∀ o i, subscripted idx false o i = operate [o, i] (getItem o i) := by intro _ _; rfl) : C.X (subscriptTail value idx (.ref a) (.int k u)) Q s :=
  tail_any (getItem_l (u := u) H hl hz hk hp h).1 slot_list_getitem.lookup (getItem_l H hl hz hk hp h).2 (hs _ _)
theorem tail_t {value idx : Expr} {a : Addr} {ps : List PV} {k : Int} {u : Tok} {j : Nat} {p : PV} {Q : Value → Shared → Prop} (H : St C ks lm l s) (hl : Has a (aTup ps) l) (hk : seqIndex? k ps.length = some j) (hp : ps[j]? = some p) (h : ∀ v, VS v p → Q v s) (hz : ps.length ≤ 1000000)
    (hs : ∀ o i, subscripted idx false o i = operate [o, i] (getItem o i) := by intro _ _; rfl) : C.X (subscriptTail value idx (.ref a) (.int k u)) Q s :=
  tail_any (getItem_t (u := u) H hl hz hk hp h).1 slot_tuple_getitem.lookup (getItem_t H hl hz hk hp h).2 (hs _ _)
/-- x[e] upon a name that holds a list -/
theorem SubL {x : Str} {xp pos : Pos} {idx : Expr} {a : Addr} {ps : List PV} {k : Int} {j : Nat} {p : PV} {Q : Value → Shared → Prop} (n : Nat) (H : St C ks lm l s) (hx : nm ks lm x = some (.ref a)) (hl : Has a (aList ps) l) (hi : ev ks lm n idx = some (.int k)) (hk : seqIndex? k ps.length = some j) (hp : ps[j]? = some p)
    (h : ∀ v s', VS v p → St C ks lm l s' → Q v s') (hz : ps.length ≤ 1000000) (hs : ∀ o i, subscripted idx false o i = operate [o, i] (getItem o i) := by intro _ _; rfl) : C.X (eval (.Subscript (.Name x xp) idx pos) C.env) Q s :=
  Subscript_ (Name_ok H hx fun v hv => by
    obtain ⟨_, rfl⟩ := hv
    refine ev_ok n H hi fun v s' hv H' => ?_
    obtain ⟨u, rfl⟩ := hv
    exact tail_l H' hl hk hp (fun v hv => h v s' hv H') hz hs)
theorem SubT {x : Str} {xp pos : Pos} {idx : Expr} {a : Addr} {ps : List PV} {k : Int} {j : Nat} {p : PV} {Q : Value → Shared → Prop} (n : Nat) (H : St C ks lm l s) (hx : nm ks lm x = some (.ref a)) (hl : Has a (aTup ps) l) (hi : ev ks lm n idx = some (.int k)) (hk : seqIndex? k ps.length = some j) (hp : ps[j]? = some p)
    (h : ∀ v s', VS v p → St C ks lm l s' → Q v s') (hz : ps.length ≤ 1000000) (hs : ∀ o i, subscripted idx false o i = operate [o, i] (getItem o i) := by intro _ _; rfl) : C.X (eval (.Subscript (.Name x xp) idx pos) C.env) Q s :=
  Subscript_ (Name_ok H hx fun v hv => by
    obtain ⟨_, rfl⟩ := hv
    refine ev_ok n H hi fun v s' hv H' => ?_
    obtain ⟨u, rfl⟩ := hv
    exact tail_t H' hl hk hp (fun v hv => h v s' hv H') hz hs)
/-- the colour `[x, y, z]` -/
abbrev col (c : UInt64 × UInt64 × UInt64) : List PV := [.flt c.1, .flt c.2.1, .flt c.2.2]
/-- `rgb_to_hsv(x[0], x[1], x[2])[0]` -/
theorem hue_ev {x f : Str} {p1 p2 p3 p4 p5 p6 p7 p8 p9 p10 p11 p12 p13 : Pos} {n1 n2 n3 n4 : Nat} {a : Addr} {c : UInt64 × UInt64 × UInt64} {hu : UInt64} {Q : Value → Shared → Prop} (H : St C ks lm l s) (hA : Ok C.A 2) (hf : nm ks lm f = some (.ref 45)) (hx : nm ks lm x = some (.ref a)) (hl : Has a (aTup (col c)) l) (he : hueF c.1 c.2.1 c.2.2 = some hu)
    (h : ∀ v e s', VS v (.flt hu) → St C ks lm (e :: l) s' → Q v s')
    (hplain : (backTo p11 (starEach [.Subscript (.Name x p5) (.Constant (.int 1) n2 p6) p7, .Subscript (.Name x p8) (.Constant (.int 2) n3 p9) p10] C.env)).any (·.1) = false := by rfl) :
    C.X (eval (.Subscript (.Call (.Name f p1) [.Subscript (.Name x p2) (.Constant (.int 0) n1 p3) p4, .Subscript (.Name x p5) (.Constant (.int 1) n2 p6) p7, .Subscript (.Name x p8) (.Constant (.int 2) n3 p9) p10] [] p11) (.Constant (.int 0) n4 p12) p13) C.env) Q s := by
  refine Subscript_ (Call_ (Name_ok H hf fun v hv => ?_))
  obtain ⟨_, rfl⟩ := hv
  refine callWith_K (h₀ := C.g) C.G.X (Bool.and_eq_true_iff.mp (d45.code _)).2 ?_ rfl hplain
  refine wpAny_items_cons (SubT (k := 0) (j := 0) 1 H hx hl rfl rfl rfl (fun v1 s1 hv1 H1 => ?_) (show 3 ≤ 1000000 by decide)) rfl
  refine wpAny_items_cons (SubT (k := 1) (j := 1) 1 H1 hx hl rfl rfl rfl (fun v2 s2 hv2 H2 => ?_) (show 3 ≤ 1000000 by decide)) rfl
  refine wpAny_items_cons (SubT (k := 2) (j := 2) 1 H2 hx hl rfl rfl rfl (fun v3 s3 hv3 H3 => ?_) (show 3 ≤ 1000000 by decide)) rfl
  refine wpAny_items_nil ⟨C.G.X.keeps H3.keep, rgb_ok H3 hA (.cons hv1 (.cons hv2 (.cons hv3 .nil))) he fun p q b s4 H4 => ?_⟩
  refine ev_ok 1 H4 (p := .int 0) rfl fun v5 s5 hv5 H5 => ?_
  obtain ⟨u, rfl⟩ := hv5
  exact tail_t H5 (a := b) (.head _) (j := 0) rfl rfl (fun v hv => h v _ s5 hv H5) (show 3 ≤ 1000000 by decide)
noncomputable def k160 : Kinds := [("colour", .local), ("other", .local), ("hue", .local), ("rgb_to_hsv", .globalImplicit), ("hsv_to_rgb", .globalImplicit)]
theorem turned_ok {a b : Addr} {c d e : UInt64 × UInt64 × UInt64} {h1 h2 : UInt64} {vs : List Value} {Q : Value → Shared → Prop} (H : St C ks lm l s) (hA : Ok C.A 4) (hv : VSs vs [.ref a, .ref b]) (ha : Has a (aTup (col c)) l) (hb : Has b (aTup (col d)) l) (e1 : hueF c.1 c.2.1 c.2.2 = some h1) (e2 : hueF d.1 d.2.1 d.2.2 = some h2)
    (e3 : hsvF (Float64.add h1 h2) = some e) (h : ∀ a s', St C ks lm ((a, aTup (col e)) :: l) s' → Q (.ref a) s') : C.X (call (.ref 160) vs) Q s := by
  refine enter 3 d160 k160 (fun n => by kernel_rfl) (by decide) H hA hv rfl fun C' s₁ hA' _ H₁ back => ?_
  refine seq_assign (wpAny_BinOp (hue_ev H₁ (hA'.less (by decide)) rfl rfl ha e1 fun v x s₂ hv H₂ => hue_ev H₂ (hA'.less (by decide)) rfl rfl (.tail _ hb) e2 fun v2 y s₃ hv2 H₃ => ?_))
  obtain ⟨t1, rfl⟩ := hv
  obtain ⟨t2, rfl⟩ := hv2
  refine (bin_ok (op := .Add) (a := .flt h1) (b := .flt h2) (c := .flt (Float64.add h1 h2)) rfl).ok _ _ _ _ _ _ _ _ H₃.tk fun t tk ht => storeL (H₃.toks tk ht) rfl (.mk (.flt (Float64.add h1 h2)) t) fun s₄ H₄ => ?_
  exact seq_return (Call_fn (ps := [.flt (Float64.add h1 h2), .flt f1, .flt f1]) 1 d52 H₄ rfl rfl fun vs s₅ hvs H₅ => hsv_ok H₅ (hA'.less (by decide)) hvs e3 fun a s₆ H₆ =>
    h a s₆ (back _ _ _ (H₆.sub ((((List.sublist_cons_self _ _).trans (List.sublist_cons_self _ _)).cons_cons _)))))
end
end Mine
end
section
open PySem PySem.W PyProof.Rows PySem.Calls PySem.Flt
namespace Mine
theorem d59 : Def 59 ["iterator"] := ⟨fun P => by kernel_rfl, fun P => by kernel_rfl, by kernel_rfl, fun a => by kernel_rfl, by kernel_rfl, by kernel_rfl, by kernel_rfl, by kernel_rfl⟩
section
variable {C : Cx} {ks : Kinds} {lm : Vars} {l rest : Led} {s : Shared}
/-- next(it) of a list's iterator -/
theorem next_list {it a : Addr} {i k : Nat} {ps : List PV} {p : PV} {Q : Value → Shared → Prop} (H : St C ks lm l s) (hi : l[i]? = some (it, aLIter a k)) (hl : Has a (aList ps) l) (hp : ps[k]? = some p) (h : ∀ v s', VS v p → St C ks lm (l.set i (it, aLIter a (k + 1))) s' → Q v s') :
    C.X (call (.builtin "next") [.ref it]) Q s := by
  obtain ⟨o, ho, hc, hd⟩ := H.at hi
  obtain ⟨_, hol, vs, n, rfl, r⟩ := H.mem hl
  obtain ⟨v, hv, q⟩ := Paired.get r hp
  rw [Array.getElem?_toList] at hv
  have hT : s.TypeIs (.ref it) "list_iterator" := ⟨_, ho, hc⟩
  refine call_function_entry (by decide +kernel) (by decide +kernel) kdk_entry_next (kdk_args_next _) ?_
  unfold Builtin.«next»
  refine wpAny_bind (m := someArgs "next" 1 2 _) (wpAny_of_eq (a := [Value.ref it]) (by first | rfl | kernel_rfl!) ?_)
  dsimp only
  refine wpAny_bind (wpAny_specialOf (name := Str.ofString "__next__") hT slot_listiter_next.lookup ?_)
  rw [if_neg (by simp)]
  refine wpAny_bind (wpAny_callSpecial?_slot (name := Str.ofString "__next__") hT slot_listiter_next (wpAny_call_entry slot_listiter_next hT entry_listiter_next ?_ (args_listiter_next _)))
  show wpAny _ _ (field (.ref it) 0 >>= _) _ _ s
  refine wpAny_bind (wpAny_field ho hd (x := .ref a) rfl ?_)
  show wpAny _ _ (if (Value.ref a == Value.none) = true then _ else _) _ _ s
  rw [if_neg (show ¬ ((Value.ref a == Value.none) = true) from Bool.false_ne_true)]
  show wpAny _ _ (field (.ref it) 1 >>= _) _ _ s
  refine wpAny_bind (wpAny_field ho hd (x := .int k 0) rfl ?_)
  show wpAny _ _ (seqItems? (.ref a) >>= _) _ _ s
  refine wpAny_bind (wpAny_seqItems hol rfl ?_)
  simp only [Int.toNat_natCast, hv]
  refine wpAny_bind (wpAny_setField ho hd (by simp) (wpAny_pure ⟨v, rfl, wpAny_pure ⟨_, rfl, h v _ q ?_⟩⟩))
  exact H.set (tk := s.toks) hi (Heap.SameBut.update ..) (Heap.get?_update_self _ ho (Obj.isFreed_of_fields (Obj.data_mapFields hd _))) ⟨(Obj.cls_mapFields ..).trans hc, by rw [Obj.data_mapFields hd]; simp [rawInt]⟩
/-- the loop `while` -/
theorem seq_while {t : Expr} {body orelse rs : List Stmt} {pos : Pos} {Q : Flow → Shared → Prop} (I : Nat → Shared → Prop)
    (turn : ∀ n s, I n s → C.X (isTrue t C.env (eval t C.env)) (fun b s₂ => (b = true → C.B body (fun f s₃ => match f with
        | .next | .cont => ∃ m, m < n ∧ I m s₃
        | .brk => C.B rs Q s₃
        | .ret v => Q (.ret v) s₃) s₂) ∧ (b = false → C.B orelse (Then C rs Q) s₂)) s)
    (n : Nat) (h : I n s) : C.B (.While t body orelse pos :: rs) Q s := by
  refine seq_then (wpAny_While (codeAny_whileLoop I (fun n s hI => ?_) n h))
  refine noE (wpAny_mono (turn n s hI) (fun b s₂ hb => ?_) fun _ _ z => z)
  cases b with
  | true => exact noE (wpAny_mono (hb.1 rfl) (fun f s₃ hf => by cases f <;> exact hf) fun _ _ z => z)
  | false => exact noE (hb.2 rfl)
noncomputable def k59 : Kinds := [("iterator", .local), ("b", .local), ("val", .local), ("next", .globalImplicit)]
/-- `b = next(iterator)` -/
theorem do_next {x : Str} {p1 p2 p3 p4 p5 : Pos} {it a : Addr} {i k : Nat} {ps : List PV} {p : PV} {rs : List Stmt} {Q : Flow → Shared → Prop} (H : St C k59 lm l s) (hx : nm k59 lm x = some (.ref it)) (hi : l[i]? = some (it, aLIter a k)) (hl : Has a (aList ps) l) (hp : ps[k]? = some p)
    (h : ∀ s', St C k59 (("b", p) :: lm) (l.set i (it, aLIter a (k + 1))) s' → C.B rs Q s')
    (hpl : (backTo p4 (starEach [] C.env)).any (·.1) = false := by rfl) (hs : swapsWith (.Call (.Name "next" p2) [.Name x p3] [] p4) (some (.Name "b" p1)) p5.line C.env = pure false := by rfl) :
    C.B (.Assign [.Name "b" p1] (.Call (.Name "next" p2) [.Name x p3] [] p4) p5 :: rs) Q s := by
  refine seq_assign (Call_bi 1 H rfl (ps := [.ref it]) (by show (nm k59 lm x).bind _ = _; rw [hx]; rfl) (fun vs s' hv H' => ?_) hpl) hs
  cases hv with
  | cons h1 hv =>
  cases hv
  obtain ⟨_, rfl⟩ := h1
  exact next_list H' hi hl hp fun v s'' hv H'' => storeL H'' rfl hv h
theorem has_set {a it : Addr} {ao b : AO} {i : Nat} (h : Has a ao l) (hi : l[i]? = some (it, b)) (b' : AO) (hne : a ≠ it) : Has a ao (l.set i (it, b')) := by
  obtain ⟨j, hj⟩ := List.getElem?_of_mem h
  refine List.mem_of_getElem? (i := j) ?_
  rw [List.getElem?_set_ne (fun e => ?_)]
  · exact hj
  · subst e
    rw [hi] at hj
    cases hj
    exact hne rfl
theorem set_again {a it : Addr} {b b' b'' : AO} {i : Nat} (hi : l[i]? = some (it, b)) : (l.set i (it, b'))[i]? = some (it, b') ∧ (l.set i (it, b')).set i (it, b'') = l.set i (it, b'') := by
  have := (List.getElem?_eq_some_iff.mp hi).1
  exact ⟨by rw [List.getElem?_set_self this], by rw [List.set_set]⟩
theorem varint_ok {it a : Addr} {i k : Nat} {ps : List PV} {o n : Int} {m : Nat} {Q : Value → Shared → Prop} (H : St C ks lm l s) (hA : Ok C.A 2) (hi : l[i]? = some (it, aLIter a k)) (hl : Has a (aList ps) l) (hne : a ≠ it) (hp : ps[k]? = some (.int o))
    (hn : (Builtin.bitAnd o 64 = 0 ∧ n = Builtin.bitAnd o 63 ∧ m = k + 1) ∨ (Builtin.bitAnd o 64 ≠ 0 ∧ ∃ o2, ps[k + 1]? = some (.int o2) ∧ Builtin.bitAnd o2 64 = 0 ∧ (Builtin.bitAnd o 63).natAbs < 2 ^ 64 ∧ n = Builtin.bitOr (Builtin.bitAnd o 63 * 2 ^ 6) (Builtin.bitAnd o2 63) ∧ m = k + 2))
    {vs : List Value} (hv : VSs vs [.ref it]) (h : ∀ v s', VS v (.int n) → St C ks lm (l.set i (it, aLIter a m)) s' → Q v s') : C.X (call (.ref 59) vs) Q s := by
  refine enter 1 d59 k59 (fun n => by kernel_rfl) (by decide) H hA hv rfl fun C' s₁ hA' _ H₁ back => ?_
  refine do_next H₁ rfl hi hl hp fun s₂ H₂ => do_assign 2 H₂ (p := .int (Builtin.bitAnd o 63)) rfl fun s₃ H₃ => ?_
  rcases hn with ⟨c1, rfl, rfl⟩ | ⟨c1, o2, c2, c3, c4, rfl, rfl⟩
  · refine seq_while (fun n s => St C' k59 [("val", .int (Builtin.bitAnd o 63)), ("b", .int o)] (l.set i (it, aLIter a (k + 1))) s) (fun n s H => ?_) 0 (H₃.norm ⟨rfl, rfl, trivial⟩)
    refine test_ok 2 H (p := .int (Builtin.bitAnd o 64)) (b := decide (Builtin.bitAnd o 64 ≠ 0)) rfl rfl fun s₄ H₄ => ⟨fun e => absurd c1 (of_decide_eq_true e), fun _ => then_next ?_⟩
    exact do_return 1 H₄ rfl fun v s₅ hv H₅ => h v s₅ hv (back _ _ _ H₅)
  · obtain ⟨e1, e2⟩ := set_again (b' := aLIter a (k + 1)) (b'' := aLIter a (k + 2)) (a := a) hi
    refine seq_while (fun n s => (n = 1 ∧ St C' k59 [("val", .int (Builtin.bitAnd o 63)), ("b", .int o), ("iterator", .ref it)] (l.set i (it, aLIter a (k + 1))) s) ∨ (n = 0 ∧ St C' k59 [("val", .int (Builtin.bitOr (Builtin.bitAnd o 63 * 2 ^ 6) (Builtin.bitAnd o2 63))), ("b", .int o2), ("iterator", .ref it)] (l.set i (it, aLIter a (k + 2))) s)) (fun n s hI => ?_) 1 (.inl ⟨rfl, H₃.norm ⟨rfl, rfl, rfl, trivial⟩⟩)
    rcases hI with ⟨rfl, H⟩ | ⟨rfl, H⟩
    · refine test_ok 2 H (p := .int (Builtin.bitAnd o 64)) (b := decide (Builtin.bitAnd o 64 ≠ 0)) rfl rfl fun s₄ H₄ => ⟨fun e => ?_, fun e => absurd c1 (of_decide_eq_false e)⟩
      refine do_aug 1 H₄ (a := .int (Builtin.bitAnd o 63)) (b := .int 6) (c := .int (Builtin.bitAnd o 63 * 2 ^ 6)) rfl rfl (if_pos ⟨by decide, by decide, c4⟩) fun s₅ H₅ => ?_
      refine do_next H₅ rfl e1 (has_set hl hi _ hne) c2 fun s₆ H₆ => do_aug 2 H₆ (a := .int (Builtin.bitAnd o 63 * 2 ^ 6)) (b := .int (Builtin.bitAnd o2 63)) rfl rfl rfl fun s₇ H₇ => seq_nil ⟨0, Nat.zero_lt_one, .inr ⟨rfl, ?_⟩⟩
      rw [e2] at H₇
      exact H₇.norm ⟨rfl, rfl, rfl, trivial⟩
    · refine test_ok 2 H (p := .int (Builtin.bitAnd o2 64)) (b := decide (Builtin.bitAnd o2 64 ≠ 0)) rfl rfl fun s₄ H₄ => ⟨fun e => absurd c3 (of_decide_eq_true e), fun _ => then_next ?_⟩
      exact do_return 1 H₄ rfl fun v s₅ hv H₅ => h v s₅ hv (back _ _ _ H₅)
end
end Mine
end
section
open PySem PySem.W PyProof.Rows PySem.Calls PySem.Flt
namespace Mine
section
variable {C : Cx} {ks : Kinds} {lm : Vars} {l rest : Led} {s : Shared}
/-- the library's rules upon frames and news, from a walk's standing -/
theorem St.bridge (H : St C ks lm l s) : ∃ m news, Fr C.g C.env.locals s.heap m ∧ News C.g C.env.locals s.heap news ∧ ∀ h' tk (new : List (Addr × Obj)) (l' : Led), s.toks ≤ tk → Fr C.g C.env.locals h' m → News C.g C.env.locals h' (new ++ news) → LRel new l' →
    (∀ p ∈ l', ∀ q ∈ news, q.1 ≠ p.1) → (l'.map (·.1)).Nodup → St C ks lm (l' ++ l) { s with heap := h', toks := tk } := by
  obtain ⟨ns, N, LR⟩ := newsOf H fun _ h => h
  obtain ⟨m, cm, F, hc, hm⟩ := H.F
  obtain ⟨cs, NC, KC, RC⟩ := cellNews H (cs := C.env.cells.filter fun q => C.env.cells.lookup q.1 == some q.2) fun q hq => beq_iff_eq.mp (List.mem_filter.mp hq).2
  refine ⟨m, ns ++ cs, F, fun p hp => (List.mem_append.mp hp).elim (N p) (NC p), fun h' tk new l' htk F' N' R' up nd => ?_⟩
  have lt : ∀ {p q : Addr × AO}, p ∈ l' → q ∈ l → p.1 ≠ q.1 := fun hp hq e => by
    obtain ⟨o, ho, -⟩ := LR.mem hq
    exact up _ hp _ (List.mem_append_left _ ho) e.symm
  refine ⟨H.V, ⟨m, cm, F', fun y c hy => ?_, hm⟩, fun y c hy => ⟨(H.K y c hy).1, fun q hq => ?_, (H.K y c hy).2.2⟩, fun q hq => ?_, ?_, H.gens, H.os, Nat.lt_of_lt_of_le H.tk htk⟩
  · obtain ⟨o, ho, hd⟩ := hc y c hy
    cases q : C.g.get? c with
    | some o' => exact ⟨o, by rw [← ho, H.keep _ _ q]; exact F'.keep _ _ q, hd⟩
    | none =>
      obtain ⟨o', ho', hm'⟩ := RC (y, c) (List.mem_filter.mpr ⟨mem_of_lookup hy, beq_iff_eq.mpr hy⟩) q
      cases Option.some.inj (ho.symm.trans ho')
      exact ⟨o, (N' _ (List.mem_append_right _ (List.mem_append_right _ hm'))).1, hd⟩
  · rcases List.mem_append.mp hq with hq | hq
    · obtain ⟨o, ho, r⟩ := R'.mem hq
      have gn := (N' _ (List.mem_append_left _ ho)).2.2
      cases w : C.g.get? c with
      | some o' => exact fun e => by rw [e, w] at gn; cases gn
      | none =>
        obtain ⟨o', ho', hm'⟩ := RC (y, c) (List.mem_filter.mpr ⟨mem_of_lookup hy, beq_iff_eq.mpr hy⟩) w
        exact fun e => up _ hq _ (List.mem_append_right _ hm') e.symm
    · exact (H.K y c hy).2.1 q hq
  · rcases List.mem_append.mp hq with hq | hq
    · obtain ⟨o, ho, r⟩ := R'.mem hq
      have := N' _ (List.mem_append_left _ ho)
      exact ⟨⟨o, this.1, r⟩, this.2⟩
    · obtain ⟨o, ho, r⟩ := LR.mem hq
      have := N' _ (List.mem_append_right _ (List.mem_append_left _ ho))
      exact ⟨⟨o, this.1, r⟩, this.2⟩
  · rw [List.map_append]
    refine List.nodup_append.mpr ⟨nd, H.D, fun a ha b hb => ?_⟩
    obtain ⟨p, hp, rfl⟩ := List.mem_map.mp ha
    obtain ⟨q, hq, rfl⟩ := List.mem_map.mp hb
    exact lt hp hq
theorem strVS (ys : List (Str × Tok)) : VSs (strValues ys) ((ys.map (·.1)).map .str) := by
  induction ys with
  | nil => exact .nil
  | cons y r ih => exact .cons ⟨y.2, rfl⟩ ih
theorem split_ok {x y : Str} {vs : List Value} {Q : Value → Shared → Prop} (H : St C ks lm l s) (hv : VSs vs [.str x, .str y]) (hy : (y.length == 0) = false) (hx : x.length ≤ 100000)
    (h : ∀ a s', St C ks lm ((a, aList ((Txt.split x y).map .str)) :: l) s' → Q (.ref a) s') : C.X (call (.builtin "str.split") vs) Q s := by
  cases hv with
  | cons h1 hv =>
  cases hv with
  | cons h2 hv =>
  cases hv
  obtain ⟨t1, rfl⟩ := h1
  obtain ⟨t2, rfl⟩ := h2
  obtain ⟨m, news, F, N, back⟩ := H.bridge
  refine wpAny_with_toks (Nat.le_refl s.toks) (splitN1 F N hy (fun ys h' k e F' N' htk => ?_) (by rw [line_is]; omega))
  exact h _ _ (back h' k [_] [(_, aList _)] htk F' N' (.cons ⟨rfl, _, _, rfl, e ▸ strVS ys⟩ .nil) (fun p hp q hq => by rw [List.mem_singleton.mp hp]; exact Nat.ne_of_lt (Heap.lt_size (N q hq).1)) (List.nodup_cons.mpr ⟨List.not_mem_nil, .nil⟩))
end
theorem d115 : Def 115 ["index"] := ⟨fun P => by kernel_rfl, fun P => by kernel_rfl, by kernel_rfl, fun a => by kernel_rfl, by kernel_rfl, by kernel_rfl, by kernel_rfl, by kernel_rfl⟩
noncomputable def signRow : List Str := Txt.split "( ) [ ] : , ; + - * / | & < > = . % { } == != <= >= ~ ^ << >> ** += -= *= /= %= &= |= ^= <<= >>= **= // //= @ @= -> ... := !" " "
noncomputable def k115 : Kinds := [("index", .local), ("row", .local)]
section
variable {C : Cx} {ks : Kinds} {lm : Vars} {l rest : Led} {s : Shared}
theorem signs_ok {i : Nat} {y : Str} {vs : List Value} {Q : Value → Shared → Prop} (H : St C ks lm l s) (hA : Ok C.A 1) (hv : VSs vs [.int i]) (hi : signRow[i]? = some y) (h : ∀ v s', VS v (.str y) → St C ks lm l s' → Q v s') : C.X (call (.ref 115) vs) Q s := by
  refine enter 0 d115 k115 (fun n => by kernel_rfl) (by decide) H hA hv rfl fun C' s₁ hA' _ H₁ back => ?_
  refine do_assign 1 H₁ rfl fun s₂ H₂ => seq_return (Subscript_ (MethodCall_ (Name_ok H₂ rfl fun v hv => ?_)))
  obtain ⟨t, rfl⟩ := hv
  refine GM.split (callB (evs_ok (C := C') (ps := [.str " "]) 1 H₂ rfl fun vs s₃ hvs H₃ => ?_))
  refine split_ok H₃ (.cons (.mk (.str _) t) hvs) (by decide) (by decide +kernel) fun a s₄ H₄ => ?_
  refine ev_ok 1 H₄ (p := .int i) rfl fun v s₅ hv H₅ => ?_
  obtain ⟨t2, rfl⟩ := hv
  have hlen : signRow.length = 48 := by decide +kernel
  have hlt := (List.getElem?_eq_some_iff.mp hi).1
  refine tail_l H₅ (a := a) (.head _) (j := i) (seqI (by rw [List.length_map]; exact hlt)) (p := .str y) (by rw [List.getElem?_map]; show (signRow[i]?).map _ = _; rw [hi]; rfl) (fun v hv => h v _ hv (back _ _ _ H₅.drop1)) (by rw [List.length_map]; show signRow.length ≤ _; rw [hlen]; decide)
end
end Mine
end
section
open PySem PySem.W PyProof.Rows PySem.Calls PySem.Flt
namespace Mine
/-- an object that is a list of `ps` -/
def aLs (ps : List PV) : AO := fun o => o.cls = .type "list" ∧ ∃ vs n, o.data = .seq vs n ∧ VSs vs.toList ps
theorem aList.ls {ps : List PV} {o : Obj} (h : aList ps o) : aLs ps o := by
  obtain ⟨vs, n, rfl, r⟩ := h
  exact ⟨rfl, vs, n, rfl, r⟩
/-- slices -/
noncomputable def pickP (ps : List PV) (lo hi : Option Int) : List PV := (sliceRange (sliceBounds lo hi none ps.length).1 (sliceBounds lo hi none ps.length).2.1 (sliceBounds lo hi none ps.length).2.2).filterMap (ps[·]?)
theorem pick_vs {vs : Array Value} {ps : List PV} (r : VSs vs.toList ps) (lo hi : Option Int) : VSs (slicePick vs lo hi none).toList (pickP ps lo hi) := by
  have hz : vs.size = ps.length := r.length
  unfold slicePick pickP
  rw [hz]
  generalize sliceRange _ _ _ = ix
  show VSs (ix.filterMap (vs[·]?)) _
  induction ix with
  | nil => exact .nil
  | cons j ix ih =>
    rw [List.filterMap_cons, List.filterMap_cons]
    cases e : ps[j]? with
    | none =>
      have : vs[j]? = none := by rw [Array.getElem?_eq_none_iff, hz]; exact List.getElem?_eq_none_iff.mp e
      rw [this]
      exact ih
    | some p =>
      obtain ⟨v, hv, q⟩ := Paired.get r e
      rw [Array.getElem?_toList] at hv
      rw [hv]
      exact .cons q ih
theorem pick_mem {ps : List PV} {lo hi : Option Int} {p : PV} (h : p ∈ pickP ps lo hi) : p ∈ ps := by
  unfold pickP at h
  obtain ⟨j, -, e⟩ := List.mem_filterMap.mp h
  exact List.mem_of_getElem? e
theorem pick_nat (ps : List PV) (a b : Nat) (ha : a ≤ ps.length) : pickP ps (some a) (some b) = (ps.drop a).take (b - a) := by
  unfold pickP
  have e : sliceBounds (some (a : Int)) (some (b : Int)) none ps.length = ((a : Int), ((min b ps.length : Nat) : Int), 1) := by
    simp only [sliceBounds, Option.getD_none]
    have h1 : ¬ ((a : Int) < 0) := by omega
    have h2 : ¬ ((b : Int) < 0) := by omega
    simp only [h1, h2, if_false, show (1 : Int) > 0 by decide, if_true]
    congr 1
    · omega
    · congr 1; omega
  rw [e]
  simp only [sliceRange_one]
  have := pick_run ps.toArray a (min b ps.length - a)
  simp only [List.getElem?_toArray] at this
  rw [this]
  by_cases h : b ≤ ps.length
  · rw [Nat.min_eq_left h]
  · rw [Nat.min_eq_right (by omega)]
    rw [List.take_of_length_le (by simp), List.take_of_length_le (by simp; omega)]
theorem pick_from (ps : List PV) (a : Nat) (ha : a ≤ ps.length) : pickP ps (some a) none = ps.drop a := by
  unfold pickP
  have e : sliceBounds (some (a : Int)) none none ps.length = ((a : Int), ((ps.length : Nat) : Int), 1) := by
    simp only [sliceBounds, Option.getD_none]
    have h1 : ¬ ((a : Int) < 0) := by omega
    simp only [h1, if_false, show (1 : Int) > 0 by decide, if_true]
    congr 1
    omega
  rw [e]
  simp only [sliceRange_one]
  have := pick_run ps.toArray a (ps.length - a)
  simp only [List.getElem?_toArray] at this
  rw [this]
  rw [List.take_of_length_le (by simp)]
noncomputable def evP (ks : Kinds) (lm : Vars) (n : Nat) : Option Expr → Option (Option Int)
  | none => some none
  | some e => (ev ks lm n e).bind fun p => match p with
    | .int i => some (some i)
    | _ => none
section
variable {C : Cx} {ks : Kinds} {lm : Vars} {l rest : Led} {s : Shared}
theorem evP_ok {e : Option Expr} {k : Option Int} {Q : Value → Shared → Prop} (n : Nat) (H : St C ks lm l s) (he : evP ks lm n e = some k) (h : ∀ v s', IsPart v k → St C ks lm l s' → Q v s') : C.X (evalPart e C.env) Q s := by
  cases e with
  | none =>
    cases he
    exact wpAny_pure (h _ _ .none H)
  | some e =>
    obtain ⟨p, h1, h2⟩ := bind_some he
    refine ev_ok n H h1 fun v s' hv H' => ?_
    obtain ⟨t, rfl⟩ := hv
    cases p with
    | int i => cases h2; exact h _ _ (.int i t) H'
    | _ => exact (none_some h2).elim
theorem St.isLs (H : St C ks lm l s) {a : Addr} {ao : AO} {ps : List PV} (hl : Has a ao l) (hao : ∀ o, ao o → aLs ps o) : ∃ vs, s.heap.IsList a vs ∧ VSs vs.toList ps := by
  obtain ⟨o, ho, r⟩ := H.mem hl
  obtain ⟨hc, vs, n, hd, q⟩ := hao o r
  exact ⟨vs, ⟨o, ho, hc, n, hd⟩, q⟩
/-- x[lo:hi] upon a name that holds a list -/
theorem Slice_at {x : Str} {xp p pos : Pos} {lower upper : Option Expr} {a : Addr} {ps : List PV} {lo hi : Option Int} {Q : Value → Shared → Prop} (n : Nat) (H : St C ks lm l s) (hx : nm ks lm x = some (.ref a)) (hL : ∀ s', St C ks lm l s' → ∃ vs, s'.heap.IsList a vs ∧ VSs vs.toList ps) (hz : ps.length ≤ 1000000)
    (h1 : evP ks lm n lower = some lo) (h2 : evP ks lm n upper = some hi) (h : ∀ b s', St C ks lm ((b, aList (pickP ps lo hi)) :: l) s' → Q (.ref b) s') : C.X (eval (.Subscript (.Name x xp) (.Slice lower upper none p) pos) C.env) Q s := by
  refine wpAny_Subscript_list_slice (Name_ok H hx fun v hv => evP_ok n H h1 fun v1 s₁ q1 H₁ => evP_ok n H₁ h2 fun v2 s₂ q2 H₂ => ?_)
  obtain ⟨_, rfl⟩ := hv
  obtain ⟨vs, hL, r⟩ := hL s₂ H₂
  have hsz : vs.size = ps.length := r.length
  refine ⟨a, vs, lo, hi, rfl, hL, by rw [line_is]; omega, q1, q2, h _ _ ?_⟩
  refine H₂.make (tk := s₂.toks) (o := { cls := .type "list", data := .seq (slicePick vs lo hi none) }) (fun b o e => Heap.get?_push_of_some _ (Heap.get?_push_of_some _ e)) (Nat.le_succ _) ?_ ⟨_, _, rfl, pick_vs r lo hi⟩
  have := Heap.get?_push_size (s₂.heap.push { cls := .type "slice", data := .fields #[v1, v2, .none] }) (o := { cls := .type "list", data := .seq (slicePick vs lo hi none) }) rfl
  rw [Heap.size_push] at this
  exact this
theorem Slice_ev {x : Str} {xp p pos : Pos} {lower upper : Option Expr} {a : Addr} {ao : AO} {ps : List PV} {lo hi : Option Int} {Q : Value → Shared → Prop} (n : Nat) (H : St C ks lm l s) (hx : nm ks lm x = some (.ref a)) (hl : Has a ao l) (hao : ∀ o, ao o → aLs ps o) (hz : ps.length ≤ 1000000)
    (h1 : evP ks lm n lower = some lo) (h2 : evP ks lm n upper = some hi) (h : ∀ b s', St C ks lm ((b, aList (pickP ps lo hi)) :: l) s' → Q (.ref b) s') : C.X (eval (.Subscript (.Name x xp) (.Slice lower upper none p) pos) C.env) Q s :=
  Slice_at n H hx (fun s' H' => H'.isLs hl hao) hz h1 h2 h
/-- some entries at the ledger's head change -/
theorem St.redo {l₁ l₂ : Led} (H : St C ks lm (l₁ ++ l) s) {h' : Heap} {tk : Nat} (k : ∀ b o, (∀ p ∈ l₁, p.1 ≠ b) → s.heap.get? b = some o → h'.get? b = some o) (n : ∀ p ∈ l₂, ∃ o, h'.get? p.1 = some o ∧ p.2 o) (e : l₂.map (·.1) = l₁.map (·.1)) (ht : s.toks ≤ tk := by first | exact Nat.le_refl _ | exact Nat.le_succ _ | omega) :
    St C ks lm (l₂ ++ l) { s with heap := h', toks := tk } := by
  have in1 : ∀ p ∈ l₂, ∃ q ∈ l₁, q.1 = p.1 := fun p hp => by
    have : p.1 ∈ l₁.map (·.1) := e ▸ List.mem_map_of_mem hp
    obtain ⟨q, hq, e⟩ := List.mem_map.mp this
    exact ⟨q, hq, e⟩
  have nd := H.D
  rw [List.map_append] at nd
  refine ⟨H.V, ⟨H.m, H.cm, ⟨H.fr.ns.at fun o x => k _ o (fun p hp => (H.N p (List.mem_append_left _ hp)).2.1) x, fun b o q => k b o (fun p hp w => ?_) (H.keep b o q), H.above⟩, fun y c hy => ?_, H.val⟩, fun y c hy => ⟨(H.K y c hy).1, fun p hp => ?_, (H.K y c hy).2.2⟩, fun p hp => ?_, by rw [List.map_append, e]; exact nd, H.gens, H.os, Nat.lt_of_lt_of_le H.tk ht⟩
  · have := (H.N p (List.mem_append_left _ hp)).2.2
    rw [w, q] at this; cases this
  · obtain ⟨o, ho, hd⟩ := H.cell y c hy
    exact ⟨o, k c o (fun p hp => (H.K y c hy).2.1 p (List.mem_append_left _ hp)) ho, hd⟩
  · rcases List.mem_append.mp hp with hp | hp
    · obtain ⟨q, hq, e⟩ := in1 p hp
      exact e ▸ (H.K y c hy).2.1 q (List.mem_append_left _ hq)
    · exact (H.K y c hy).2.1 p (List.mem_append_right _ hp)
  · rcases List.mem_append.mp hp with hp | hp
    · obtain ⟨q, hq, e⟩ := in1 p hp
      have := H.N q (List.mem_append_left _ hq)
      rw [e] at this
      exact ⟨n p hp, this.2⟩
    · obtain ⟨⟨o, ho, r⟩, b⟩ := H.N p (List.mem_append_right _ hp)
      refine ⟨⟨o, k _ o (fun q hq w => ?_) ho, r⟩, b⟩
      have := (List.nodup_append.mp nd).2.2 q.1 (List.mem_map_of_mem hq) p.1 (List.mem_map_of_mem hp)
      exact this w
end
end Mine
end
section
open PySem PySem.W PyProof.Rows PySem.Calls PySem.Flt
namespace Mine
def aEnum (it : Addr) (i : Nat) : AO := fun o => ∃ old, o = { cls := .type "enumerate", dict := none, data := .fields #[.none, .bool false, .ref it, rawInt i, .none, old], slots := #[] }
section
variable {C : Cx} {ks : Kinds} {lm : Vars} {l rest : Led} {s : Shared}
theorem enum_ok {a : Addr} {ps : List PV} {vs : List Value} {Q : Value → Shared → Prop} (H : St C ks lm l s) (hv : VSs vs [.ref a]) (hl : Has a (aList ps) l) (h : ∀ e it s', e ≠ it → St C ks lm ((e, aEnum it 0) :: (it, aLIter a 0) :: l) s' → Q (.ref e) s') : C.X (call (.type "enumerate") vs) Q s := by
  cases hv with
  | cons h1 hv =>
  cases hv
  obtain ⟨_, rfl⟩ := h1
  obtain ⟨_, ho, vs, n, rfl, r⟩ := H.mem hl
  refine call_enumerate_1 ho fun h' he hit hz k => h _ _ _ (Nat.succ_ne_self _) ?_
  obtain ⟨oi, hoi, ri⟩ := hit
  have H1 := H.make (tk := s.toks) (a := s.heap.objs.size) (ao := aLIter a 0) (h' := h') k (Nat.le_refl _) hoi ri
  have K := H1
  refine ⟨H1.V, H1.F, fun x c hx => ⟨(H1.K x c hx).1, List.forall_mem_cons.mpr ⟨?_, (H1.K x c hx).2.1⟩, (H1.K x c hx).2.2⟩, List.forall_mem_cons.mpr ⟨⟨⟨_, he, .none, rfl⟩, ?_, ?_⟩, H1.N⟩, List.nodup_cons.mpr ⟨fun q => ?_, H1.D⟩, H1.gens, H1.os, H1.tk⟩
  · have := (H.cell x c hx).lt
    exact fun e => absurd (e ▸ this) (by simp)
  · have := H.Llt
    exact fun e => absurd (e.symm ▸ this) (by simp)
  · exact H.gnone (Nat.le_succ _)
  · rcases List.mem_cons.mp q with e | q
    · exact absurd e (Nat.succ_ne_self _)
    · obtain ⟨p, hp, e⟩ := List.mem_map.mp q
      have := H.lt hp
      exact absurd (e ▸ this) (by simp)
/-- `for xi, xv in enumerate(a list)` -/
theorem loop_enum {xi xv : Str} {pi pv pt : Pos} {x1 : Nat} {e it a : Addr} {ps : List PV} {body : List Stmt} {Q : Flow → Shared → Prop} {E : Value → Shared → Prop} (hh : C.A.handled = none) (hei : e ≠ it) (J : Nat → Vars → Led → Prop)
    (hs : ∀ k lm l, J k lm l → Has a (aList ps) l) (hki : ks.lookup xi = some .local) (hkv : ks.lookup xv = some .local) (H : St C ks lm ((e, aEnum it 0) :: (it, aLIter a 0) :: l) s) (h0 : J 0 lm l)
    (turn : ∀ k p lm l s, ps[k]? = some p → J k lm l → St C ks ((xv, p) :: (xi, .int k) :: lm) ((e, aEnum it (k + 1)) :: (it, aLIter a (k + 1)) :: l) s → C.B body (Turn (fun s => ∃ lm l, J (k + 1) lm l ∧ St C ks lm ((e, aEnum it (k + 1)) :: (it, aLIter a (k + 1)) :: l) s) Q) s)
    (fin : ∀ lm l s, J ps.length lm l → St C ks lm l s → Q .next s) :
    codeAny (model C.prog C.w) C.A (.forLoop (.Tuple [.Name xi pi, .Name xv pv] x1 pt) (.ref e) body [] C.env) (fun r s' => match r with | .ok f => Q f s' | .error e => E e s') s := by
  refine codeAny_forLoop_any (fun n s => ∃ k lm l, n = ps.length + 1 - k ∧ k ≤ ps.length ∧ J k lm l ∧ St C ks lm ((e, aEnum it k) :: (it, aLIter a k) :: l) s) (fun n s hI => ?_) _ ⟨0, lm, l, rfl, Nat.zero_le _, h0, H⟩
  clear H
  obtain ⟨k, lm, l, rfl, hle, hJ, H⟩ := hI
  obtain ⟨_, he, old, rfl⟩ := H.at (i := 0) rfl
  obtain ⟨oi, hoi, ri⟩ := H.at (i := 1) rfl
  obtain ⟨_, hol, vs, n, rfl, r⟩ := H.mem (.tail _ (.tail _ (hs k lm l hJ)))
  have hL : s.heap.IsList a vs := ⟨_, hol, rfl, n, rfl⟩
  have hla : a ≠ e ∧ a ≠ it := by
    have nd := H.D
    have := List.mem_map_of_mem (f := (·.1)) (hs k lm l hJ)
    exact ⟨fun w => (List.nodup_cons.mp nd).1 (w ▸ List.mem_cons_of_mem _ this), fun w => (List.nodup_cons.mp (List.nodup_cons.mp nd).2).1 (w ▸ this)⟩
  refine noE ?_
  cases hp : ps[k]? with
  | none =>
    have hk : k = ps.length := Nat.le_antisymm hle (List.getElem?_eq_none_iff.mp hp)
    refine wpAny_pyNext_enum_end hh he ⟨oi, hoi, ri⟩ hL (by rw [← Array.getElem?_toList, List.getElem?_eq_none_iff, r.length]; exact List.getElem?_eq_none_iff.mp hp) fun h' hx => wpAny_execs_nil (fin lm l _ (hk ▸ hJ) ?_)
    exact (St.lost (H.perm (.swap ..)) (tk := s.toks) hx).drop1
  | some p =>
    have hlt := (List.getElem?_eq_some_iff.mp hp).1
    obtain ⟨v, hv, q⟩ := Paired.get r hp
    rw [Array.getElem?_toList] at hv
    refine wpAny_pyNext_enum_item he ⟨oi, hoi, ri⟩ hL hv hei fun h₁ heo hit₁ ht₁ hz₁ hk₁ => ?_
    refine noE (wpAny_letOwnedTupleGo_enum heo fun h₂ he₂ hs₂ => ?_)
    replace hs₂ : Heap.SameBut e h₁ h₂ := hs₂
    have heH : e < s.heap.objs.size := Heap.lt_size he
    have ht₂ : h₂.IsTuple s.heap.objs.size #[.int k s.toks, v] := ⟨_, (hs₂.2 _ (Nat.ne_of_gt heH)).trans ht₁, rfl, _, rfl⟩
    obtain ⟨oi₁, hoi₁, ri₁⟩ := hit₁
    have hz₂ : h₂.objs.size = s.heap.objs.size + 1 := hs₂.1.trans hz₁
    refine noE (wpAny_assign_Tuple hh ht₂ rfl rfl fun h₃ hx₃ => ?_)
    replace hx₃ : Heap.ExtBut h₂.objs.size h₂ h₃ := hx₃
    have up : ∀ b o, b < h₂.objs.size → h₂.get? b = some o → h₃.get? b = some o := fun b o hb e => hx₃ b o (Nat.ne_of_lt hb) e
    have H₃ : St C ks lm ([(e, aEnum it (k + 1)), (it, aLIter a (k + 1))] ++ l) { s with heap := h₃, toks := s.toks + 1 } := by
      refine St.redo (l₁ := [(e, aEnum it k), (it, aLIter a k)]) H (fun b o hb hbo => ?_) (fun p hp => ?_) rfl
      · have h1 := hb _ (.head _)
        have h2 := hb _ (.tail _ (.head _))
        have e1 := hk₁ b o (Ne.symm h1) (Ne.symm h2) hbo
        exact up b o (by rw [hz₂]; exact Nat.lt_succ_of_lt (Heap.lt_size hbo)) ((hs₂.2 b (Ne.symm h1)).trans e1)
      · rcases List.mem_cons.mp hp with rfl | hp
        · exact ⟨_, up _ _ (by rw [hz₂]; exact Nat.lt_succ_of_lt heH) he₂, v, by push_cast; rfl⟩
        · rw [List.mem_singleton.mp hp]
          exact ⟨oi₁, up _ _ (by rw [hz₂]; exact Nat.lt_succ_of_lt (Heap.lt_size hoi)) ((hs₂.2 it (Ne.symm hei)).trans hoi₁), ri₁⟩
    show wpAny _ C.A (do holding [v] (assign (.Name xi pi) C.env (.int k s.toks)); do holding [] (assign (.Name xv pv) C.env v); pure ()) _ _ _
    refine wpAny_bind (wpAny_holding (wpAny_assign_Name (storeL H₃ hki (.mk (.int k) _) fun s₄ H₄ => ?_)))
    refine wpAny_bind (wpAny_holding (wpAny_assign_Name (storeL H₄ hkv q fun s₅ H₅ => wpAny_pure ?_)))
    refine noE (wpAny_mono (turn k p lm l s₅ hp hJ H₅) (fun f s₆ hf => ?_) fun _ _ z => z)
    cases f with
    | next => obtain ⟨lm', l', hj, H6⟩ := hf; exact ⟨_, Nat.sub_lt_sub_left (Nat.lt_succ_of_lt hlt) (Nat.lt_succ_self k), k + 1, lm', l', rfl, hlt, hj, H6⟩
    | cont => obtain ⟨lm', l', hj, H6⟩ := hf; exact ⟨_, Nat.sub_lt_sub_left (Nat.lt_succ_of_lt hlt) (Nat.lt_succ_self k), k + 1, lm', l', rfl, hlt, hj, H6⟩
    | brk => exact hf
    | ret v => exact hf
end
end Mine
end
section
open PySem PySem.W PyProof.Rows PySem.Calls PySem.Flt
namespace Mine
theorem d108 : Def 108 ["script"] := ⟨fun P => by kernel_rfl, fun P => by kernel_rfl, by kernel_rfl, fun a => by kernel_rfl, by kernel_rfl, by kernel_rfl, by kernel_rfl, by kernel_rfl⟩
theorem d122 : Def 122 ["heaps"] := ⟨fun P => by kernel_rfl, fun P => by kernel_rfl, by kernel_rfl, fun a => by kernel_rfl, by kernel_rfl, by kernel_rfl, by kernel_rfl, by kernel_rfl⟩
section
variable {C : Cx} {ks : Kinds} {lm : Vars} {l rest : Led} {s : Shared}
/-- less is said of an entry -/
theorem St.weaken (H : St C ks lm l s) {i : Nat} {a : Addr} {ao ao' : AO} (hi : l[i]? = some (a, ao)) (w : ∀ o, ao o → ao' o) : St C ks lm (l.set i (a, ao')) s := by
  obtain ⟨o, ho, r⟩ := H.at hi
  have := H.set (h' := s.heap) (tk := s.toks) hi (Heap.SameBut.refl _ _) ho (w o r)
  exact this
/-! weak lists -/
theorem getItem_ls {a : Addr} {ao : AO} {ps : List PV} {k : Int} {u : Tok} {j : Nat} {p : PV} {Q : Value → Shared → Prop} (H : St C ks lm l s) (hl : Has a ao l) (hao : ∀ o, ao o → aLs ps o) (hz : ps.length ≤ 1000000) (hk : seqIndex? k ps.length = some j) (hp : ps[j]? = some p) (h : ∀ v, VS v p → Q v s) :
    s.TypeIs (.ref a) "list" ∧ C.X (getItem (.ref a) (.int k u)) Q s := by
  obtain ⟨vs, hL, r⟩ := H.isLs hl hao
  obtain ⟨v, hv, q⟩ := Paired.get r hp
  obtain ⟨b1, b2, b3⟩ := idx_bounds hk
  have hsz : vs.size = ps.length := r.length
  refine ⟨hL.typeIs, ?_⟩
  rw [Array.getElem?_toList] at hv
  by_cases h0 : k < 0
  · rw [if_pos h0] at b3
    exact wpAny_getItem_list_neg (x := v) hL h0 (by omega) (by omega) (by rw [hsz, ← b3]; exact hv) (h v q)
  · rw [if_neg h0] at b3
    exact wpAny_getItem_list (x := v) hL (by omega) (by omega) (by rw [← b3]; exact hv) (h v q)
theorem SubLs {x : Str} {xp pos : Pos} {idx : Expr} {a : Addr} {ao : AO} {ps : List PV} {k : Int} {j : Nat} {p : PV} {Q : Value → Shared → Prop} (n : Nat) (H : St C ks lm l s) (hx : nm ks lm x = some (.ref a)) (hl : Has a ao l) (hao : ∀ o, ao o → aLs ps o) (hi : ev ks lm n idx = some (.int k)) (hk : seqIndex? k ps.length = some j) (hp : ps[j]? = some p)
    (h : ∀ v s', VS v p → St C ks lm l s' → Q v s') (hz : ps.length ≤ 1000000) (hs : ∀ o i, subscripted idx false o i = operate [o, i] (getItem o i) := by intro _ _; rfl) : C.X (eval (.Subscript (.Name x xp) idx pos) C.env) Q s :=
  Subscript_ (Name_ok H hx fun v hv => by
    obtain ⟨_, rfl⟩ := hv
    refine ev_ok n H hi fun v s' hv H' => ?_
    obtain ⟨u, rfl⟩ := hv
    have := fun {Q} h => getItem_ls (u := u) (Q := Q) H' hl hao hz hk hp h
    exact tail_any (this (Q := Q) fun v hv => h v s' hv H').1 slot_list_getitem.lookup (this fun v hv => h v s' hv H').2 (hs _ _))
theorem Paired.set' {α β : Type} {F : α → β → Prop} {l₁ : List α} {l₂ : List β} (h : Paired F l₁ l₂) {a : α} {b : β} (r : F a b) (i : Nat) : Paired F (l₁.set i a) (l₂.set i b) := by
  induction h generalizing i with
  | nil => exact .nil
  | cons h₁ h₂ ih =>
    cases i with
    | zero => exact .cons r h₂
    | succ n => exact .cons h₁ (ih n)
theorem setItem_ls {a : Addr} {ao : AO} {ps : List PV} {i j : Nat} {u : Tok} {v : Value} {p : PV} {Q : Unit → Shared → Prop} (H : St C ks lm l s) (hi : l[i]? = some (a, ao)) (hao : ∀ o, ao o → aLs ps o) (hz : ps.length ≤ 1000000) (hj : j < ps.length) (hv : VS v p)
    (h : ∀ s', St C ks lm (l.set i (a, aLs (ps.set j p))) s' → Q () s') : C.X (setItem (.ref a) (.int j u) v) Q s := by
  obtain ⟨vs, hL, r⟩ := H.isLs (List.mem_of_getElem? hi) hao
  have hsz : vs.size = ps.length := r.length
  refine wpAny_setItem_list hL (by omega) (by omega) (by omega) fun h' hL' hs => ?_
  obtain ⟨o, ho, hc, n, hd⟩ := hL'
  refine h _ (H.set (tk := s.toks) hi hs ho ⟨hc, _, n, hd, ?_⟩)
  rw [Int.toNat_natCast, Array.toList_setIfInBounds]
  exact Paired.set' r hv j
/-- `x[e] += e2` upon a list of ints -/
theorem do_augsub {x : Str} {xp tp pos : Pos} {idx val : Expr} {a : Addr} {ns : List Int} {i j : Nat} {b d : Int} {rs : List Stmt} {Q : Flow → Shared → Prop} (n : Nat) (H : St C ks lm l s) (hx : nm ks lm x = some (.ref a)) (hi : l[i]? = some (a, aLs (ns.map .int))) (hz : ns.length ≤ 1000000)
    (he : ev ks lm n idx = some (.int j)) (hj : ns[j]? = some b) (hv : ev ks lm n val = some (.int d)) (h : ∀ s', St C ks lm (l.set i (a, aLs ((ns.set j (b + d)).map .int))) s' → C.B rs Q s')
    (hst : ∀ ov iv new, augStore idx ov iv new = (do holding [new, ov, iv] (setItem ov iv new); release [new, ov, iv] []; pure .next) := by intros; rfl) : C.B (.AugAssign (.Subscript (.Name x xp) idx tp) .Add val pos :: rs) Q s := by
  have hlt := (List.getElem?_eq_some_iff.mp hj).1
  refine wpAny_execs_cons (wpAny_AugAssign_SubscriptAny (Name_ok H hx fun v hv1 => ev_ok n H he fun v2 s₂ hv2 H₂ => ?_) hst)
  obtain ⟨_, rfl⟩ := hv1
  obtain ⟨t2, rfl⟩ := hv2
  refine (getItem_ls (u := t2) H₂ (List.mem_of_getElem? hi) (fun _ h => h) (by rw [List.length_map]; exact hz) (seqI (by rw [List.length_map]; exact hlt)) (by rw [List.getElem?_map, hj]; rfl) fun v3 hv3 => ?_).2
  refine ev_ok n H₂ hv fun v4 s₄ hv4 H₄ => ?_
  obtain ⟨t3, rfl⟩ := hv3
  obtain ⟨t4, rfl⟩ := hv4
  refine (ibin_ok (op := .Add) (a := .int b) (b := .int d) (c := .int (b + d)) rfl).ok _ _ _ _ _ _ _ _ fun t5 tk htk => ?_
  refine setItem_ls (H₄.toks tk htk) hi (fun _ h => h) (by rw [List.length_map]; exact hz) (by rw [List.length_map]; exact hlt) (.mk (.int (b + d)) t5) fun s₆ H₆ => h s₆ ?_
  rw [← List.map_set] at H₆
  exact H₆
theorem four {l : List Int} (h : l.length = 4) : ∃ a b c d, l = [a, b, c, d] := by
  rcases l with _ | ⟨a, _ | ⟨b, _ | ⟨c, _ | ⟨d, _ | ⟨_, _⟩⟩⟩⟩⟩ <;> first | exact ⟨_, _, _, _, rfl⟩ | cases h
theorem fmod_nat (k n : Nat) (hn : 0 < n) : Int.fmod (k : Int) (n : Int) = ((k % n : Nat) : Int) := by
  rw [Int.fmod_eq_emod_of_nonneg _ (by omega)]
  rfl
noncomputable def k108 : Kinds := [("script", .local), ("heaps", .local), ("k", .local), ("x", .local), ("enumerate", .globalImplicit)]
/-- `_law_heaps`: some four ints -/
theorem heaps_ok {a : Addr} {ns : List Int} {vs : List Value} {Q : Value → Shared → Prop} (H : St C ks lm l s) (hA : Ok C.A 2) (hv : VSs vs [.ref a]) (hsc : ∃ vs, C.g.IsList a vs ∧ VSs vs.toList (ns.map .int)) (hz : ns.length ≤ 1000)
    (h : ∀ b w x y z s', St C ks lm ((b, aLs [.int w, .int x, .int y, .int z]) :: l) s' → Q (.ref b) s') : C.X (call (.ref 108) vs) Q s := by
  refine call_of (enterB 1 d108 k108 (fun n => by kernel_rfl) (by decide) H.base hA hv rfl fun C' s₁ _ _ h0 hg hA' _ H₁ => ?_)
  have back : ∀ lm' l' s', St C' k108 lm' l' s' → St C ks lm l' s' := fun lm' l' s' H' => St.back H hg h0 H'
  have hsl : ∀ lm' l' s', St C' k108 lm' l' s' → ∃ vs, s'.heap.IsList a vs ∧ VSs vs.toList (ns.map .int) := fun lm' l' s' H' => by
    obtain ⟨vs, ⟨o, ho, r⟩, r2⟩ := hsc
    exact ⟨vs, ⟨o, H'.keep _ _ (hg ▸ H.hid ho), r⟩, r2⟩
  refine seq_assign (List_ev 1 H₁ (ps := [.int 374733, .int 27, .int 92, .int 138]) rfl (fun b s₂ H₂ => storeL (H₂.weaken (i := 0) rfl fun _ h => aList.ls h) rfl (.raw _) fun s₃ H₃ => ?_) (show 4 ≤ 1000 by decide))
  refine seq_then (wpAny_For (Call_ (Name_ok H₃ (p := .raw (.type "enumerate")) rfl fun v hv => ?_)))
  obtain ⟨_, rfl⟩ := hv
  refine PyProof.Rows.callWith_type1 (wpAny_items_cons (Slice_at (lo := none) (hi := some 60) 1 H₃ rfl (fun s' H' => hsl _ _ _ H') (by rw [List.length_map]; omega) rfl rfl fun c s₄ H₄ => wpAny_items_nil ?_) rfl) rfl rfl
  refine enum_ok H₄ (.cons (.raw _) .nil) (.head _) fun e it s₅ hei H₅ => ?_
  obtain ⟨_, he, old, rfl⟩ := H₅.at (i := 0) rfl
  refine wpAny_pyIter_enum he (loop_enum (ps := pickP (ns.map .int) none (some 60)) hA'.h hei (fun k lm' l' => ∃ w x y z, AllIn lm' [("heaps", .ref b)] ∧ l' = (c, aList (pickP (ns.map .int) none (some 60))) :: (b, aLs [.int w, .int x, .int y, .int z]) :: l) (fun k lm' l' hJ => ?_) rfl rfl H₅ ?_ (fun k p lm' l' s₆ hp hJ H₆ => ?_) fun lm' l' s₆ hJ H₆ => ?_)
  · obtain ⟨w, x, y, z, -, rfl⟩ := hJ
    exact .head _
  · exact ⟨_, _, _, _, ⟨rfl, trivial⟩, rfl⟩
  · obtain ⟨w, x, y, z, g, rfl⟩ := hJ
    obtain ⟨n, -, rfl⟩ := List.mem_map.mp (pick_mem (List.mem_of_getElem? hp))
    have hlt : k % 4 < 4 := Nat.mod_lt _ (by decide)
    have hj : [w, x, y, z][k % 4]? = some ([w, x, y, z][k % 4]) := List.getElem?_eq_getElem hlt
    refine do_augsub (i := 3) (ns := [w, x, y, z]) (j := k % 4) (d := n.fmod 1000000) 2 H₆ g.1 rfl (show 4 ≤ 1000000 by decide) ?_ hj rfl fun s₇ H₇ => seq_nil ?_
    · show some (PV.int (Int.fmod (k : Int) 4)) = _
      rw [show (4 : Int) = ((4 : Nat) : Int) from rfl, fmod_nat k 4 (by decide)]
    · obtain ⟨w', x', y', z', e⟩ := four (l := [w, x, y, z].set (k % 4) ([w, x, y, z][k % 4] + n.fmod 1000000)) (by rw [List.length_set]; rfl)
      rw [e] at H₇
      refine ⟨_, _, ?_, H₇⟩
      exact ⟨w', x', y', z', ⟨g.1, trivial⟩, rfl⟩
  · obtain ⟨w, x, y, z, g, rfl⟩ := hJ
    exact do_return 1 H₆ g.1 fun v s₇ hv H₇ => by
      obtain ⟨_, rfl⟩ := hv
      exact h b w x y z s₇ (back _ _ _ H₇.drop1)
end
end Mine
end
section
open PySem PySem.W PyProof.Rows PySem.Calls PySem.Flt
namespace Mine
def aRIter (n k : Nat) : AO := fun o => o = { cls := .type "range_iterator", dict := none, data := .fields #[rawInt (k : Int), rawInt ((n : Int) - k), rawInt 1], slots := #[] }
def upto (n : Nat) : List PV := (List.range n).map fun (i : Nat) => PV.int (i : Int)
theorem walk_range (it : Addr) (n : Nat) : Walk it (upto n) (aRIter n) (fun _ => True) where
  item {C ks lm l s k p Q} _ H hp h := by
    obtain ⟨_, ho, rfl⟩ := H.at (i := 0) rfl
    unfold upto at hp
    rw [List.getElem?_map] at hp
    obtain ⟨j, hj, rfl⟩ := Option.map_eq_some_iff.mp hp
    obtain ⟨hlt, rfl⟩ := List.getElem?_eq_some_iff.mp hj
    rw [List.length_range] at hlt
    rw [List.getElem_range] at h
    refine wpAny_pyNext_range_item (x := (k : Int)) (left := (n : Int) - k) (step := 1) ho (by omega) fun h' hit hs => ?_
    refine h _ _ (.mk (.int k) _) (iter_step (tk := s.toks + 1) H hs hit ?_)
    show _ = _
    congr 6 <;> (push_cast; omega)
  fin {C ks lm l s k Q} hh _ H hp h := by
    obtain ⟨_, ho, rfl⟩ := H.at (i := 0) rfl
    have : n ≤ k := by
      have := List.getElem?_eq_none_iff.mp hp
      unfold upto at this
      simpa using this
    exact wpAny_pyNext_range_end hh (x := (k : Int)) (left := (n : Int) - k) (step := 1) ho (by omega) fun h' hs => h _ (H.lost (tk := s.toks) hs)
  mono _ _ := trivial
  self {C ks lm l s Q} H h := by
    obtain ⟨_, ho, rfl⟩ := H.at (i := 0) rfl
    exact wpAny_pyIter_rangeiter (x := ((0 : Nat) : Int)) (left := (n : Int) - ((0 : Nat) : Int)) (step := 1) ho h
/-! strs -/
def chars (x : Str) : List PV := x.cps.toList.map fun c => .str ⟨#[c]⟩
def aSIter (x : Str) (k : Nat) : AO := fun o => ∃ t, o.cls = .type "str_ascii_iterator" ∧ o.data = .fields #[.str x t, .int k 0]
theorem walk_str (it : Addr) (x : Str) : Walk it (chars x) (aSIter x) (fun _ => True) where
  item {C ks lm l s k p Q} _ H hp h := by
    obtain ⟨o, ho, t, hc, hd⟩ := H.at (i := 0) rfl
    unfold chars at hp
    rw [List.getElem?_map] at hp
    obtain ⟨c, hj, rfl⟩ := Option.map_eq_some_iff.mp hp
    rw [Array.getElem?_toList] at hj
    refine wpAny_pyNext_ascii_item ⟨o, ho, hc, hd⟩ hj fun h' hit hs => ?_
    obtain ⟨o', ho', hc', hd'⟩ := hit
    exact h _ _ (.mk (.str ⟨#[c]⟩) _) (iter_step (tk := s.toks + 1) H hs ho' ⟨t, hc', hd'⟩)
  fin {C ks lm l s k Q} hh _ H hp h := by
    obtain ⟨o, ho, t, hc, hd⟩ := H.at (i := 0) rfl
    unfold chars at hp
    rw [List.getElem?_map, Option.map_eq_none_iff, Array.getElem?_toList] at hp
    exact wpAny_pyNext_ascii_end hh ⟨o, ho, hc, hd⟩ hp fun h' hs => h _ (H.lost (tk := s.toks) hs)
  mono _ _ := trivial
  self {C ks lm l s Q} H h := by
    obtain ⟨o, ho, t, hc, hd⟩ := H.at (i := 0) rfl
    exact wpAny_pyIter_striter_ascii (i := 0) ⟨o, ho, hc, hd⟩ h
/-- the twelve pairs: address, sign, manner -/
structure Pr where
  a : Addr
  i : Nat
  m : Nat
def prL (ts : List Pr) : Led := ts.reverse.map fun t => (t.a, aTup [.int t.i, .int t.m])
def prR (ts : List Pr) : List PV := ts.map fun t => .ref t.a
section
variable {C : Cx} {ks : Kinds} {lm : Vars} {l rest : Led} {s : Shared}
theorem iter_str {x : Str} {v : Value} {Q : Value → Shared → Prop} (H : St C ks lm l s) (hv : VS v (.str x)) (ha : x.cps.all (· < 128) = true) (h : ∀ it s', St C ks lm ((it, aSIter x 0) :: l) s' → Q (.ref it) s') : C.X (pyIter v) Q s := by
  obtain ⟨t, rfl⟩ := hv
  exact wpAny_pyIter_ascii ha (h _ _ (H.push (tk := s.toks) ⟨t, rfl, rfl⟩ rfl))
/-- the iterator of `range(n)` -/
theorem iter_range {n : Nat} {vs : List Value} {Q : Value → Shared → Prop} (H : St C ks lm l s) (hv : VSs vs [.int n]) (hn : n ≤ 1000) (h : ∀ it s', St C ks lm ((it, aRIter n 0) :: l) s' → Q (.ref it) s') : C.X (call (.type "range") vs) (fun v s' => C.X (pyIter v) Q s') s := by
  cases hv with
  | cons h1 hv =>
  cases hv
  obtain ⟨t, rfl⟩ := h1
  refine call_range_1 ?_
  have H1 := H.push (o := { cls := .type "range", data := .fields #[.int 0 s.toks, .int n t, .int 1 (s.toks + 1)] }) (ao := fun o => True) (tk := s.toks + 1 + 1) trivial rfl
  refine wpAny_pyIter_range (IsRange.new _ _ _ _ _ _ _) (small_one (by decide) (by decide) (by omega) (by omega)) (h _ _ ((H1.push (tk := s.toks + 1 + 1) ?_ rfl).sub (List.sublist_cons_self _ _ |>.cons_cons _)))
  show _ = _
  rw [rangeSize_one]
  congr 6
  split <;> (push_cast; omega)
/-- x.append(e), where the walk of e may lay objects -/
theorem do_app {x : Str} {xp ap cp pos : Pos} {e : Expr} {a : Addr} {ps : List PV} {i : Nat} {rest : List Stmt} {Q : Flow → Shared → Prop} (H : St C ks lm l s) (hx : nm ks lm x = some (.ref a)) (hi : l[i]? = some (a, aList ps))
    (he : C.X (eval e C.env) (fun v s' => ∃ j l' lm' qs p, VS v p ∧ St C ks lm' l' s' ∧ l'[j]? = some (a, aList qs) ∧ qs.length ≤ 1000000 ∧ ∀ s', St C ks lm' (l'.set j (a, aList (qs ++ [p]))) s' → C.B rest Q s') s)
    (hp : starEach [e] C.env = [(false, eval e C.env)] := by rfl)
    (hm : eval (.Call (.Attribute (.Name x xp) "append" ap) [e] [] cp) C.env = (do
      let ov ← eval (.Name x xp) C.env
      standAt ap.atName
      let (f, first) ← holding [ov] (getMethod ov "append" (do return (← importBound (.Name x xp) C.env).getD true))
      callWith cp f first (backTo cp (starEach [e] C.env)) []) := by rfl) :
    C.B (.Expr (.Call (.Attribute (.Name x xp) "append" ap) [e] [] cp) pos :: rest) Q s := by
  refine seq_expr H.V (Call_lm H hx hi slot_list_append (by kernel_rfl) ?_ hm)
  refine callB (wpAny_items_cons (wpAny_mono he (fun v s' hq => ?_) fun _ _ z => z) hp) hp rfl
  obtain ⟨j, l', lm', qs, p, hv, H', hi', hl, k⟩ := hq
  exact wpAny_items_nil (append_ok H' hi' hv hl k)
theorem rot3 {α : Type} {a b c : α} {l : List α} : (a :: b :: c :: l).Perm (b :: c :: a :: l) := (List.Perm.swap b a _).trans ((List.Perm.swap c a _).cons b)
theorem prL_snoc (ts : List Pr) (t : Pr) : prL (ts ++ [t]) = (t.a, aTup [.int t.i, .int t.m]) :: prL ts := by
  unfold prL
  rw [List.reverse_append]
  rfl
noncomputable def k122 : Kinds := [("heaps", .local), ("row", .local), ("figures", .local), ("k", .local), ("heap", .local), ("range", .globalImplicit)]
theorem fmod_in (x : Int) {n : Nat} (hn : 0 < n) : ∃ j : Nat, j < n ∧ Int.fmod x n = j := by
  rw [Int.fmod_eq_emod_of_nonneg _ (by omega)]
  have h1 := Int.emod_nonneg x (show (n : Int) ≠ 0 by omega)
  have h2 := Int.emod_lt_of_pos x (show (0 : Int) < n by omega)
  exact ⟨(x % n).toNat, by omega, by omega⟩
theorem drawn_ok {a : Addr} {w x y z : Int} {vs : List Value} {Q : Value → Shared → Prop} (H : St C ks lm l s) (hA : Ok C.A 2) (hv : VSs vs [.ref a]) (hl : Has a (aLs [.int w, .int x, .int y, .int z]) l)
    (h : ∀ b ts s', ts.length = 12 → (∀ t ∈ ts, t.i < 48 ∧ t.m < 4) → St C ks lm ((b, aList (prR ts)) :: (prL ts ++ l)) s' → Q (.ref b) s') : C.X (call (.ref 122) vs) Q s := by
  refine enter 1 d122 k122 (fun n => by kernel_rfl) (by decide) H hA hv rfl fun C' s₁ hA' _ H₁ back => ?_
  refine seq_assign (List_ev 1 H₁ (ps := []) rfl (fun b s₂ H₂ => storeL H₂ rfl (.raw _) fun s₃ H₃ => ?_) (show 0 ≤ 1000 by decide))
  refine seq_assign (SubLs 1 H₃ rfl (.tail _ hl) (fun _ h => h) rfl (j := 0) rfl rfl (fun v s₄ hv H₄ => storeL H₄ rfl hv fun s₅ H₅ => ?_) (show 4 ≤ 1000000 by decide))
  refine seq_for (Call_ty 1 H₅ (ps := [.int 12]) rfl rfl fun vs s₆ hvs H₆ => iter_range (n := 12) H₆ hvs (by decide) fun it s₇ H₇ => ?_)
  refine loop_for (walk_range it 12) hA'.h (fun k lm' l' => ∃ fg ts, ts.length = k ∧ (∀ t ∈ ts, t.i < 48 ∧ t.m < 4) ∧ AllIn lm' [("heaps", .ref a), ("row", .ref b), ("figures", .int fg)] ∧ l' = (b, aList (prR ts)) :: (prL ts ++ l)) (fun _ _ _ _ => trivial) (.inl rfl) H₇ ⟨_, [], rfl, fun _ h => (nomatch h), ⟨rfl, rfl, rfl, trivial⟩, rfl⟩ (fun k p lm' l' s₈ hp hJ H₈ => ?_) fun lm' l' s₈ hJ H₈ => ?_
  · obtain ⟨fg, ts, h1, h2, g, rfl⟩ := hJ
    have hk : p = .int (k : Int) := by
      unfold upto at hp
      rw [List.getElem?_map] at hp
      obtain ⟨j, hj, rfl⟩ := Option.map_eq_some_iff.mp hp
      obtain ⟨hlt, rfl⟩ := List.getElem?_eq_some_iff.mp hj
      rw [List.getElem_range]
    subst hk
    obtain ⟨j, hj, ej⟩ := fmod_in fg (n := 3) (by decide)
    have hlt : 1 + j < 4 := by omega
    have hel : [w, x, y, z][1 + j]? = some ([w, x, y, z][1 + j]) := List.getElem?_eq_getElem hlt
    generalize [w, x, y, z][1 + j] = hp at hel
    replace H₈ := H₈.norm (lm' := [("k", .int k), ("heaps", .ref a), ("row", .ref b), ("figures", .int fg)]) ⟨rfl, g.1, g.2.1, g.2.2.1, trivial⟩
    refine seq_assign (SubLs (k := 1 + Int.fmod fg 3) (j := 1 + j) (p := .int hp) (ps := [w, x, y, z].map .int) 3 H₈ rfl (.tail _ (.tail _ (List.mem_append_right _ hl))) (fun _ h => h) rfl ?_ ?_ (fun v s₄ hv H₉ => storeL H₉ rfl hv fun s₅ H₁₀ => ?_) (show 4 ≤ 1000000 by decide))
    · have ej : Int.fmod fg 3 = (j : Int) := ej
      rw [ej, show 1 + (j : Int) = ((1 + j : Nat) : Int) by push_cast; rfl]
      exact seqI hlt
    · rw [List.getElem?_map, hel]; rfl
    · obtain ⟨j1, hj1, e1⟩ := fmod_in hp (n := 48) (by decide)
      obtain ⟨j2, hj2, e2⟩ := fmod_in (hp.fdiv 48 + k) (n := 4) (by decide)
      refine do_app (i := 1) H₁₀ rfl rfl (Tuple_ev (ps := [.int (Int.fmod hp 48), .int (Int.fmod (hp.fdiv 48 + k) 4)]) 4 H₁₀ rfl (fun t s₆ H₁₁ => ?_) (show 2 ≤ 1000 by decide))
      have hlen : ts.length < 12 := by
        have := (List.getElem?_eq_some_iff.mp ‹(upto 12)[k]? = some _›).1
        have e : (upto 12).length = 12 := rfl
        omega
      refine ⟨2, _, _, prR ts, .ref t, .raw _, H₁₁, rfl, by unfold prR; rw [List.length_map]; omega, fun s₇ H₁₂ => ?_⟩
      have H₁₃ : St C' k122 [("heap", .int hp), ("k", .int k), ("heaps", .ref a), ("row", .ref b), ("figures", .int fg)] ((it, aRIter 12 (k + 1)) :: (b, aList (prR ts ++ [.ref t])) :: (t, aTup [.int (Int.fmod hp 48), .int (Int.fmod (hp.fdiv 48 + k) 4)]) :: (prL ts ++ l)) s₇ := H₁₂.perm rot3
      have e1 : Int.fmod hp 48 = (j1 : Int) := e1
      have e2 : Int.fmod (hp.fdiv 48 + k) 4 = (j2 : Int) := e2
      rw [e1, e2] at H₁₃
      have eR : prR (ts ++ [⟨t, j1, j2⟩]) = prR ts ++ [.ref t] := by unfold prR; rw [List.map_append]; rfl
      refine do_assign 2 H₁₃ rfl fun s₈ H₁₄ => seq_nil ⟨_, (b, aList (prR (ts ++ [⟨t, j1, j2⟩]))) :: (prL (ts ++ [⟨t, j1, j2⟩]) ++ l), ?_, by rw [prL_snoc, eR]; exact H₁₄⟩
      refine ⟨fg.fdiv 3, ts ++ [⟨t, j1, j2⟩], by rw [List.length_append, h1]; rfl, fun q hq => ?_, ⟨rfl, rfl, rfl, trivial⟩, rfl⟩
      rcases List.mem_append.mp hq with hq | hq
      · exact h2 q hq
      · rw [List.mem_singleton.mp hq]; exact ⟨hj1, hj2⟩
  · obtain ⟨fg, ts, h1, h2, g, rfl⟩ := hJ
    exact do_return 1 H₈ g.2.1 fun v s₉ hv H₉ => by
      obtain ⟨_, rfl⟩ := hv
      exact h b ts s₉ h1 h2 (back _ _ _ H₉)
end
end Mine
end
section
open PySem PySem.W PyProof.Rows PySem.Calls PySem.Flt
namespace Mine
theorem d127 : Def 127 ["word", "manner", "blank"] := ⟨fun P => by kernel_rfl, fun P => by kernel_rfl, by kernel_rfl, fun a b c => by kernel_rfl, by kernel_rfl, by kernel_rfl, by kernel_rfl, by kernel_rfl⟩
theorem strsOf {vs : List Value} {ys : List Str} (h : VSs vs (ys.map .str)) : StrsAre vs ys := by
  induction ys generalizing vs with
  | nil => cases h; exact .nil
  | cons y r ih =>
    cases h with
    | cons a b =>
      obtain ⟨t, rfl⟩ := a
      exact .cons _ _ (ih b)
theorem chars_append (x y : Str) : chars (x ++ y) = chars x ++ chars y := by
  unfold chars
  rw [Str.cps_append, Array.toList_append, List.map_append]
theorem chars_join (ys : List Str) : chars (Str.join (Str.ofString "") ys) = ys.flatMap chars := by
  induction ys with
  | nil => rfl
  | cons y r ih =>
    cases r with
    | nil => show chars y = _; simp
    | cons z r =>
      show chars (y ++ Str.ofString "" ++ Str.join _ (z :: r)) = _
      rw [chars_append, chars_append, ih]
      simp [chars, List.flatMap_cons]
      rfl
section
variable {C : Cx} {ks : Kinds} {lm : Vars} {l rest : Led} {s : Shared}
theorem join_ok {a : Addr} {ao : AO} {ys : List Str} {t : Tok} {Q : Value → Shared → Prop} (H : St C ks lm l s) (hl : Has a ao l) (hao : ∀ o, ao o → aLs (ys.map .str) o) (hz : (ys.map (·.length)).sum ≤ 100000)
    (h : ∀ v s', VS v (.str (Str.join (Str.ofString "") ys)) → St C ks lm l s' → Q v s') : C.X (call (.builtin "str.join") [.str (Str.ofString "") t, .ref a]) Q s := by
  obtain ⟨vs, hL, r⟩ := H.isLs hl hao
  refine wpAny_with_toks (Nat.le_refl s.toks) (join_list hL (strsOf r) (by show _ + _ * 0 ≤ _; omega) fun t' k htk => ?_)
  refine h _ _ ?_ (H.toks k htk)
  show VS (.str (Builtin.Str.glued _ ys) t') _
  rw [StrLaws.glued_eq_join]
  exact .mk (.str _) t'
def sgn (x : Str) : List Str := x.cps.toList.map fun c => ⟨#[c]⟩
theorem chars_sgn (x : Str) : chars x = (sgn x).map .str := by unfold chars sgn; rw [List.map_map]; rfl
noncomputable def dressS (x : Str) (m : Nat) : Str := if m % 2 = 1 then Str.join (Str.ofString "") ((sgn x).map fun y => bsl ++ y) else x
noncomputable def wrS (x : Str) (m : Nat) (b : Str) : Str := if m < 2 then dressS x m ++ b else qtl ++ dressS x m ++ qtl
noncomputable def k127 : Kinds := [("word", .local), ("manner", .local), ("blank", .local), ("dressed", .local)]
theorem sgn_len (x : Str) : (sgn x).length = x.length := by unfold sgn; rw [List.length_map, Array.length_toList]; rfl
theorem esc_sum (ys : List Str) (h : ∀ y ∈ ys, y.length = 1) : ((ys.map fun y => bsl ++ y).map (·.length)).sum = 2 * ys.length := by
  induction ys with
  | nil => rfl
  | cons y r ih =>
    rw [List.map_cons, List.map_cons, List.sum_cons, ih fun z hz => h z (.tail _ hz), List.length_cons]
    have : (bsl ++ y).length = 1 + y.length := Str.length_append ..
    have := h y (.head _)
    omega
theorem sgn_one {x y : Str} (h : y ∈ sgn x) : y.length = 1 := by
  unfold sgn at h
  obtain ⟨c, -, rfl⟩ := List.mem_map.mp h
  rfl
theorem wr_tail {d b : Str} {m : Nat} {Q : Value → Shared → Prop} (H : St C k127 [("dressed", .str d), ("manner", .int m), ("blank", .str b)] l s) (hd : d.length ≤ 100) (hb : b.length ≤ 10)
    (h : ∀ v s', VS v (.str (if m < 2 then d ++ b else qtl ++ d ++ qtl)) → ∀ lm', St C k127 lm' l s' → Q v s') : C.B ((bodyOf 127).drop 1) (fun f => Q (retv f)) s := by
  refine seq_return (IfExp_ (test_ok 2 H (p := .bool (decide ((m : Int) < 2))) (b := decide ((m : Int) < 2)) rfl rfl fun s₂ H₂ => ?_))
  by_cases hm : m < 2
  · rw [if_pos (decide_eq_true (by omega))]
    rw [if_pos hm] at h
    refine ev_ok 2 H₂ (p := .str (d ++ b)) (by show addS .Add d b = _; unfold addS; rw [if_pos ⟨rfl, by omega⟩]) fun v s₃ hv H₃ => h v s₃ hv _ H₃
  · rw [if_neg (by simp only [decide_eq_true_eq]; omega)]
    rw [if_neg hm] at h
    have hq : qtl.length = 1 := rfl
    refine ev_ok 3 H₂ (p := .str (qtl ++ d ++ qtl)) ?_ fun v s₃ hv H₃ => h v s₃ hv _ H₃
    have e1 : addS .Add qtl d = some (.str (qtl ++ d)) := by unfold addS; rw [if_pos ⟨rfl, by omega⟩]
    have e2 : addS .Add (qtl ++ d) qtl = some (.str (qtl ++ d ++ qtl)) := by unfold addS; rw [if_pos ⟨rfl, by rw [Str.length_append]; omega⟩]
    show (addS .Add qtl d).bind _ = _
    rw [e1]
    exact e2
theorem written_ok {x b : Str} {m : Nat} {vs : List Value} {Q : Value → Shared → Prop} (H : St C ks lm l s) (hA : Ok C.A 3) (hv : VSs vs [.str x, .int m, .str b]) (ha : x.cps.all (· < 128) = true) (hx : x.length ≤ 10) (hb : b.length ≤ 10)
    (h : ∀ v s', VS v (.str (wrS x m b)) → St C ks lm l s' → Q v s') : C.X (call (.ref 127) vs) Q s := by
  refine enter 2 d127 k127 (fun n => by kernel_rfl) (by decide) H hA hv rfl fun C' s₁ hA' _ H₁ back => ?_
  refine seq_assign (IfExp_ (test_ok 3 H₁ (p := .bool (decide (Int.fmod m 2 = 1))) (b := decide (Int.fmod m 2 = 1)) rfl rfl fun s₂ H₂ => ?_))
  split
  · refine MethodCall_ (ev_ok 1 H₂ (p := .str (Str.ofString "")) rfl fun v s₃ hv H₃ => ?_)
    obtain ⟨t, rfl⟩ := hv
    refine GM.join ?_
    refine callB ?_
    refine wpAny_items_cons ?_ rfl
    refine list_comp (items := chars x) (side := fun _ => True) [("sign", .local)] [] (fun k ys l' => l' = l ∧ ys = ((sgn x).take k).map fun y => .str (bsl ++ y)) H₃ hA'.h ?_ (fun _ _ h => nomatch h) ?_ ?_ ?_ rfl rfl ?_ ?_
    · kernel_rfl
    · refine Name_ok H₃ (p := .str x) rfl fun v hv => iter_str H₃ hv ha fun it s₄ H₄ => ⟨it, aSIter x, l, rfl, walk_str it x, H₄, rfl, by rw [List.take_zero]; rfl⟩
    · rintro k ys l' ⟨-, rfl⟩
      exact ⟨trivial, by rw [List.length_map, List.length_take]; omega⟩
    · rw [chars_sgn, List.length_map]; unfold sgn; rw [List.length_map, Array.length_toList]; exact Nat.le_trans hx (by decide)
    · rintro C₂ IA i acc k p ys l' s₄ hA₂ hp ⟨rfl, rfl⟩ H₄
      rw [chars_sgn, List.getElem?_map] at hp
      obtain ⟨y, hy, rfl⟩ := Option.map_eq_some_iff.mp hp
      refine tests_nil ?_
      rw [if_pos rfl]
      refine ev_ok 2 H₄ (p := .str (bsl ++ y)) ?_ fun v s₅ hv H₅ => ⟨_, _, hv, ⟨rfl, ?_⟩, H₅⟩
      · have hl : bsl.length + y.length ≤ 1000000 := by
          unfold sgn at hy
          rw [List.getElem?_map] at hy
          obtain ⟨c, -, rfl⟩ := Option.map_eq_some_iff.mp hy
          show 1 + 1 ≤ 1000000
          decide
        show addS .Add bsl y = _
        unfold addS
        rw [if_pos ⟨rfl, hl⟩]
      · rw [List.take_add_one, hy, List.map_append]; rfl
    · rintro a ys l' s₄ ⟨rfl, rfl⟩ H₄
      have e : (((sgn x).take (chars x).length).map fun y => PV.str (bsl ++ y)) = ((sgn x).map fun y => bsl ++ y).map .str := by
        rw [chars_sgn, List.length_map, List.take_length, List.map_map]; rfl
      rw [e] at H₄
      refine wpAny_items_nil (join_ok H₄ (a := a) (.head _) (fun _ h => aList.ls h) ?_ fun v s₅ hv H₅ => storeL H₅.drop1 rfl hv fun s₆ H₆ => ?_)
      · rw [esc_sum _ fun y hy => sgn_one hy, sgn_len]; omega
      · have hd : dressS x m = Str.join (Str.ofString "") ((sgn x).map fun y => bsl ++ y) := if_pos (by
          have := of_decide_eq_true ‹decide (Int.fmod (m : Int) 2 = 1) = true›
          rw [show (2 : Int) = ((2 : Nat) : Int) from rfl, fmod_nat m 2 (by decide)] at this
          omega)
        rw [← hd] at H₆
        exact wr_tail (H₆.norm ⟨rfl, rfl, rfl, trivial⟩) (by
          rw [hd]
          refine Nat.le_trans (StrLaws.join_length_le _ _) ?_
          rw [esc_sum _ fun y hy => sgn_one hy, sgn_len]
          show _ + _ * 0 ≤ 100
          omega) hb fun v s₇ hv lm' H₇ => h v s₇ hv (back _ _ _ H₇)
  · refine Name_ok H₂ (p := .str x) rfl fun v hv => storeL H₂ rfl hv fun s₃ H₃ => ?_
    have hd : dressS x m = x := if_neg (by
      have := of_decide_eq_false ((Bool.not_eq_true _).mp ‹¬decide (Int.fmod (m : Int) 2 = 1) = true›)
      rw [show (2 : Int) = ((2 : Nat) : Int) from rfl, fmod_nat m 2 (by decide)] at this
      omega)
    exact wr_tail (H₃.norm ⟨rfl, rfl, rfl, trivial⟩) (Nat.le_trans hx (by decide)) hb fun v s₇ hv lm' H₇ => h v s₇ (by unfold wrS; rw [hd]; exact hv) (back _ _ _ H₇)
end
end Mine
end
section
open PySem PySem.W PyProof.Rows PySem.Calls PySem.Flt
namespace Mine
theorem d73 : Def 73 ["self", "fp"] := ⟨fun P => by kernel_rfl, fun P => by kernel_rfl, by kernel_rfl, fun a b => by kernel_rfl, by kernel_rfl, by kernel_rfl, by kernel_rfl, by kernel_rfl⟩
theorem d134 : Def 134 ["signs"] := ⟨fun P => by kernel_rfl, fun P => by kernel_rfl, by kernel_rfl, fun a => by kernel_rfl, by kernel_rfl, by kernel_rfl, by kernel_rfl, by kernel_rfl⟩
theorem makes97 (P : Params) : makesIn (KH P) 97 = true := by kernel_rfl
theorem init97 (P : Params) : findIn (KH P) (.ref 97) "__init__" = some (some (.ref 73)) := by kernel_rfl
theorem typ73 (P : Params) : typeIn (KH P) (.ref 73) = some (.type "function") := by kernel_rfl
theorem keep97 (P : Params) : keepIn (KH P) (.ref 97) = true := by kernel_rfl
def lexNames : List Str := ["lineno", "instream", "whitespace", "pushback", "read"]
theorem takes_ok (P : Params) : (lexNames.all fun x => takerIn (KH P) 97 x == some none) = true := by kernel_rfl
theorem takes (P : Params) {x : Str} (h : x ∈ lexNames) : takerIn (KH P) 97 x = some none := beq_iff_eq.mp (List.all_eq_true.mp (takes_ok P) x h)
theorem made_w (a : Args) : (Code.builtin "type.__call__" a).weight ≤ 1 := by
  unfold Code.weight
  rw [show (Code.builtin "type.__call__" a).frames = 0 by kernel_rfl, show (Code.builtin "type.__call__" a).isGuard = false by kernel_rfl, show (Code.builtin "type.__call__" a).isCaller = false by kernel_rfl]
  cases (Code.builtin "type.__call__" a).isCreation <;> simp
theorem made_u (a : Args) : (Code.builtin "type.__call__" a).cUnits = 1 := by kernel_rfl
theorem Ok.made {A : Around} {n : Nat} {a : Args} (h : Ok A (n + 1)) : Ok (A.under (.builtin "type.__call__" a)) n :=
  ⟨h.h, by
    have := h.d
    have w := made_w a
    show A.depth + (Code.builtin "type.__call__" a).weight + n < 400
    omega, by
    have := h.u
    have w := made_u a
    show A.units + (Code.builtin "type.__call__" a).cUnits + 8 * n < 400
    omega⟩
section
variable {C : Cx} {ks : Kinds} {lm : Vars} {l rest : Led} {s : Shared}
/-- x.name = e -/
theorem do_attr {x name : Str} {xp ap pos : Pos} {e : Expr} {a dx : Addr} {qs : List (Str × PV)} {p : PV} {i j : Nat} {rs : List Stmt} {Q : Flow → Shared → Prop} (n : Nat) (H : St C ks lm l s) (he : ev ks lm n e = some p) (hx : nm ks lm x = some (.ref a)) (hi : l[i]? = some (a, aInst 97 dx)) (hj : l[j]? = some (dx, aNs qs)) (hl : qs.length ≤ 900) (hn : name ∈ lexNames)
    (h : ∀ s', St C ks lm (l.set j (dx, aNs (putV name p qs))) s' → C.B rs Q s')
    (hs : swapsWith e (some (.Attribute (.Name x xp) name ap)) pos.line C.env = pure false := by rfl) : C.B (.Assign [.Attribute (.Name x xp) name ap] e pos :: rs) Q s := by
  refine wpAny_execs_cons (plainObj_wpAny_Assign_Attribute (ev_ok n H he fun v s₁ hv H₁ => Name_ok H₁ hx fun u hu => ?_) hs)
  obtain ⟨_, rfl⟩ := hu
  exact setattr_ok H₁ hi hj (fun P => takes P hn) cls_setattr cls_plain hv hl h
noncomputable def lexQs (p : PV) (pb : Addr) : List (Str × PV) := [("lineno", .int 1), ("instream", p), ("whitespace", .str wsp), ("pushback", .ref pb)]
/-- `_netrclex(fp)` -/
theorem lex_make {v : Value} {p : PV} {Q : Value → Shared → Prop} (H : St C ks lm l s) (hA : Ok C.A 3) (hv : VS v p)
    (h : ∀ x dx pb s', St C ks lm ((pb, aList []) :: (x, aInst 97 dx) :: (dx, aNs (lexQs p pb)) :: l) s' → Q (.ref x) s') : C.X (call (.ref 97) [v]) Q s := by
  obtain ⟨m, news, F, N, back⟩ := H.bridge
  refine call_of (make_K F N (C.G.X.keeps H.keep) (makes97 _) (init97 _) (typ73 _) fun x dx h' F' N' up hlt => ?_)
  have H₁ := back h' s.toks [(x, instObj 97 dx), (dx, emptyDict)] [(x, aInst 97 dx), (dx, aNs [])] (Nat.le_refl _) F' N' (.cons ⟨rfl, rfl⟩ (.cons ⟨rfl, [], 0, rfl, .nil⟩ .nil)) (fun p hp q hq => by
    rcases List.mem_cons.mp hp with rfl | hp
    · exact Nat.ne_of_lt (Nat.lt_trans (up q hq) hlt)
    · rw [List.mem_singleton.mp hp]; exact Nat.ne_of_lt (up q hq)) (List.nodup_cons.mpr ⟨fun q => absurd (List.mem_singleton.mp q) (Nat.ne_of_gt hlt), List.nodup_cons.mpr ⟨List.not_mem_nil, .nil⟩⟩)
  refine codeAny_mono (R := Ret fun v' s' => v' = .none ∧ Q (.ref x) s') (enterC 1 d73 [("self", .local), ("fp", .local)] (fun n => by kernel_rfl) (by decide) H₁ (hA.made (n := 2)) (ps := [.ref x, p]) (.cons (.raw _) (.cons hv .nil)) rfl fun C' s₁ hA' _ H' back => ?_) fun r s' hr => ?_
  · refine do_attr (i := 0) (j := 1) 1 H' rfl rfl rfl rfl (by show 0 ≤ 900; decide) (by decide) fun s₂ H₂ => ?_
    refine do_attr (i := 0) (j := 1) 1 H₂ rfl rfl rfl rfl (by show 1 ≤ 900; decide) (by decide) fun s₃ H₃ => ?_
    refine do_attr (i := 0) (j := 1) 1 H₃ rfl rfl rfl rfl (by show 2 ≤ 900; decide) (by decide) fun s₄ H₄ => ?_
    refine wpAny_execs_cons (plainObj_wpAny_Assign_Attribute (List_ev 1 H₄ (ps := []) rfl (fun pb s₅ H₅ => Name_ok H₅ (p := .ref x) rfl fun u hu => ?_) (show 0 ≤ 1000 by decide)))
    obtain ⟨_, rfl⟩ := hu
    exact setattr_ok (i := 1) (j := 2) H₅ rfl rfl (fun P => takes P (by decide)) cls_setattr cls_plain (.raw (.ref pb)) (by show 3 ≤ 900; decide) fun s₆ H₆ => seq_nil ⟨rfl, h x dx pb s₆ (back _ _ _ H₆)⟩
  · rcases r with e | f
    · exact hr.elim
    · cases f with
      | ret v' => exact hr
      | _ => exact hr.elim
end
end Mine
end
section
open PySem PySem.W PyProof.Rows PySem.Calls PySem.Flt
namespace Mine
section
variable {C : Cx} {ks : Kinds} {lm : Vars} {l : Led} {s : Shared}
theorem swaps_comp {elt : Expr} {gens : List Comprehension} {scope : Scope} {pos py : Pos} {y : Str} {n : Nat} {env : Env} (V : Env0 env ks) (hy : ks.lookup y = some .local) (hl : (py.line == pos.line) = true) (hn : (scope.names.any fun q => q.1 == y && (q.2 == .local || q.2 == .cell)) = false) :
    swapsWith (.ListComp elt gens scope pos) (some (.Name y py)) n env = pure true := by
  have hk := V.kd _ _ hy
  have hb : (env.blockKind == .function) = true := by
    simp only [Env.blockKind, V.kind, ScopeKind.isAnnotationScope]
    decide
  unfold swapsWith
  show (pure (env.blockKind == .function && env.kindOf y == some .local && py.line == (Expr.ListComp elt gens scope pos).pos.line && !(scope.names.any fun (n, k) => n == y && (k == .local || k == .cell))) : Sem Bool) = pure true
  rw [hb, hk, show (Expr.ListComp elt gens scope pos).pos.line = pos.line from rfl, hl]
  rw [show (scope.names.any fun (n, k) => n == y && (k == .local || k == .cell)) = false from hn]
  rfl
/-- `y = [comp]`, the list bound while the comprehension's frame stands -/
theorem do_comp {x y : Str} {xp py pos sp : Pos} {elt iter : Expr} {ifs : List Expr} {scope : Scope} {items : List PV} {side : Led → Prop} {rs : List Stmt} {Q : Flow → Shared → Prop} (ks' : Kinds) (lm' : Vars) (J : Nat → List PV → Led → Prop) (H : St C ks lm l s) (hh : C.A.handled = none)
    (hc : cchk scope ks ks' = true) (hlm : ∀ x p, lm'.lookup x = some p → lm.lookup x = some p ∧ ks'.lookup x = some .cell)
    (hy : ks.lookup y = some .local) (hln : (py.line == pos.line) = true) (hn : (scope.names.any fun q => q.1 == y && (q.2 == .local || q.2 == .cell)) = false)
    (hi : C.X (eval iter C.env) (fun v s₁ => C.X (pyIter v) (Src C ks lm items side (J 0 [])) s₁) s)
    (hs : ∀ k ys l, J k ys l → side l ∧ ys.length ≤ k) (hz : items.length ≤ 1000) (hk : ks'.lookup x = some .local) (hx : lm'.lookup x = none)
    (turn : ∀ C' (IA : Nat → AO) i acc k p ys l s, C'.A = C.A → items[k]? = some p → J k ys l → St C' ks' ((x, p) :: lm') ((acc, aList ys) :: (i, IA (k + 1)) :: l) s → C'.X (tests C' ifs) (fun b s' =>
        if b = true then C'.X (eval elt C'.env) (fun v s'' => ∃ q l', VS v q ∧ J (k + 1) (ys ++ [q]) l' ∧ St C' ks' ((x, p) :: lm') ((acc, aList ys) :: (i, IA (k + 1)) :: l') s'') s'
        else J (k + 1) ys l ∧ St C' ks' ((x, p) :: lm') ((acc, aList ys) :: (i, IA (k + 1)) :: l) s') s)
    (fin : ∀ a ys l s', J items.length ys l → St C ks ((y, .ref a) :: lm) ((a, aList ys) :: l) s' → C.B rs Q s')
    (hsi : ∀ x, foldedSetIterable iter C.env x = pure x := by intro _; rfl) : C.B (.Assign [.Name y py] (.ListComp elt [⟨.Name x xp, iter, ifs, 0⟩] scope pos) sp :: rs) Q s := by
  obtain ⟨cl, h1, h2, h3⟩ := comp_closure hc H.V
  have hc' := hc
  unfold cchk at hc'
  simp only [Bool.and_eq_true, List.all_eq_true, Bool.or_eq_true, Bool.not_eq_true', beq_iff_eq, beq_eq_false_iff_ne] at hc'
  refine wpAny_execs_cons ?_
  show C.X (exec _ C.env) _ s
  rw [exec_Assign_Name_used _ _ _ _ (swaps_comp H.V hy hln hn)]
  refine wpAny_bind (wpAny_standAt (wpAny_bind ?_))
  show wpAny _ C.A (do let _ ← comprehension (.ListComp elt [⟨.Name x xp, iter, ifs, 0⟩] scope pos) scope C.env _ (newList []) false (eval iter C.env) (some (assign (.Name y py) C.env))) _ _ s
  refine wpAny_bind (wpAny_mono (wpAny_comprehension_free (use := some (assign (.Name y py) C.env)) (Q := fun _ s' => C.B rs Q s') rfl hsi h1 hc'.1.1 (fun y hy hl => (hc'.1.2 y hy).1.2.resolve_left fun w => w hl) (wpAny_mono hi (fun v s₁ h₁ => wpAny_mono h₁ (fun it s₂ h₂ => ?_) fun _ _ e => e) fun _ _ e => e)) (fun _ s' hq => wpAny_pure (wpAny_pure hq)) fun _ _ e => e)
  obtain ⟨i, IA, l₂, rfl, W, H2, hJ⟩ := h₂
  refine comp_frame hc hlm H2 h2 h3 fun C' acc s' hA H' back => ?_
  refine loop_comp W (hA ▸ hh) J hs hz hk hx H' hJ (fun k p ys l s e hj Hs => turn C' IA i acc k p ys l s hA e hj Hs) fun ys l s hj Hs => ?_
  refine wpAny_assign_Name (storeL (back _ _ _ Hs) hy (.raw _) fun s₅ H₅ => ?_)
  obtain ⟨m, hm, hb⟩ := H₅.frm
  exact ⟨m, hm, fun h' hs' => fin _ _ _ _ hj (hb h' hs')⟩
end
end Mine
end
section
open PySem PySem.W PyProof.Rows PySem.Calls PySem.Flt
namespace Mine
theorem d153 : Def 153 ["numbers"] := ⟨fun P => by kernel_rfl, fun P => by kernel_rfl, by kernel_rfl, fun a => by kernel_rfl, by kernel_rfl, by kernel_rfl, by kernel_rfl, by kernel_rfl⟩
section
variable {C : Cx} {ks : Kinds} {lm : Vars} {l : Led} {s : Shared}
theorem len_ok {a : Addr} {ao : AO} {ps : List PV} {vs : List Value} {Q : Value → Shared → Prop} (H : St C ks lm l s) (hv : VSs vs [.ref a]) (hl : Has a ao l) (hao : ∀ o, ao o → aLs ps o) (hz : ps.length ≤ 1000000) (h : ∀ v s', VS v (.int ps.length) → St C ks lm l s' → Q v s') : C.X (call (.builtin "len") vs) Q s := by
  cases hv with
  | cons h1 hv =>
  cases hv
  obtain ⟨_, rfl⟩ := h1
  obtain ⟨vs, hL, r⟩ := H.isLs hl hao
  have hsz : vs.size = ps.length := r.length
  refine call_len_list hL (by omega) ?_
  rw [hsz]
  exact h _ _ (.mk (.int _) _) (H.toks _)
theorem len_ev {x f : Str} {p1 p2 p3 : Pos} {a : Addr} {ao : AO} {ps : List PV} {Q : Value → Shared → Prop} (H : St C ks lm l s) (hf : nm ks lm f = some (.raw (.builtin "len"))) (hx : nm ks lm x = some (.ref a)) (hl : Has a ao l) (hao : ∀ o, ao o → aLs ps o) (hz : ps.length ≤ 1000000) (h : ∀ v s', VS v (.int ps.length) → St C ks lm l s' → Q v s')
    (hp : (backTo p3 (starEach [] C.env)).any (·.1) = false := by rfl) : C.X (eval (.Call (.Name f p1) [.Name x p2] [] p3) C.env) Q s :=
  Call_bi 1 H hf (ps := [.ref a]) (by show (nm ks lm x).bind _ = _; rw [hx]; rfl) (fun vs s' hv H' => len_ok H' hv hl hao hz h) hp
theorem add_lists {a b : Addr} {ps qs : List PV} {Q : Value → Shared → Prop} (H : St C ks lm l s) (ha : Has a (aList ps) l) (hb : Has b (aList qs) l) (hz : ps.length + qs.length ≤ 1000000) (h : ∀ c s', St C ks lm ((c, aList (ps ++ qs)) :: l) s' → Q (.ref c) s') : C.X (binaryOp .Add (.ref a) (.ref b)) Q s := by
  obtain ⟨_, ho, vs, n, rfl, r⟩ := H.mem ha
  obtain ⟨_, ho2, vs2, n2, rfl, r2⟩ := H.mem hb
  have h1 : vs.size = ps.length := r.length
  have h2 : vs2.size = qs.length := r2.length
  exact P.add_list ho ho2 (h _ _ (H.push (tk := s.toks) ⟨_, _, rfl, by rw [Array.toList_append]; exact Paired.app r r2⟩ rfl)) (by rw [line_is]; omega)
/-! octets -/
def octs : Nat → List Nat → List Int
  | _, [] => []
  | k, n :: r => if n > 63 then (64 + (n / 64 : Nat) + 128 * (k % 2 : Nat) : Int) :: ((n % 64 : Nat) + 128 * ((k + 1) % 2 : Nat) : Int) :: octs (k + 2) r else ((n % 64 : Nat) + 128 * (k % 2 : Nat) : Int) :: octs (k + 1) r
theorem octs_app (k : Nat) (a b : List Nat) : octs k (a ++ b) = octs k a ++ octs (k + (octs k a).length) b := by
  induction a generalizing k with
  | nil => rfl
  | cons n r ih =>
    by_cases h : n > 63
    · simp only [List.cons_append, octs, if_pos h, ih, List.length_cons]
      rw [show k + 2 + (octs (k + 2) r).length = k + ((octs (k + 2) r).length + 1 + 1) by omega]
    · simp only [List.cons_append, octs, if_neg h, ih, List.length_cons]
      rw [show k + 1 + (octs (k + 1) r).length = k + ((octs (k + 1) r).length + 1) by omega]
theorem octs_len (k : Nat) (a : List Nat) : (octs k a).length ≤ 2 * a.length := by
  induction a generalizing k with
  | nil => exact Nat.le_refl _
  | cons n r ih =>
    unfold octs
    split
    · have := ih (k + 2)
      simp only [List.length_cons]
      omega
    · have := ih (k + 1)
      simp only [List.length_cons]
      omega
theorem fdiv_nat (k n : Nat) : Int.fdiv (k : Int) (n : Int) = ((k / n : Nat) : Int) := by
  rw [Int.fdiv_eq_ediv_of_nonneg _ (by omega)]
  rfl
noncomputable def k153 : Kinds := [("numbers", .local), ("octets", .local), ("number", .local), ("len", .globalImplicit)]
theorem oct_ev {e1 : Expr} {p1 p2 p3 p4 p5 p6 p7 p8 : Pos} {n1 n2 : Nat} {a : Addr} {ps : List PV} {b : Int} {Q : Value → Shared → Prop} (n : Nat) (H : St C k153 lm l s) (he : ev k153 lm n e1 = some (.int b)) (hx : nm k153 lm "octets" = some (.ref a)) (hl : Has a (aList ps) l) (hz : ps.length ≤ 1000000)
    (h : ∀ v s', VS v (.int (b + 128 * ((ps.length % 2 : Nat) : Int))) → St C k153 lm l s' → Q v s')
    (hp : (backTo p3 (starEach [] C.env)).any (·.1) = false := by rfl) :
    C.X (eval (.BinOp e1 .Add (.BinOp (.Constant (.int 128) n1 p4) .Mult (.BinOp (.Call (.Name "len" p1) [.Name "octets" p2] [] p3) .Mod (.Constant (.int 2) n2 p5) p6) p7) p8) C.env) Q s := by
  refine wpAny_BinOp (ev_ok n H he fun v1 s1 hv1 H1 => wpAny_BinOp (ev_ok 1 H1 (p := .int 128) rfl fun v2 s2 hv2 H2 => wpAny_BinOp (len_ev H2 rfl hx hl (fun _ h => aList.ls h) hz (fun v3 s3 hv3 H3 => ev_ok 1 H3 (p := .int 2) rfl fun v4 s4 hv4 H4 => ?_) hp)))
  obtain ⟨t1, rfl⟩ := hv1
  obtain ⟨t2, rfl⟩ := hv2
  obtain ⟨t3, rfl⟩ := hv3
  obtain ⟨t4, rfl⟩ := hv4
  have em : Int.fmod (ps.length : Int) 2 = ((ps.length % 2 : Nat) : Int) := fmod_nat _ 2 (by decide)
  refine (bin_ok (op := .Mod) (a := .int ps.length) (b := .int 2) (c := .int ((ps.length % 2 : Nat) : Int)) (by show (if (2 : Int) ≠ 0 then some (PV.int (Int.fmod _ 2)) else none) = _; rw [if_pos (by decide), em])).ok _ _ _ _ _ _ _ _ H4.tk fun t5 tk5 q5 => ?_
  refine (bin_ok (op := .Mult) (a := .int 128) (b := .int ((ps.length % 2 : Nat) : Int)) (c := .int (128 * ((ps.length % 2 : Nat) : Int))) (if_pos ⟨by decide, by have := Nat.mod_lt ps.length (show 0 < 2 by decide); omega⟩)).ok _ _ _ _ _ _ _ _ (H4.toks tk5 q5).tk fun t6 tk6 q6 => ?_
  exact (bin_ok (op := .Add) (a := .int b) (b := .int _) (c := .int (b + 128 * ((ps.length % 2 : Nat) : Int))) rfl).ok _ _ _ _ _ _ _ _ ((H4.toks tk5 q5).toks tk6 q6).tk fun t7 tk7 q7 => h _ _ (.mk (.int _) t7) (((H4.toks tk5 q5).toks tk6 q6).toks tk7 q7)
theorem octets_ok {a : Addr} {ns : List Nat} {vs : List Value} {Q : Value → Shared → Prop} (H : St C ks lm l s) (hA : Ok C.A 3) (hv : VSs vs [.ref a]) (hl : Has a (aList (ns.map fun n : Nat => PV.int n)) l) (hz : ns.length ≤ 100)
    (h : ∀ b s', St C ks lm ((b, aList ((octs 0 (ns ++ [0])).map .int)) :: l) s' → Q (.ref b) s') : C.X (call (.ref 153) vs) Q s := by
  refine enter 2 d153 k153 (fun n => by kernel_rfl) (by decide) H hA hv rfl fun C' s₁ hA' _ H₁ back => ?_
  refine seq_assign (List_ev 1 H₁ (ps := []) rfl (fun b s₂ H₂ => storeL H₂ rfl (.raw _) fun s₃ H₃ => ?_) (show 0 ≤ 1000 by decide))
  refine seq_for (wpAny_BinOp (Name_ok H₃ (p := .ref a) rfl fun v hv => List_ev 1 H₃ (ps := [.int 0]) rfl (fun z s₄ H₄ => ?_) (show 1 ≤ 1000 by decide)))
  obtain ⟨_, rfl⟩ := hv
  refine add_lists H₄ (a := a) (b := z) (.tail _ (.tail _ hl)) (.head _) (by rw [List.length_map]; show _ + 1 ≤ _; omega) fun c s₅ H₅ => ?_
  refine iter_list (a := c) H₅ (.raw _) (.head _) fun it s₆ H₆ => ?_
  have e : (ns.map fun n : Nat => PV.int n) ++ [PV.int 0] = (ns ++ [0]).map fun n : Nat => PV.int n := by rw [List.map_append]; rfl
  rw [e] at H₆
  refine loop_for (walk_list it c ((ns ++ [0]).map fun n : Nat => PV.int n)) hA'.h (fun k lm' l' => AllIn lm' [("octets", .ref b)] ∧ l' = (c, aList ((ns ++ [0]).map fun n : Nat => PV.int n)) :: (z, aList [.int 0]) :: (b, aList ((octs 0 ((ns ++ [0]).take k)).map .int)) :: l) (fun k lm' l' hJ => by obtain ⟨-, rfl⟩ := hJ; exact .head _) (.inl rfl) H₆ ⟨⟨rfl, trivial⟩, rfl⟩ (fun k p lm' l' s₇ hp hJ H₇ => ?_) fun lm' l' s₇ hJ H₇ => ?_
  · obtain ⟨g, rfl⟩ := hJ
    rw [List.getElem?_map] at hp
    obtain ⟨n, hn, rfl⟩ := Option.map_eq_some_iff.mp hp
    have ht : (ns ++ [0]).take (k + 1) = (ns ++ [0]).take k ++ [n] := by rw [List.take_add_one, hn]; rfl
    have hlen : (octs 0 ((ns ++ [0]).take k)).length ≤ 300 := by
      have h1 := octs_len 0 ((ns ++ [0]).take k)
      have h2 : ((ns ++ [0]).take k).length ≤ 101 := by rw [List.length_take, List.length_append]; simp only [List.length_singleton]; omega
      omega
    generalize hacc : octs 0 ((ns ++ [0]).take k) = acc at H₇ hlen
    have H₈ := H₇.norm (lm' := [("number", .int n), ("octets", .ref b)]) ⟨rfl, g.1, trivial⟩
    refine do_if_join (fun s' => ∃ x : List Int, x = (if n > 63 then [(64 + (n / 64 : Nat) + 128 * (acc.length % 2 : Nat) : Int)] else []) ∧ St C' k153 [("number", .int n), ("octets", .ref b)] ((it, aLIter c (k + 1)) :: (c, aList ((ns ++ [0]).map fun n : Nat => PV.int n)) :: (z, aList [.int 0]) :: (b, aList ((acc ++ x).map .int)) :: l) s') 2 H₈ (p := .bool (decide ((n : Int) > 63))) (b := decide ((n : Int) > 63)) rfl rfl (fun e s' H' => ?_) (fun e s' H' => ?_) fun s' hj => ?_
    · have hn63 : n > 63 := by have := of_decide_eq_true e; omega
      refine do_app (i := 3) H' rfl rfl (oct_ev (b := 64 + Int.fdiv n 64) 3 H' rfl rfl (a := b) (.tail _ (.tail _ (.tail _ (.head _)))) (by rw [List.length_map]; omega) fun v s'' hv H'' => ⟨3, _, _, _, _, hv, H'', rfl, by rw [List.length_map]; omega, fun s₉ H₉ => seq_nil ⟨rfl, _, (if_pos hn63).symm, ?_⟩⟩)
      rw [List.map_append (l₁ := acc)]
      rw [List.length_map, show Int.fdiv (n : Int) 64 = ((n / 64 : Nat) : Int) from fdiv_nat n 64] at H₉
      exact H₉
    · have hn63 : ¬ n > 63 := by have := of_decide_eq_false e; omega
      exact seq_nil ⟨rfl, [], (if_neg hn63).symm, by rw [List.append_nil]; exact H'⟩
    · obtain ⟨x, hx, H'⟩ := hj
      have hxl : x.length ≤ 1 := by rw [hx]; split <;> simp
      refine do_app (i := 3) H' rfl rfl (oct_ev (b := Int.fmod n 64) 3 H' rfl rfl (a := b) (.tail _ (.tail _ (.tail _ (.head _)))) (by rw [List.length_map, List.length_append]; omega) fun v s'' hv H'' => ⟨3, _, _, _, _, hv, H'', rfl, by rw [List.length_map, List.length_append]; omega, fun s₉ H₉ => seq_nil ⟨[("number", .int n), ("octets", .ref b)], _, ⟨⟨rfl, trivial⟩, rfl⟩, ?_⟩⟩)
      have eo : octs 0 ((ns ++ [0]).take (k + 1)) = acc ++ x ++ [((n % 64 : Nat) + 128 * ((acc ++ x).length % 2 : Nat) : Int)] := by
        rw [ht, octs_app, hacc, hx]
        unfold octs
        split
        · simp only [octs, List.append_assoc, List.length_append, List.length_singleton]
          rw [Nat.zero_add]
          rfl
        · simp only [octs, List.append_nil]
          rw [Nat.zero_add]
      rw [eo, List.map_append (l₁ := acc ++ x)]
      rw [List.length_map, show Int.fmod (n : Int) 64 = ((n % 64 : Nat) : Int) from fmod_nat n 64 (by decide)] at H₉
      exact H₉
  · obtain ⟨g, rfl⟩ := hJ
    rw [List.length_map, List.take_length] at H₇
    exact do_return 1 H₇ g.1 fun v s₈ hv H₈ => by
      obtain ⟨_, rfl⟩ := hv
      exact h b s₈ (back _ _ _ (H₈.sub ((List.sublist_cons_self _ _).trans (List.sublist_cons_self _ _))))
end
end Mine
end
section
open PySem PySem.W PyProof.Rows PySem.Calls PySem.Flt
set_option maxHeartbeats 2000000
namespace Mine
theorem updF_at {ns cs : List (Addr × Obj)} (nd : (ns.map (·.1)).Nodup) {i : Nat} {a : Addr} {o : Obj} (hi : ns[i]? = some (a, o)) (hcs : ∀ q ∈ cs, q.1 ≠ a) : UpdF a o (ns ++ cs) (fun o' => ns.set i (a, o') ++ cs) := by
  induction ns generalizing i with
  | nil => cases hi
  | cons p r ih =>
    have nd := List.nodup_cons.mp nd
    cases i with
    | zero => cases Option.some.inj hi; exact .head fun q hq e => (List.mem_append.mp hq).elim (fun hq => nd.1 (List.mem_map.mpr ⟨q, hq, e⟩)) fun hq => hcs q hq e
    | succ n => exact .tail (fun e => nd.1 (List.mem_map.mpr ⟨_, List.mem_of_getElem? (i := n) hi, e.symm⟩)) (ih nd.2 hi)
def aTab (ps : Array Value) : AO := fun o => o = tabObj ps
section
variable {C : Cx} {ks : Kinds} {lm : Vars} {l rest : Led} {s : Shared}
/-- the same where one object of the ledger changes -/
theorem St.bridge2 (H : St C ks lm l s) {i : Nat} {P : Addr} {ao : AO} (hi : l[i]? = some (P, ao)) : ∃ m news o g, Fr C.g C.env.locals s.heap m ∧ News C.g C.env.locals s.heap news ∧ UpdF P o news g ∧ ao o ∧ ∀ h' tk (new : List (Addr × Obj)) (l' : Led) o' (ao' : AO), s.toks ≤ tk → Fr C.g C.env.locals h' m → News C.g C.env.locals h' (new ++ g o') → ao' o' → LRel new l' →
    (∀ p ∈ l', ∀ q ∈ news, q.1 ≠ p.1) → (l'.map (·.1)).Nodup → St C ks lm (l' ++ l.set i (P, ao')) { s with heap := h', toks := tk } := by
  obtain ⟨ns, N, LR⟩ := newsOf H fun _ h => h
  obtain ⟨m, cm, F, hc, hm⟩ := H.F
  obtain ⟨cs, NC, KC, RC⟩ := cellNews H (cs := C.env.cells.filter fun q => C.env.cells.lookup q.1 == some q.2) fun q hq => beq_iff_eq.mp (List.mem_filter.mp hq).2
  have nd : (ns.map (·.1)).Nodup := LR.map ▸ H.D
  obtain ⟨o, ho, r⟩ := LR.get hi
  have hP := List.mem_of_getElem? hi
  refine ⟨m, ns ++ cs, o, fun o' => ns.set i (P, o') ++ cs, F, fun p hp => (List.mem_append.mp hp).elim (N p) (NC p), updF_at nd ho fun q hq e => KC q hq _ hP e.symm, r, fun h' tk new l' o' ao' htk F' N' r' R' up ndl => ?_⟩
  have LR' := LR.set i (a := P) (ao := ao') (o := o') r'
  have in1 : ∀ q ∈ l.set i (P, ao'), ∃ p ∈ l, p.1 = q.1 := fun q hq => by
    rcases set_at H.D hi hq with rfl | hq
    · exact ⟨_, hP, rfl⟩
    · exact ⟨q, hq.1, rfl⟩
  have lt : ∀ {p q : Addr × AO}, p ∈ l' → q ∈ l.set i (P, ao') → p.1 ≠ q.1 := fun hp hq e => by
    obtain ⟨p2, hp2, e2⟩ := in1 _ hq
    obtain ⟨o, ho, -⟩ := LR.mem hp2
    exact up _ hp _ (List.mem_append_left _ ho) (e2.trans e.symm)
  refine ⟨H.V, ⟨m, cm, F', fun y c hy => ?_, hm⟩, fun y c hy => ⟨(H.K y c hy).1, fun q hq => ?_, (H.K y c hy).2.2⟩, fun q hq => ?_, ?_, H.gens, H.os, Nat.lt_of_lt_of_le H.tk htk⟩
  · obtain ⟨o, ho, hd⟩ := hc y c hy
    cases q : C.g.get? c with
    | some o' => exact ⟨o, by rw [← ho, H.keep _ _ q]; exact F'.keep _ _ q, hd⟩
    | none =>
      obtain ⟨o', ho', hm'⟩ := RC (y, c) (List.mem_filter.mpr ⟨mem_of_lookup hy, beq_iff_eq.mpr hy⟩) q
      cases Option.some.inj (ho.symm.trans ho')
      exact ⟨o, (N' _ (List.mem_append_right _ (List.mem_append_right _ hm'))).1, hd⟩
  · rcases List.mem_append.mp hq with hq | hq
    · obtain ⟨o, ho, r⟩ := R'.mem hq
      have gn := (N' _ (List.mem_append_left _ ho)).2.2
      cases w : C.g.get? c with
      | some o' => exact fun e => by rw [e, w] at gn; cases gn
      | none =>
        obtain ⟨o', ho', hm'⟩ := RC (y, c) (List.mem_filter.mpr ⟨mem_of_lookup hy, beq_iff_eq.mpr hy⟩) w
        exact fun e => up _ hq _ (List.mem_append_right _ hm') e.symm
    · obtain ⟨p2, hp2, e2⟩ := in1 _ hq
      exact e2 ▸ (H.K y c hy).2.1 p2 hp2
  · rcases List.mem_append.mp hq with hq | hq
    · obtain ⟨o, ho, r⟩ := R'.mem hq
      have := N' _ (List.mem_append_left _ ho)
      exact ⟨⟨o, this.1, r⟩, this.2⟩
    · obtain ⟨o, ho, r⟩ := LR'.mem hq
      have := N' _ (List.mem_append_right _ (List.mem_append_left _ ho))
      exact ⟨⟨o, this.1, r⟩, this.2⟩
  · rw [List.map_append]
    refine List.nodup_append.mpr ⟨ndl, set_map ao' hi ▸ H.D, fun a ha b hb => ?_⟩
    obtain ⟨p, hp, rfl⟩ := List.mem_map.mp ha
    obtain ⟨q, hq, rfl⟩ := List.mem_map.mp hb
    exact lt hp hq
/-- x(args) upon a class's name -/
theorem Call_cls {x : Str} {xp pos : Pos} {e : Expr} {rest : List Expr} {ps : List PV} {Q : Value → Shared → Prop} (n : Nat) (H : St C ks lm l s)
    (hx : nm ks lm x = some (.ref 97)) (he : evs ks lm n (e :: rest) = some ps) (h : ∀ vs s', VSs vs ps → St C ks lm l s' → C.X (call (.ref 97) vs) Q s')
    (hplain : (backTo pos (starEach rest C.env)).any (·.1) = false := by rfl) : C.X (eval (.Call (.Name x xp) (e :: rest) [] pos) C.env) Q s := by
  refine Call_ (Name_ok H hx fun v hv => ?_)
  obtain ⟨_, rfl⟩ := hv
  exact callWith_K (h₀ := C.g) C.G.X (keep97 _) (evs_ok n H he fun vs s' hv H' => ⟨C.G.X.keeps H'.keep, h vs _ hv H'⟩) (evs_head he) hplain
noncomputable def k134 : Kinds := [("signs", .cell), ("feed", .local), ("_netrclex", .globalImplicit)]
theorem hd129 (P : Params) : codeHdIn (KH P) 133 129 = true := by kernel_rfl
theorem env134 (L : Addr) : callEnvC (fdOf 134) L 134 = envX (fdOf 134).qualname (fdOf 134).scope L 134 (.ref 133) (cellsFrom (L + 1) (fdOf 134).scope.names []) := by kernel_rfl
theorem cells134 (L : Addr) : (callEnvC (fdOf 134) L 134).cells.lookup (Str.ofString "signs") = some (L + 1) := by kernel_rfl
theorem clo134 (L : Addr) : closureFor lamParts.2.2 (envX (fdOf 134).qualname (fdOf 134).scope L 134 (.ref 133) (cellsFrom (L + 1) (fdOf 134).scope.names [])) = pure [(Str.ofString "signs", L + 1)] := by kernel_rfl
noncomputable def feedQs (pb fn : Addr) : List (Str × PV) := [("lineno", .int 1), ("instream", .none), ("whitespace", .str wsp), ("pushback", .ref pb), ("read", .ref fn)]
theorem feed_ok {i : Nat} {sg : Addr} {vs : List Value} {Q : Value → Shared → Prop} (H : St C ks lm l s) (hA : Ok C.A 4) (hv : VSs vs [.ref sg]) (hi : l[i]? = some (129, aTab #[]))
    (h : ∀ x dx pb fn cr c ps s', St C ks lm ((c, aCell (.ref sg)) :: (fn, LamP c cr) :: (cr, CodeP) :: (pb, aList []) :: (x, aInst 97 dx) :: (dx, aNs (feedQs pb fn)) :: l.set i (129, aTab ps)) s' → Q (.ref x) s') : C.X (call (.ref 134) vs) Q s := by
  refine call_of (enterB 3 d134 k134 (fun n => by kernel_rfl) (by decide) H.base hA hv rfl fun C' s₁ e1 e2 h0 hg hA' he H₁ => ?_)
  refine seq_assign (Call_cls (ps := [.none]) 1 H₁ rfl rfl fun vs s₂ hvs H₂ => ?_)
  cases hvs with
  | cons hv1 hvs =>
  cases hvs
  refine lex_make H₂ hA' hv1 fun x dx pb s₃ H₃ => storeL H₃ rfl (.raw _) fun s₄ H₄ => ?_
  have hi3 : ((pb, aList []) :: (x, aInst 97 dx) :: (dx, aNs (lexQs .none pb)) :: l)[i + 3]? = some (129, aTab #[]) := hi
  obtain ⟨m, news, o, g, F, N, U, ro, back2⟩ := H₄.bridge2 hi3
  cases ro
  have e := he.trans (env134 _)
  have hq : C'.env.qual ++ "<lambda>" = lamQual := by rw [he]; rfl
  obtain ⟨p', lo, me, mg, mb, T⟩ := C'.G.T
  refine wpAny_execs_cons (plainObj_wpAny_Assign_Attribute (kla_eval rfl ?_))
  have mk := fun ps fl Q E h => kla_nest (M := model C'.prog C'.w) (A := C'.A) (E := E) (s := s₄) (name := Str.ofString "<lambda>") (qual := C'.env.qual ++ "<lambda>") (params := lamParts.1) (body := lamParts.2.1) (scope := lamParts.2.2) (pos := ps) (firstLine := fl) (Q := Q) F N T (codeHd_of_K C'.G.X (hd129 _)) rfl U trivial rfl (clo134 _) h
  rw [← e] at mk
  refine wpAny_with_toks (Nat.le_refl s₄.toks) (mk _ _ _ _ fun fn cr oc vs t ctv h' tk F' N' hd hv up hlt htk => ?_)
  rw [hq] at N' hv
  have r1 : ∀ pm, LamP (C'.env.locals + 1) cr (kla_obj "<lambda>" lamQual lamParts.1 lamParts.2.1 lamParts.2.2 [(Str.ofString "signs", C'.env.locals + 1)] pm cr ctv) := fun pm => ⟨pm, ctv, rfl⟩
  have r2 : CodeP oc := ⟨vs, t, hd, hv⟩
  have r3 : LRel [(fn, kla_obj "<lambda>" lamQual lamParts.1 lamParts.2.1 lamParts.2.2 [(Str.ofString "signs", C'.env.locals + 1)] ((mg "__name__").getD .none) cr ctv), (cr, oc)] [(fn, LamP (C'.env.locals + 1) cr), (cr, CodeP)] := .cons ⟨rfl, r1 _⟩ (.cons ⟨rfl, r2⟩ .nil)
  have H₅ := back2 h' tk _ _ _ (aTab _) htk F' N' rfl r3 (fun p hp q hq => by
    rcases List.mem_cons.mp hp with rfl | hp
    · exact Nat.ne_of_lt (Nat.lt_trans (up q hq) hlt)
    · rw [List.mem_singleton.mp hp]; exact Nat.ne_of_lt (up q hq)) (List.nodup_cons.mpr ⟨fun q => absurd (List.mem_singleton.mp q) (Nat.ne_of_gt hlt), List.nodup_cons.mpr ⟨List.not_mem_nil, .nil⟩⟩)
  refine Name_ok H₅ (p := .ref x) rfl fun u hu => ?_
  obtain ⟨_, rfl⟩ := hu
  refine setattr_ok (i := 3) (j := 4) (x := x) (dx := dx) (qs := lexQs .none pb) H₅ rfl rfl (fun P => takes P (by decide)) cls_setattr cls_plain (.raw (.ref fn)) (by show 4 ≤ 900; decide) fun s₆ H₆ => ?_
  refine do_return 1 H₆ (p := .ref x) rfl fun u s₇ hu H₇ => ?_
  obtain ⟨_, rfl⟩ := hu
  have H₈ := St.backCell H hg h0 H₇ (x := "signs") (c := C'.env.locals + 1) (p := .ref sg) (by rw [he]; exact cells134 _) (by rw [he]; rfl) rfl rfl
  exact h x dx pb fn cr (C'.env.locals + 1) _ s₇ H₈
end
end Mine
end
section
open PySem PySem.W PyProof.Rows PySem.Calls PySem.Flt
set_option maxHeartbeats 1000000
namespace Mine
theorem d170 : Def 170 ["letters"] := ⟨fun P => by kernel_rfl, fun P => by kernel_rfl, by kernel_rfl, fun a => by kernel_rfl, by kernel_rfl, by kernel_rfl, by kernel_rfl, by kernel_rfl⟩
/-- one channel of the colour at t -/
def lev (t c : Int) : Int := let w := Int.fmod (3 * t - c) 192; let d := 64 - (if 192 - w < w then 192 - w else w); let e := if d > 0 then d else 0; if e < 32 then e else 32
noncomputable def chan (t c : Int) : UInt64 := quot (lev t c) 32
noncomputable def paint (t : Int) : UInt64 × UInt64 × UInt64 := (chan t 0, chan t 64, chan t 128)
theorem lev_in (t c : Int) : ∃ j : Nat, j < 33 ∧ lev t c = j := by
  unfold lev
  have h1 := Int.fmod_nonneg_of_pos (3 * t - c) (show (0 : Int) < 192 by decide)
  have h2 := Int.fmod_lt_of_pos (3 * t - c) (show (0 : Int) < 192 by decide)
  generalize Int.fmod (3 * t - c) 192 = w at h1 h2
  dsimp only
  refine ⟨(if (if 64 - (if 192 - w < w then 192 - w else w) > 0 then 64 - (if 192 - w < w then 192 - w else w) else 0) < 32 then (if 64 - (if 192 - w < w then 192 - w else w) > 0 then 64 - (if 192 - w < w then 192 - w else w) else 0) else 32).toNat, ?_, ?_⟩ <;> (repeat' split) <;> omega
theorem quots : ((List.range 33).all fun j => !Float64.isInf (quot (j : Int) 32)) = true := by decide +kernel
theorem quot_ok {j : Nat} (h : j < 33) : ¬ Float64.isInf (quot (j : Int) 32) = true := by
  have := List.all_eq_true.mp quots j (List.mem_range.mpr h)
  simpa using this
section
variable {C : Cx} {ks : Kinds} {lm : Vars} {l rest : Led} {s : Shared}
theorem max2_ok {a b : Int} {vs : List Value} {Q : Value → Shared → Prop} (H : St C ks lm l s) (hh : C.A.handled = none) (hv : VSs vs [.int a, .int b]) (h : ∀ v s', VS v (.int (if b > a then b else a)) → St C ks lm l s' → Q v s') : C.X (call (.builtin "max") vs) Q s := by
  cases hv with
  | cons h1 hv =>
  cases hv with
  | cons h2 hv =>
  cases hv
  obtain ⟨t1, rfl⟩ := h1
  obtain ⟨t2, rfl⟩ := h2
  refine wpAny_with_toks (Nat.le_refl s.toks) (max_two_ints hh fun h' tk k htk => h _ _ ?_ (H.keeps k htk))
  by_cases c : b > a
  · rw [if_pos c, if_pos c]; exact ⟨t2, rfl⟩
  · rw [if_neg c, if_neg c]; exact ⟨t1, rfl⟩
theorem min2_ok {a b : Int} {vs : List Value} {Q : Value → Shared → Prop} (H : St C ks lm l s) (hh : C.A.handled = none) (hv : VSs vs [.int a, .int b]) (h : ∀ v s', VS v (.int (if b < a then b else a)) → St C ks lm l s' → Q v s') : C.X (call (.builtin "min") vs) Q s := by
  cases hv with
  | cons h1 hv =>
  cases hv with
  | cons h2 hv =>
  cases hv
  obtain ⟨t1, rfl⟩ := h1
  obtain ⟨t2, rfl⟩ := h2
  refine wpAny_with_toks (Nat.le_refl s.toks) (min_two_ints hh fun h' tk k htk => h _ _ ?_ (H.keeps k htk))
  by_cases c : b < a
  · rw [if_pos c, if_pos c]; exact ⟨t2, rfl⟩
  · rw [if_neg c, if_neg c]; exact ⟨t1, rfl⟩
end
end Mine
end
section
open PySem PySem.W PyProof.Rows PySem.Calls PySem.Flt
set_option maxHeartbeats 1000000
namespace Mine
section
variable {C : Cx} {ks : Kinds} {lm : Vars} {l rest : Led} {s : Shared}
theorem Call2 {x : Str} {xp pos : Pos} {e1 e2 : Expr} {id : String} {Q : Value → Shared → Prop} (H : St C ks lm l s) (hx : nm ks lm x = some (.raw (.builtin id)))
    (h : C.X (eval e1 C.env) (fun v1 s1 => C.X (eval e2 C.env) (fun v2 s2 => C.X (call (.builtin id) [v1, v2]) Q s2) s1) s)
    (he1 : starEach [e1, e2] C.env = (false, eval e1 C.env) :: starEach [e2] C.env := by rfl) (he2 : starEach [e2] C.env = (false, eval e2 C.env) :: starEach [] C.env := by rfl) : C.X (eval (.Call (.Name x xp) [e1, e2] [] pos) C.env) Q s := by
  refine Call_ (Name_ok H hx fun v hv => ?_)
  obtain ⟨_, rfl⟩ := hv
  refine PyProof.Rows.callWith_builtin1 (wpAny_items_cons (wpAny_mono h (fun v1 s1 h1 => wpAny_items_cons (wpAny_mono h1 (fun v2 s2 h2 => wpAny_items_nil h2) fun _ _ z => z) he2) fun _ _ z => z) he1) he1 (by rw [he2]; rfl)
theorem tuple_ok {a : Addr} {ao : AO} {ps : List PV} {v : Value} {Q : Value → Shared → Prop} (H : St C ks lm l s) (hv : VS v (.ref a)) (hl : Has a ao l) (hao : ∀ o, ao o → aLs ps o) (hz : ps.length ≤ 1000000) (h : ∀ t s', St C ks lm ((t, aTup ps) :: l) s' → Q (.ref t) s') : C.X (call (.type "tuple") [v]) Q s := by
  obtain ⟨_, rfl⟩ := hv
  obtain ⟨vs, hL, r⟩ := H.isLs hl hao
  have hsz : vs.size = ps.length := r.length
  refine call_tuple_list hL (fun h' hk => h _ _ ?_) (by rw [line_is]; omega)
  exact (H.keeps (tk := s.toks) hk).push (tk := s.toks) ⟨_, _, rfl, r⟩ rfl
/-- `min(32, max(0, 64 - min(way, 192 - way))) / 32` -/
theorem lev_ev {p1 p2 p3 p4 p5 p6 p7 p8 p9 p10 p11 p12 p13 p14 p15 p16 : Pos} {n1 n2 n3 n4 n5 : Nat} {t c : Int} {Q : Value → Shared → Prop} (H : St C ks lm l s) (hh : C.A.handled = none) (hmin : nm ks lm "min" = some (.raw (.builtin "min"))) (hmax : nm ks lm "max" = some (.raw (.builtin "max"))) (hw : nm ks lm "way" = some (.int (Int.fmod (3 * t - c) 192)))
    (h : ∀ v s', VS v (.flt (chan t c)) → St C ks lm l s' → Q v s') :
    C.X (eval (.BinOp (.Call (.Name "min" p1) [.Constant (.int 32) n1 p2, .Call (.Name "max" p3) [.Constant (.int 0) n2 p4, .BinOp (.Constant (.int 64) n3 p5) .Sub (.Call (.Name "min" p6) [.Name "way" p7, .BinOp (.Constant (.int 192) n4 p8) .Sub (.Name "way" p9) p10] [] p11) p12] [] p13] [] p14) .Div (.Constant (.int 32) n5 p15) p16) C.env) Q s := by
  refine wpAny_BinOp (Call2 H hmin (ev_ok 1 H (p := .int 32) rfl fun v1 s1 hv1 H1 => Call2 H1 hmax (ev_ok 1 H1 (p := .int 0) rfl fun v2 s2 hv2 H2 => wpAny_BinOp (ev_ok 1 H2 (p := .int 64) rfl fun v3 s3 hv3 H3 => Call2 H3 hmin (ev_ok 1 H3 hw fun v4 s4 hv4 H4 => ev_ok 2 H4 (p := .int (192 - Int.fmod (3 * t - c) 192)) ?_ fun v5 s5 hv5 H5 => min2_ok H5 hh (.cons hv4 (.cons hv5 .nil)) fun v6 s6 hv6 H6 => ?_)))))
  · show (some (PV.int 192)).bind (fun a => (nm ks lm "way").bind fun b => bin .Sub a b) = _
    rw [hw]; rfl
  · obtain ⟨t3, rfl⟩ := hv3
    obtain ⟨t6, rfl⟩ := hv6
    refine (bin_ok (op := .Sub) (a := .int 64) (b := .int _) (c := .int _) rfl).ok _ _ _ _ _ _ _ _ H6.tk fun t7 tk7 q7 => ?_
    refine max2_ok (H6.toks tk7 q7) hh (.cons hv2 (.cons (.mk (.int _) t7) .nil)) fun v8 s8 hv8 H8 => min2_ok H8 hh (.cons hv1 (.cons hv8 .nil)) fun v9 s9 hv9 H9 => ev_ok 1 H9 (p := .int 32) rfl fun v10 s10 hv10 H10 => ?_
    obtain ⟨t9, rfl⟩ := hv9
    obtain ⟨t10, rfl⟩ := hv10
    obtain ⟨j, hj, ej⟩ := lev_in t c
    refine (bin_ok (op := .Div) (a := .int (lev t c)) (b := .int 32) (c := .flt (chan t c)) (if_pos ⟨by decide, by rw [ej]; exact quot_ok hj⟩)).ok _ _ _ _ _ _ _ _ H10.tk fun t11 tk11 q11 => h _ _ (.mk (.flt _) t11) (H10.toks tk11 q11)
end
end Mine
end
section
open PySem PySem.W PyProof.Rows PySem.Calls PySem.Flt
set_option maxHeartbeats 1000000
namespace Mine
/-- a comprehension's loop, once its iterator stands -/
structure CompGo (C : Cx) (ks : Kinds) (lm : Vars) (ks' : Kinds) (lm' : Vars) (x : Str) (elt : Expr) (ifs : List Expr) (Fin : Addr → List PV → Led → Prop) (it : Value) (s : Shared) : Prop where
  ex : ∃ (i : Addr) (IA : Nat → AO) (l₂ : Led) (items : List PV) (side : Led → Prop) (J : Nat → List PV → Led → Prop), it = .ref i ∧ Walk i items IA side ∧ St C ks lm ((i, IA 0) :: l₂) s ∧ J 0 [] l₂ ∧ (∀ k ys l, J k ys l → side l ∧ ys.length ≤ k) ∧ items.length ≤ 1000 ∧
    (∀ C' acc k p ys l s, C'.A = C.A → items[k]? = some p → J k ys l → St C' ks' ((x, p) :: lm') ((acc, aList ys) :: (i, IA (k + 1)) :: l) s → C'.X (tests C' ifs) (fun b s' =>
        if b = true then C'.X (eval elt C'.env) (fun v s'' => ∃ q l', VS v q ∧ J (k + 1) (ys ++ [q]) l' ∧ St C' ks' ((x, p) :: lm') ((acc, aList ys) :: (i, IA (k + 1)) :: l') s'') s'
        else J (k + 1) ys l ∧ St C' ks' ((x, p) :: lm') ((acc, aList ys) :: (i, IA (k + 1)) :: l) s') s) ∧
    ∀ a ys l, J items.length ys l → Fin a ys l
section
variable {C : Cx} {ks : Kinds} {lm : Vars} {l : Led} {s : Shared}
theorem list_compG {x : Str} {xp pos : Pos} {elt iter : Expr} {ifs : List Expr} {scope : Scope} {Q : Value → Shared → Prop} (ks' : Kinds) (lm' : Vars) (V : Env0 C.env ks) (hh : C.A.handled = none)
    (hc : cchk scope ks ks' = true) (hlm : ∀ x p, lm'.lookup x = some p → lm.lookup x = some p ∧ ks'.lookup x = some .cell) (hk : ks'.lookup x = some .local) (hx : lm'.lookup x = none)
    (hi : C.X (eval iter C.env) (fun v s₁ => C.X (pyIter v) (CompGo C ks lm ks' lm' x elt ifs (fun a ys l => ∀ s', St C ks lm ((a, aList ys) :: l) s' → Q (.ref a) s')) s₁) s)
    (hsi : ∀ x, foldedSetIterable iter C.env x = pure x := by intro _; rfl) : C.X (eval (.ListComp elt [⟨.Name x xp, iter, ifs, 0⟩] scope pos) C.env) Q s := by
  obtain ⟨cl, h1, h2, h3⟩ := comp_closure hc V
  have hc' := hc
  unfold cchk at hc'
  simp only [Bool.and_eq_true, List.all_eq_true, Bool.or_eq_true, Bool.not_eq_true', beq_iff_eq, beq_eq_false_iff_ne] at hc'
  rw [show eval (.ListComp elt [⟨.Name x xp, iter, ifs, 0⟩] scope pos) C.env = _ from eval_ListComp ..]
  refine wpAny_comprehension_free (use := none) rfl hsi h1 hc'.1.1 (fun y hy hl => (hc'.1.2 y hy).1.2.resolve_left fun w => w hl) (wpAny_mono hi (fun v s₁ h₁ => wpAny_mono h₁ (fun it s₂ h₂ => ?_) fun _ _ e => e) fun _ _ e => e)
  obtain ⟨i, IA, l₂, items, side, J, rfl, W, H2, hJ, hs, hz, turn, fin⟩ := h₂
  refine comp_frame hc hlm H2 h2 h3 fun C' acc s' hA H' back => ?_
  refine loop_comp W (hA ▸ hh) J hs hz hk hx H' hJ (fun k p ys l s e hj Hs => turn C' acc k p ys l s hA e hj Hs) fun ys l s hj Hs => ?_
  obtain ⟨m, hm, hb⟩ := (back _ _ _ Hs).frm
  exact ⟨m, hm, fun h' hs' => fin _ _ _ hj _ (hb h' hs')⟩
theorem do_compG {x y : Str} {xp py pos sp : Pos} {elt iter : Expr} {ifs : List Expr} {scope : Scope} {rs : List Stmt} {Q : Flow → Shared → Prop} (ks' : Kinds) (lm' : Vars) (V : Env0 C.env ks) (hh : C.A.handled = none)
    (hc : cchk scope ks ks' = true) (hlm : ∀ x p, lm'.lookup x = some p → lm.lookup x = some p ∧ ks'.lookup x = some .cell)
    (hy : ks.lookup y = some .local) (hln : (py.line == pos.line) = true) (hn : (scope.names.any fun q => q.1 == y && (q.2 == .local || q.2 == .cell)) = false) (hk : ks'.lookup x = some .local) (hx : lm'.lookup x = none)
    (hi : C.X (eval iter C.env) (fun v s₁ => C.X (pyIter v) (CompGo C ks lm ks' lm' x elt ifs (fun a ys l => ∀ s', St C ks ((y, .ref a) :: lm) ((a, aList ys) :: l) s' → C.B rs Q s')) s₁) s)
    (hsi : ∀ x, foldedSetIterable iter C.env x = pure x := by intro _; rfl) : C.B (.Assign [.Name y py] (.ListComp elt [⟨.Name x xp, iter, ifs, 0⟩] scope pos) sp :: rs) Q s := by
  obtain ⟨cl, h1, h2, h3⟩ := comp_closure hc V
  have hc' := hc
  unfold cchk at hc'
  simp only [Bool.and_eq_true, List.all_eq_true, Bool.or_eq_true, Bool.not_eq_true', beq_iff_eq, beq_eq_false_iff_ne] at hc'
  refine wpAny_execs_cons ?_
  show C.X (exec _ C.env) _ s
  rw [exec_Assign_Name_used _ _ _ _ (swaps_comp V hy hln hn)]
  refine wpAny_bind (wpAny_standAt (wpAny_bind ?_))
  show wpAny _ C.A (do let _ ← comprehension (.ListComp elt [⟨.Name x xp, iter, ifs, 0⟩] scope pos) scope C.env _ (newList []) false (eval iter C.env) (some (assign (.Name y py) C.env))) _ _ s
  refine wpAny_bind (wpAny_mono (wpAny_comprehension_free (use := some (assign (.Name y py) C.env)) (Q := fun _ s' => C.B rs Q s') rfl hsi h1 hc'.1.1 (fun y hy hl => (hc'.1.2 y hy).1.2.resolve_left fun w => w hl) (wpAny_mono hi (fun v s₁ h₁ => wpAny_mono h₁ (fun it s₂ h₂ => ?_) fun _ _ e => e) fun _ _ e => e)) (fun _ s' hq => wpAny_pure (wpAny_pure hq)) fun _ _ e => e)
  obtain ⟨i, IA, l₂, items, side, J, rfl, W, H2, hJ, hs, hz, turn, fin⟩ := h₂
  refine comp_frame hc hlm H2 h2 h3 fun C' acc s' hA H' back => ?_
  refine loop_comp W (hA ▸ hh) J hs hz hk hx H' hJ (fun k p ys l s e hj Hs => turn C' acc k p ys l s hA e hj Hs) fun ys l s hj Hs => ?_
  refine wpAny_assign_Name (storeL (back _ _ _ Hs) hy (.raw _) fun s₅ H₅ => ?_)
  obtain ⟨m, hm, hb⟩ := H₅.frm
  exact ⟨m, hm, fun h' hs' => fin _ _ _ hj _ (hb h' hs')⟩
theorem one_lookup {x y : Str} {p q : PV} (h : List.lookup x [(y, p)] = some q) : x = y ∧ p = q := by
  rw [List.lookup_cons] at h
  split at h
  · rename_i e; exact ⟨eq_of_beq e, Option.some.inj h⟩
  · cases h
theorem three_items {α : Type} {x y z p : α} {k : Nat} (h : [x, y, z][k]? = some p) : (k = 0 ∧ p = x) ∨ (k = 1 ∧ p = y) ∨ (k = 2 ∧ p = z) := by
  rcases k with _ | _ | _ | k
  · cases h; exact .inl ⟨rfl, rfl⟩
  · cases h; exact .inr (.inl ⟨rfl, rfl⟩)
  · cases h; exact .inr (.inr ⟨rfl, rfl⟩)
  · simp at h
/-! painted -/
def psums : Int → List Int → List Int
  | _, [] => []
  | t, n :: r => (t + n) :: psums (t + n) r
theorem psums_snoc (t : Int) (a : List Int) (n : Int) : psums t (a ++ [n]) = psums t a ++ [t + a.sum + n] := by
  induction a generalizing t with
  | nil => simp [psums]
  | cons m r ih => simp only [List.cons_append, psums, ih, List.sum_cons]; rw [Int.add_assoc t m]
noncomputable def colL (ts : List (Addr × Int)) : Led := ts.reverse.map fun t => (t.1, aTup (col (paint t.2)))
def colR (ts : List (Addr × Int)) : List PV := ts.map fun t => .ref t.1
theorem way_ev {p1 p2 p3 p4 p5 p6 p7 : Pos} {n1 n2 : Nat} {T c : Int} {Q : Value → Shared → Prop} (H : St C ks lm l s) (hT : T.natAbs ≤ 1000000) (h1 : nm ks lm "total" = some (.int T)) (h2 : nm ks lm "corner" = some (.int c)) (h : ∀ v s', VS v (.int (Int.fmod (3 * T - c) 192)) → St C ks lm l s' → Q v s') :
    C.X (eval (.BinOp (.BinOp (.BinOp (.Constant (.int 3) n1 p1) .Mult (.Name "total" p2) p3) .Sub (.Name "corner" p4) p5) .Mod (.Constant (.int 192) n2 p6) p7) C.env) Q s := by
  refine ev_ok 4 H (p := .int (Int.fmod (3 * T - c) 192)) ?_ h
  show ((((some (PV.int 3)).bind fun a => (nm ks lm "total").bind fun b => bin .Mult a b).bind fun a => (nm ks lm "corner").bind fun b => bin .Sub a b).bind fun a => (some (PV.int 192)).bind fun b => bin .Mod a b) = _
  rw [h1, h2]
  show ((if (3 : Int).natAbs < 2 ^ 62 ∧ T.natAbs < 2 ^ 62 then some (PV.int (3 * T)) else none).bind _).bind _ = _
  rw [if_pos ⟨by decide, by omega⟩]
  rfl
noncomputable def k170 : Kinds := [("letters", .local), ("total", .cell), ("colours", .local), ("letter", .local), ("ways", .local), ("tuple", .globalImplicit)]
theorem painted_ok {a : Addr} {ns : List Int} {vs : List Value} {Q : Value → Shared → Prop} (H : St C ks lm l s) (hA : Ok C.A 3) (hv : VSs vs [.ref a]) (hl : Has a (aList (ns.map .int)) l) (hz : ns.length ≤ 100) (hb : ∀ k, ((ns.take k).sum).natAbs ≤ 1000000)
    (h : ∀ b ts s', ts.map (·.2) = psums 0 ns → St C ks lm ((b, aList (colR ts)) :: (colL ts ++ l)) s' → Q (.ref b) s') : C.X (call (.ref 170) vs) Q s := by
  refine call_of (enterB 2 d170 k170 (fun n => by kernel_rfl) (by decide) H.base hA hv rfl fun C' s₁ e1 e2 h0 hg hA' he H₁ => ?_)
  have hf : C'.env.func.isSome = true := by rw [he]; rfl
  refine do_assign 1 H₁ (p := .int 0) rfl (fun s₂ H₂ => ?_) (.inr ⟨rfl, hf⟩)
  refine seq_assign (List_ev 1 H₂ (ps := []) rfl (fun b s₃ H₃ => storeL H₃ rfl (.raw _) fun s₄ H₄ => ?_) (show 0 ≤ 1000 by decide))
  refine seq_for (Name_ok H₄ (p := .ref a) rfl fun v hv => iter_list H₄ hv (.tail _ hl) fun it s₅ H₅ => ?_)
  refine loop_for (walk_list it a (ns.map .int)) hA'.h (fun k lm' l' => ∃ ts : List (Addr × Int), ts.map (·.2) = psums 0 (ns.take k) ∧ AllIn lm' [("colours", .ref b), ("total", .int (ns.take k).sum)] ∧ l' = (b, aList (colR ts)) :: (colL ts ++ l)) (fun k lm' l' hJ => ?_) (.inl rfl) H₅ ⟨[], rfl, ⟨rfl, rfl, trivial⟩, rfl⟩ (fun k p lm' l' s₆ hp hJ H₆ => ?_) fun lm' l' s₆ hJ H₆ => ?_
  · obtain ⟨ts, -, -, rfl⟩ := hJ
    exact .tail _ (List.mem_append_right _ hl)
  · obtain ⟨ts, e1, g, rfl⟩ := hJ
    rw [List.getElem?_map] at hp
    obtain ⟨n, hn, rfl⟩ := Option.map_eq_some_iff.mp hp
    have ht : ns.take (k + 1) = ns.take k ++ [n] := by rw [List.take_add_one, hn]; rfl
    have hsum : (ns.take (k + 1)).sum = (ns.take k).sum + n := by rw [ht, List.sum_append]; simp
    have hbk := hb (k + 1)
    have H₇ := H₆.norm (lm' := [("letter", .int n), ("colours", .ref b), ("total", .int (ns.take k).sum)]) ⟨rfl, g.1, g.2.1, trivial⟩
    refine do_aug 1 H₇ (a := .int (ns.take k).sum) (b := .int n) (c := .int ((ns.take k).sum + n)) rfl rfl rfl (fun s₈ H₈ => ?_) (.inr ⟨rfl, hf⟩)
    rw [← hsum] at H₈
    generalize hT : (ns.take (k + 1)).sum = T at H₈ hbk
    refine do_compG [("corner", .local), ("total", .cell)] [("total", .int T)] H₈.V hA'.h (by kernel_rfl) ?_ rfl (by decide) (by kernel_rfl) rfl rfl (Tuple_ev (ps := [.int 0, .int 64, .int 128]) 1 H₈ rfl (fun tp s₉ H₉ => iter_tuple (a := tp) H₉ (.raw _) (.head _) fun i s₁₀ H₁₀ => ⟨i, aTIter tp, _, _, Has tp (aTup [.int 0, .int 64, .int 128]), fun k' ys l' => l' = (tp, aTup [.int 0, .int 64, .int 128]) :: (it, aLIter a (k + 1)) :: (b, aList (colR ts)) :: (colL ts ++ l) ∧ ys = ([0, 64, 128].take k').map fun c => PV.int (Int.fmod (3 * T - c) 192), rfl, walk_tuple i tp _, H₁₀, ⟨rfl, rfl⟩, ?_, by decide, ?_, ?_⟩) (by decide))
    · intro x p hx
      obtain ⟨rfl, rfl⟩ := one_lookup hx
      exact ⟨rfl, rfl⟩
    · rintro k' ys l' ⟨rfl, rfl⟩
      exact ⟨.head _, by rw [List.length_map, List.length_take]; omega⟩
    · rintro C₂ acc k' p ys l' s₁₁ hA₂ hp ⟨rfl, rfl⟩ H₁₁
      refine tests_nil ?_
      rw [if_pos rfl]
      rcases three_items hp with ⟨rfl, rfl⟩ | ⟨rfl, rfl⟩ | ⟨rfl, rfl⟩
      · exact way_ev H₁₁ hbk rfl rfl fun v s₁₂ hv H₁₂ => ⟨_, _, hv, ⟨rfl, rfl⟩, H₁₂⟩
      · exact way_ev H₁₁ hbk rfl rfl fun v s₁₂ hv H₁₂ => ⟨_, _, hv, ⟨rfl, rfl⟩, H₁₂⟩
      · exact way_ev H₁₁ hbk rfl rfl fun v s₁₂ hv H₁₂ => ⟨_, _, hv, ⟨rfl, rfl⟩, H₁₂⟩
    · rintro wa ys l' ⟨rfl, rfl⟩ s₁₁ H₁₁
      have H₁₂ : St C' k170 [("ways", .ref wa), ("total", .int T), ("letter", .int n), ("colours", .ref b)] ((wa, aList [.int (Int.fmod (3 * T - 0) 192), .int (Int.fmod (3 * T - 64) 192), .int (Int.fmod (3 * T - 128) 192)]) :: (tp, aTup [.int 0, .int 64, .int 128]) :: (it, aLIter a (k + 1)) :: (b, aList (colR ts)) :: (colL ts ++ l)) s₁₁ := H₁₁.norm ⟨rfl, rfl, rfl, rfl, trivial⟩
      refine do_app (i := 3) H₁₂ rfl rfl (Call_ (Name_ok H₁₂ (p := .raw (.type "tuple")) rfl fun v hv => ?_))
      obtain ⟨_, rfl⟩ := hv
      refine PyProof.Rows.callWith_type1 (wpAny_items_cons ?_ rfl) rfl rfl
      refine list_compG [("way", .local), ("min", .globalImplicit), ("max", .globalImplicit)] [] H₁₂.V hA'.h (by kernel_rfl) (fun _ _ h => nomatch h) rfl rfl (Name_ok H₁₂ (p := .ref wa) rfl fun v hv => iter_list H₁₂ hv (.head _) fun i2 s₁₃ H₁₃ => ⟨i2, aLIter wa, _, _, _, fun k' ys l' => l' = _ ∧ ys = ([0, 64, 128].take k').map fun c => PV.flt (chan T c), rfl, walk_list i2 wa [.int (Int.fmod (3 * T - 0) 192), .int (Int.fmod (3 * T - 64) 192), .int (Int.fmod (3 * T - 128) 192)], H₁₃, ⟨rfl, rfl⟩, ?_, show 3 ≤ 1000 by decide, ?_, ?_⟩)
      · rintro k' ys l' ⟨rfl, rfl⟩
        exact ⟨.head _, by rw [List.length_map, List.length_take]; omega⟩
      · rintro C₂ acc k' p ys l' s₁₄ hA₂ hp ⟨rfl, rfl⟩ H₁₄
        refine tests_nil ?_
        rw [if_pos rfl]
        have hh2 : C₂.A.handled = none := by rw [hA₂]; exact hA'.h
        rcases three_items hp with ⟨rfl, rfl⟩ | ⟨rfl, rfl⟩ | ⟨rfl, rfl⟩
        · exact lev_ev (t := T) (c := 0) H₁₄ hh2 rfl rfl rfl fun v s₁₅ hv H₁₅ => ⟨_, _, hv, ⟨rfl, rfl⟩, H₁₅⟩
        · exact lev_ev (t := T) (c := 64) H₁₄ hh2 rfl rfl rfl fun v s₁₅ hv H₁₅ => ⟨_, _, hv, ⟨rfl, rfl⟩, H₁₅⟩
        · exact lev_ev (t := T) (c := 128) H₁₄ hh2 rfl rfl rfl fun v s₁₅ hv H₁₅ => ⟨_, _, hv, ⟨rfl, rfl⟩, H₁₅⟩
      · rintro a2 ys l' ⟨rfl, rfl⟩ s₁₄ H₁₄
        refine wpAny_items_nil (tuple_ok H₁₄ (a := a2) (.raw _) (.head _) (fun _ h => aList.ls h) (show 3 ≤ 1000000 by decide) fun t s₁₅ H₁₅ => ?_)
        have hlen : ts.length ≤ 100 := by
          have := congrArg List.length e1
          rw [List.length_map] at this
          have e : ∀ (t : Int) (l : List Int), (psums t l).length = l.length := fun t l => by
            induction l generalizing t with
            | nil => rfl
            | cons n r ih => simp [psums, ih]
          rw [e, List.length_take] at this
          omega
        refine ⟨5, _, _, colR ts, .ref t, .raw _, H₁₅, rfl, by unfold colR; rw [List.length_map]; omega, fun s₁₆ H₁₆ => seq_nil ⟨[("colours", .ref b), ("total", .int T)], (b, aList (colR (ts ++ [(t, T)]))) :: (colL (ts ++ [(t, T)]) ++ l), ⟨ts ++ [(t, T)], ?_, ⟨rfl, rfl, trivial⟩, rfl⟩, ?_⟩⟩
        · rw [List.map_append, e1, ht, psums_snoc, Int.zero_add]
          show _ ++ [T] = _
          rw [← hsum, hT]
        · have H₁₇ : St C' k170 [("ways", .ref wa), ("total", .int T), ("letter", .int n), ("colours", .ref b)] ((t, aTup (col (paint T))) :: (it, aLIter a (k + 1)) :: (b, aList (colR ts ++ [.ref t])) :: (colL ts ++ l)) s₁₆ :=
            H₁₆.sub (.cons_cons _ (.cons _ (.cons _ (.cons _ (.refl _)))))
          have er : colR (ts ++ [(t, T)]) = colR ts ++ [.ref t] := by unfold colR; rw [List.map_append]; rfl
          have el : colL (ts ++ [(t, T)]) = (t, aTup (col (paint T))) :: colL ts := by unfold colL; rw [List.reverse_append]; rfl
          rw [er, el]
          exact (H₁₇.perm rot3).norm ⟨rfl, rfl, trivial⟩
  · obtain ⟨ts, e1, g, rfl⟩ := hJ
    rw [List.length_map, List.take_length] at e1
    refine do_return 1 H₆ g.1 fun v s₇ hv H₇ => ?_
    obtain ⟨_, rfl⟩ := hv
    exact h b ts s₇ e1 (St.back H hg h0 H₇)
end
end Mine
end
section
open PySem PySem.W PyProof.Rows PySem.Calls PySem.Flt
set_option maxHeartbeats 1000000
namespace Mine
/-! the wheel of 64 colours -/
theorem hues : ((List.range 64).all fun a => decide (hueF (chan a 0) (chan a 64) (chan a 128) = some (quot a 64))) = true := by decide +kernel
theorem wheel : ((List.range 128).all fun a => decide (hsvF (quot a 64) = some (paint a))) = true := by decide +kernel
noncomputable def addRow (k : Nat) : Bool := (List.range 8).all fun a => (List.range 64).all fun b => decide (Float64.add (quot ((8 * k + a : Nat) : Int) 64) (quot (b : Int) 64) = quot ((8 * k + a + b : Nat) : Int) 64)
theorem add0 : addRow 0 = true := by decide +kernel
theorem add1 : addRow 1 = true := by decide +kernel
theorem add2 : addRow 2 = true := by decide +kernel
theorem add3 : addRow 3 = true := by decide +kernel
theorem add4 : addRow 4 = true := by decide +kernel
theorem add5 : addRow 5 = true := by decide +kernel
theorem add6 : addRow 6 = true := by decide +kernel
theorem add7 : addRow 7 = true := by decide +kernel
theorem add_row {k : Nat} (h : k < 8) : addRow k = true := by
  match k, h with
  | 0, _ => exact add0
  | 1, _ => exact add1
  | 2, _ => exact add2
  | 3, _ => exact add3
  | 4, _ => exact add4
  | 5, _ => exact add5
  | 6, _ => exact add6
  | 7, _ => exact add7
theorem add_ok {a b : Nat} (ha : a < 64) (hb : b < 64) : Float64.add (quot (a : Int) 64) (quot (b : Int) 64) = quot ((a + b : Nat) : Int) 64 := by
  have h := add_row (k := a / 8) (by omega)
  unfold addRow at h
  have h1 := List.all_eq_true.mp h (a % 8) (List.mem_range.mpr (Nat.mod_lt _ (by decide)))
  have h2 := of_decide_eq_true (List.all_eq_true.mp h1 b (List.mem_range.mpr hb))
  rw [show 8 * (a / 8) + a % 8 = a by omega] at h2
  exact h2
theorem lev_mod (t c : Int) : lev t c = lev (Int.fmod t 64) c := by
  have e : Int.fmod (3 * t - c) 192 = Int.fmod (3 * Int.fmod t 64 - c) 192 := by
    rw [Int.fmod_eq_emod_of_nonneg _ (by decide), Int.fmod_eq_emod_of_nonneg _ (by decide), Int.fmod_eq_emod_of_nonneg _ (by decide)]
    omega
  unfold lev
  rw [e]
theorem paint_mod (t : Int) : paint t = paint (Int.fmod t 64) := by
  unfold paint chan
  rw [lev_mod t 0, lev_mod t 64, lev_mod t 128]
theorem paint_nat (t : Int) : ∃ j : Nat, j < 64 ∧ Int.fmod t 64 = j ∧ paint t = paint j := by
  obtain ⟨j, hj, e⟩ := fmod_in t (n := 64) (by decide)
  have e : Int.fmod t 64 = (j : Int) := e
  exact ⟨j, hj, e, by rw [paint_mod, e]⟩
theorem hue_ok {j : Nat} (h : j < 64) : hueF (paint j).1 (paint j).2.1 (paint j).2.2 = some (quot j 64) := of_decide_eq_true (List.all_eq_true.mp hues j (List.mem_range.mpr h))
theorem wheel_ok {j : Nat} (h : j < 128) : hsvF (quot j 64) = some (paint j) := of_decide_eq_true (List.all_eq_true.mp wheel j (List.mem_range.mpr h))
theorem turn_paint (a b : Int) : ∃ h1 h2, hueF (paint a).1 (paint a).2.1 (paint a).2.2 = some h1 ∧ hueF (paint b).1 (paint b).2.1 (paint b).2.2 = some h2 ∧ hsvF (Float64.add h1 h2) = some (paint (a + b)) := by
  obtain ⟨i, hi, e1, p1⟩ := paint_nat a
  obtain ⟨j, hj, e2, p2⟩ := paint_nat b
  refine ⟨quot i 64, quot j 64, by rw [p1]; exact hue_ok hi, by rw [p2]; exact hue_ok hj, ?_⟩
  rw [add_ok hi hj, wheel_ok (by omega)]
  congr 1
  rw [paint_mod (a + b), paint_mod ((i + j : Nat) : Int)]
  congr 1
  rw [Int.fmod_eq_emod_of_nonneg _ (by decide)] at e1 e2 ⊢
  rw [Int.fmod_eq_emod_of_nonneg _ (by decide)]
  omega
theorem start_ok : hsvF 0 = some (paint 0) := by decide +kernel
theorem finite64 : ((List.range 64).all fun j => !Float64.isInf (quot (j : Int) 64)) = true := by decide +kernel
theorem quot64 {j : Nat} (h : j < 64) : ¬ Float64.isInf (quot (j : Int) 64) = true := by
  have := List.all_eq_true.mp finite64 j (List.mem_range.mpr h)
  simpa using this
end Mine
end
section
open PySem PySem.W PyProof.Rows PySem.Calls PySem.Flt
set_option maxHeartbeats 1000000
namespace Mine
theorem d165 : Def 165 ["octets"] := ⟨fun P => by kernel_rfl, fun P => by kernel_rfl, by kernel_rfl, fun a => by kernel_rfl, by kernel_rfl, by kernel_rfl, by kernel_rfl, by kernel_rfl⟩
/-! colours and strips in a pool that only grows -/
def CR (m : Led) (c : Addr × Int) : Prop := Has c.1 (aTup (col (paint c.2))) m
structure RowIn (m : Led) (a : Addr) (cs : List (Addr × Int)) : Prop where
  has : Has a (aList (colR cs)) m
  col : ∀ c ∈ cs, CR m c
def Sub (m m' : Led) : Prop := ∀ e ∈ m, e ∈ m'
theorem Sub.refl (m : Led) : Sub m m := fun _ h => h
theorem Sub.cons (m : Led) (e : Addr × AO) : Sub m (e :: m) := fun _ h => .tail _ h
theorem Sub.trans {a b c : Led} (h : Sub a b) (k : Sub b c) : Sub a c := fun e he => k e (h e he)
theorem CR.mono {m m' : Led} {c : Addr × Int} (h : CR m c) (k : Sub m m') : CR m' c := k _ h
theorem RowIn.mono {m m' : Led} {a : Addr} {cs : List (Addr × Int)} (h : RowIn m a cs) (k : Sub m m') : RowIn m' a cs := ⟨k _ h.has, fun c hc => (h.col c hc).mono k⟩
def lastI (l : List Int) : Int := l.getLast?.getD 0
def headI (l : List Int) : Int := l.head?.getD 0
theorem last_at {cs : List (Addr × Int)} (h : cs ≠ []) : ∃ c, (colR cs)[cs.length - 1]? = some (.ref c.1) ∧ c ∈ cs ∧ c.2 = lastI (cs.map (·.2)) ∧ seqIndex? (-1) (colR cs).length = some (cs.length - 1) := by
  have hl : 0 < cs.length := List.length_pos_iff.mpr h
  have hz : (colR cs).length = cs.length := by unfold colR; rw [List.length_map]
  refine ⟨cs.getLast h, ?_, List.getLast_mem h, ?_, ?_⟩
  · unfold colR
    rw [List.getElem?_map, ← List.getLast?_eq_getElem?, List.getLast?_eq_some_getLast h]
    rfl
  · unfold lastI
    rw [List.getLast?_map, List.getLast?_eq_some_getLast h]
    rfl
  · rw [hz]
    have := seqIndex_neg (k := -1) (n := cs.length) (by decide) (by omega)
    rw [this]
    congr 1
    omega
theorem head_at {cs : List (Addr × Int)} (h : cs ≠ []) : ∃ c, (colR cs)[0]? = some (.ref c.1) ∧ c ∈ cs ∧ c.2 = headI (cs.map (·.2)) ∧ seqIndex? 0 (colR cs).length = some 0 := by
  cases cs with
  | nil => exact absurd rfl h
  | cons c r =>
    exact ⟨c, rfl, .head _, rfl, seqI (i := 0) (Nat.succ_pos _)⟩
section
variable {C : Cx} {ks : Kinds} {lm : Vars} {l L : Led} {s : Shared}
/-- `_law_turned(e1, e2)` -/
theorem turn_ev {f : Str} {p1 pos : Pos} {e1 e2 : Expr} {Q : Value → Shared → Prop} (H : St C ks lm l s) (hA : Ok C.A 4) (hf : nm ks lm f = some (.ref 160))
    (h : C.X (eval e1 C.env) (fun v1 s1 => C.X (eval e2 C.env) (fun v2 s2 => ∃ lm' L' a b, St C ks lm' L' s2 ∧ VS v1 (.ref a.1) ∧ VS v2 (.ref b.1) ∧ CR L' a ∧ CR L' b ∧ ∀ t s3, St C ks lm' ((t, aTup (col (paint (a.2 + b.2)))) :: L') s3 → Q (.ref t) s3) s1) s)
    (he1 : starEach [e1, e2] C.env = (false, eval e1 C.env) :: starEach [e2] C.env := by rfl) (he2 : starEach [e2] C.env = (false, eval e2 C.env) :: starEach [] C.env := by rfl) : C.X (eval (.Call (.Name f p1) [e1, e2] [] pos) C.env) Q s := by
  refine Call_ (Name_ok H hf fun v hv => ?_)
  obtain ⟨_, rfl⟩ := hv
  refine callWith_K (h₀ := C.g) C.G.X (Bool.and_eq_true_iff.mp (d160.code _)).2 (wpAny_items_cons (wpAny_mono h (fun v1 s1 h1 => wpAny_items_cons (wpAny_mono h1 (fun v2 s2 h2 => wpAny_items_nil ?_) fun _ _ z => z) he2) fun _ _ z => z) he1) he1 (by rw [he2]; rfl)
  obtain ⟨lm', L', a, b, H2, q1, q2, ca, cb, k⟩ := h2
  obtain ⟨h1, h2, t1, t2, t3⟩ := turn_paint a.2 b.2
  exact ⟨C.G.X.keeps H2.keep, turned_ok H2 hA (.cons q1 (.cons q2 .nil)) ca cb t1 t2 t3 k⟩
theorem term_ev {x f : Str} {p1 p2 p3 : Pos} {n : Int} {Q : Value → Shared → Prop} (H : St C ks lm l s) (hA : Ok C.A 1) (hf : nm ks lm f = some (.ref 24)) (hx : nm ks lm x = some (.int n)) (h : ∀ s', St C ks lm l s' → Q (.bool (decide (n < 256))) s')
    (hp : (backTo p3 (starEach [] C.env)).any (·.1) = false := by rfl) : C.X (eval (.Call (.Name f p1) [.Name x p2] [] p3) C.env) Q s :=
  Call_fn 1 d24 H hf (ps := [.int n]) (by show (nm ks lm x).bind _ = _; rw [hx]; rfl) (fun vs s' hv H' => by
    cases hv with
    | cons h1 hv =>
      cases hv
      exact t24 H' hA h1 h) hp
theorem nont_ev {x f : Str} {p1 p2 p3 : Pos} {n : Int} {Q : Value → Shared → Prop} (H : St C ks lm l s) (hA : Ok C.A 1) (hf : nm ks lm f = some (.ref 31)) (hx : nm ks lm x = some (.int n)) (h : ∀ s', St C ks lm l s' → Q (.bool (decide (n ≥ 256))) s')
    (hp : (backTo p3 (starEach [] C.env)).any (·.1) = false := by rfl) : C.X (eval (.Call (.Name f p1) [.Name x p2] [] p3) C.env) Q s :=
  Call_fn 1 d31 H hf (ps := [.int n]) (by show (nm ks lm x).bind _ = _; rw [hx]; rfl) (fun vs s' hv H' => by
    cases hv with
    | cons h1 hv =>
      cases hv
      exact t31 H' hA h1 h) hp
theorem eof_ev {x f : Str} {p1 p2 p3 : Pos} {n : Int} {Q : Value → Shared → Prop} (H : St C ks lm l s) (hA : Ok C.A 1) (hf : nm ks lm f = some (.ref 38)) (hx : nm ks lm x = some (.int n)) (h : ∀ s', St C ks lm l s' → Q (.bool (decide (n = 0))) s')
    (hp : (backTo p3 (starEach [] C.env)).any (·.1) = false := by rfl) : C.X (eval (.Call (.Name f p1) [.Name x p2] [] p3) C.env) Q s :=
  Call_fn 1 d38 H hf (ps := [.int n]) (by show (nm ks lm x).bind _ = _; rw [hx]; rfl) (fun vs s' hv H' => by
    cases hv with
    | cons h1 hv =>
      cases hv
      exact t38 H' hA h1 h) hp
/-- `x[-1]` and `x[0]` of a strip -/
theorem last_ev {x : Str} {p1 p2 p3 p4 : Pos} {k : Nat} {a : Addr} {cs : List (Addr × Int)} {Q : Value → Shared → Prop} (H : St C ks lm l s) (hx : nm ks lm x = some (.ref a)) (hr : RowIn l a cs) (hne : cs ≠ []) (hz : cs.length ≤ 1000)
    (h : ∀ c v s', VS v (.ref c.1) → CR l c → c.2 = lastI (cs.map (·.2)) → St C ks lm l s' → Q v s') : C.X (eval (.Subscript (.Name x p1) (.UnaryOp .USub (.Constant (.int 1) k p2) p3) p4) C.env) Q s := by
  obtain ⟨c, h1, h2, h3, h4⟩ := last_at hne
  exact SubL 2 H hx hr.has rfl h4 h1 (fun v s' hv H' => h c v s' hv (hr.col c h2) h3 H') (by unfold colR; rw [List.length_map]; omega)
theorem first_ev {x : Str} {p1 p2 p4 : Pos} {k : Nat} {a : Addr} {cs : List (Addr × Int)} {Q : Value → Shared → Prop} (H : St C ks lm l s) (hx : nm ks lm x = some (.ref a)) (hr : RowIn l a cs) (hne : cs ≠ []) (hz : cs.length ≤ 1000)
    (h : ∀ c v s', VS v (.ref c.1) → CR l c → c.2 = headI (cs.map (·.2)) → St C ks lm l s' → Q v s') : C.X (eval (.Subscript (.Name x p1) (.Constant (.int 0) k p2) p4) C.env) Q s := by
  obtain ⟨c, h1, h2, h3, h4⟩ := head_at hne
  exact SubL 2 H hx hr.has rfl h4 h1 (fun v s' hv H' => h c v s' hv (hr.col c h2) h3 H') (by unfold colR; rw [List.length_map]; omega)
/-- `before + [_law_turned(before[-1], y[0])]` -/
theorem ext_ev {x y f : Str} {p1 p2 p3 p4 p5 p6 p7 p8 p9 p10 p11 p12 : Pos} {k1 k2 : Nat} {a b : Addr} {cs ds : List (Addr × Int)} {Q : Value → Shared → Prop} (H : St C ks lm l s) (hA : Ok C.A 4) (hf : nm ks lm f = some (.ref 160)) (hx : nm ks lm x = some (.ref a)) (hy : nm ks lm y = some (.ref b)) (hr : RowIn l a cs) (hne : cs ≠ []) (hz : cs.length ≤ 900) (hr2 : RowIn l b ds) (hne2 : ds ≠ []) (hz2 : ds.length ≤ 900)
    (h : ∀ c t s', RowIn ((c, aList (colR (cs ++ [(t, lastI (cs.map (·.2)) + headI (ds.map (·.2)))]))) :: (t, aTup (col (paint (lastI (cs.map (·.2)) + headI (ds.map (·.2)))))) :: l) c (cs ++ [(t, lastI (cs.map (·.2)) + headI (ds.map (·.2)))]) → St C ks lm ((c, aList (colR (cs ++ [(t, lastI (cs.map (·.2)) + headI (ds.map (·.2)))]))) :: (t, aTup (col (paint (lastI (cs.map (·.2)) + headI (ds.map (·.2)))))) :: l) s' → Q (.ref c) s')
    (hs1 : starEach [.Call (.Name f p2) [.Subscript (.Name x p3) (.UnaryOp .USub (.Constant (.int 1) k1 p4) p5) p6, .Subscript (.Name y p7) (.Constant (.int 0) k2 p8) p9] [] p10] C.env = [(false, eval (.Call (.Name f p2) [.Subscript (.Name x p3) (.UnaryOp .USub (.Constant (.int 1) k1 p4) p5) p6, .Subscript (.Name y p7) (.Constant (.int 0) k2 p8) p9] [] p10) C.env)] := by rfl) :
    C.X (eval (.BinOp (.Name x p1) .Add (.List [.Call (.Name f p2) [.Subscript (.Name x p3) (.UnaryOp .USub (.Constant (.int 1) k1 p4) p5) p6, .Subscript (.Name y p7) (.Constant (.int 0) k2 p8) p9] [] p10] p11) p12) C.env) Q s := by
  refine wpAny_BinOp (Name_ok H hx fun v hv => List_ (wpAny_items_cons (turn_ev H hA hf (last_ev H hx hr hne (by omega) fun c1 v1 s1 q1 r1 e1 H1 => first_ev H1 hy hr2 hne2 (by omega) fun c2 v2 s2 q2 r2 e2 H2 => ⟨lm, l, c1, c2, H2, q1, q2, r1, r2, fun t s3 H3 => wpAny_items_nil (newList_ok (ps := [.ref t]) H3 (.cons (.raw _) .nil) (show 1 ≤ 1000 by decide) fun z s4 H4 => ?_)⟩)) hs1))
  obtain ⟨_, rfl⟩ := hv
  rw [e1, e2] at H4
  refine add_lists H4 (a := a) (b := z) (.tail _ (.tail _ hr.has)) (.head _) (by unfold colR; rw [List.length_map]; show _ + 1 ≤ _; omega) fun c s5 H5 => ?_
  have ec : colR (cs ++ [(t, lastI (cs.map (·.2)) + headI (ds.map (·.2)))]) = colR cs ++ [.ref t] := by unfold colR; rw [List.map_append]; rfl
  rw [← ec] at H5
  refine h c t s5 ⟨.head _, fun q hq => ?_⟩ (H5.sub (.cons_cons _ (.cons _ (.refl _))))
  rcases List.mem_append.mp hq with hq | hq
  · exact (hr.col q hq).mono fun e he => .tail _ (.tail _ he)
  · rw [List.mem_singleton.mp hq]; exact .tail _ (.head _)
end
end Mine
end
section
open PySem PySem.W PyProof.Rows PySem.Calls PySem.Flt
set_option maxHeartbeats 1000000
namespace Mine
/-! one number out of the octets -/
noncomputable def low1 (n p : Nat) : Bool := let o : Int := ((n % 64 : Nat) : Int) + 128 * ((p : Nat) : Int); decide (Builtin.bitAnd o 64 = 0) && decide (Builtin.bitAnd o 63 = ((n % 64 : Nat) : Int))
noncomputable def high1 (n p : Nat) : Bool := let o : Int := 64 + ((n / 64 : Nat) : Int) + 128 * ((p : Nat) : Int); decide (Builtin.bitAnd o 64 ≠ 0) && decide (Builtin.bitAnd o 63 = ((n / 64 : Nat) : Int))
theorem lows : ((List.range 64).all fun n => low1 n 0 && low1 n 1) = true := by decide +kernel
theorem highs : ((List.range 512).all fun n => n < 64 || (high1 n 0 && high1 n 1 && decide (Builtin.bitOr (((n / 64 : Nat) : Int) * 2 ^ 6) ((n % 64 : Nat) : Int) = (n : Int)))) = true := by decide +kernel
theorem low_ok (n p : Nat) : Builtin.bitAnd (((n % 64 : Nat) : Int) + 128 * ((p % 2 : Nat) : Int)) 64 = 0 ∧ Builtin.bitAnd (((n % 64 : Nat) : Int) + 128 * ((p % 2 : Nat) : Int)) 63 = ((n % 64 : Nat) : Int) := by
  have h := List.all_eq_true.mp lows (n % 64) (List.mem_range.mpr (Nat.mod_lt _ (by decide)))
  simp only [low1, Bool.and_eq_true, decide_eq_true_eq, Nat.mod_mod] at h
  rcases Nat.mod_two_eq_zero_or_one p with e | e <;> rw [e]
  · exact h.1
  · exact h.2
theorem high_ok {n : Nat} (p : Nat) (h1 : 64 ≤ n) (h2 : n < 512) : Builtin.bitAnd (64 + ((n / 64 : Nat) : Int) + 128 * ((p % 2 : Nat) : Int)) 64 ≠ 0 ∧ Builtin.bitAnd (64 + ((n / 64 : Nat) : Int) + 128 * ((p % 2 : Nat) : Int)) 63 = ((n / 64 : Nat) : Int) ∧ Builtin.bitOr (((n / 64 : Nat) : Int) * 2 ^ 6) ((n % 64 : Nat) : Int) = (n : Int) := by
  have h := List.all_eq_true.mp highs n (List.mem_range.mpr h2)
  simp only [high1, Bool.or_eq_true, Bool.and_eq_true, decide_eq_true_eq] at h
  have h := h.resolve_left (by omega)
  rcases Nat.mod_two_eq_zero_or_one p with e | e <;> rw [e]
  · exact ⟨h.1.1.1, h.1.1.2, h.2⟩
  · exact ⟨h.1.2.1, h.1.2.2, h.2⟩
theorem octs_at {N : List Nat} {k m : Nat} (hk : N[k]? = some m) (hm : m < 512) : ∃ o, ((octs 0 N).map PV.int)[(octs 0 (N.take k)).length]? = some (.int o) ∧
    ((Builtin.bitAnd o 64 = 0 ∧ (m : Int) = Builtin.bitAnd o 63 ∧ (octs 0 (N.take (k + 1))).length = (octs 0 (N.take k)).length + 1) ∨ (Builtin.bitAnd o 64 ≠ 0 ∧ ∃ o2, ((octs 0 N).map PV.int)[(octs 0 (N.take k)).length + 1]? = some (.int o2) ∧ Builtin.bitAnd o2 64 = 0 ∧ (Builtin.bitAnd o 63).natAbs < 2 ^ 64 ∧ (m : Int) = Builtin.bitOr (Builtin.bitAnd o 63 * 2 ^ 6) (Builtin.bitAnd o2 63) ∧ (octs 0 (N.take (k + 1))).length = (octs 0 (N.take k)).length + 2)) := by
  have hlt := (List.getElem?_eq_some_iff.mp hk).1
  have hd : N.drop k = m :: N.drop (k + 1) := by
    rw [List.drop_eq_getElem_cons hlt]
    rw [(List.getElem?_eq_some_iff.mp hk).2]
  have eN : octs 0 N = octs 0 (N.take k) ++ octs (octs 0 (N.take k)).length (m :: N.drop (k + 1)) := by
    conv => lhs; rw [← List.take_append_drop k N, octs_app, Nat.zero_add, hd]
  have et : N.take (k + 1) = N.take k ++ [m] := by rw [List.take_add_one, hk]; rfl
  have eT : octs 0 (N.take (k + 1)) = octs 0 (N.take k) ++ octs (octs 0 (N.take k)).length [m] := by rw [et, octs_app, Nat.zero_add]
  rw [eN, eT]
  generalize octs 0 (N.take k) = X
  generalize N.drop (k + 1) = R
  by_cases h63 : m > 63
  · simp only [octs, if_pos h63]
    obtain ⟨h1, h2, h3⟩ := high_ok X.length (n := m) (by omega) hm
    obtain ⟨h4, h5⟩ := low_ok m (X.length + 1)
    refine ⟨_, by rw [List.map_append, List.getElem?_append_right (by rw [List.length_map]; exact Nat.le_refl _), List.length_map, Nat.sub_self]; rfl, .inr ⟨h1, _, by rw [List.map_append, List.getElem?_append_right (by rw [List.length_map]; exact Nat.le_succ _), List.length_map, Nat.add_sub_cancel_left]; rfl, h4, ?_, ?_, by simp⟩⟩
    · rw [h2]; omega
    · rw [h2, h5, h3]
  · simp only [octs, if_neg h63]
    obtain ⟨h4, h5⟩ := low_ok m X.length
    refine ⟨_, by rw [List.map_append, List.getElem?_append_right (by rw [List.length_map]; exact Nat.le_refl _), List.length_map, Nat.sub_self]; rfl, .inl ⟨h4, ?_, by simp⟩⟩
    rw [h5, Nat.mod_eq_of_lt (by omega)]
/-! the plain unpacker: colours as ints -/
structure US where
  strips : List (List Int)
  picture : List Int
  before : List Int
  brush : Int
def uStrip (u : US) (n : Nat) : List Int := if n < 256 then [(n : Int)] else (u.strips[n - 256]?).getD (u.before ++ [lastI u.before + headI u.before])
def uStep (u : US) (n : Nat) : US := ⟨if u.before = [] then u.strips else u.strips ++ [u.before ++ [lastI u.before + headI (uStrip u n)]], u.picture ++ (uStrip u n).map (· + u.brush), uStrip u n, lastI (u.picture ++ (uStrip u n).map (· + u.brush))⟩
def u0 : US := ⟨[], [], [], 0⟩
def uAll (ns : List Nat) : US := ns.foldl uStep u0
theorem uAll_snoc (ns : List Nat) (n : Nat) : uAll (ns ++ [n]) = uStep (uAll ns) n := by unfold uAll; rw [List.foldl_append]; rfl
/-- numbers that a packer may write -/
structure Nums (ns : List Nat) : Prop where
  len : ns.length ≤ 12
  each : ∀ n ∈ ns, (0 < n ∧ n < 64) ∨ (256 ≤ n ∧ n < 512)
  first : ∀ n, ns[0]? = some n → n < 64
structure UIn (u : US) (k : Nat) : Prop where
  none : u.before = [] ↔ k = 0
  bef : u.before.length ≤ k
  rows : ∀ r ∈ u.strips, r ≠ [] ∧ r.length ≤ k + 1
  pic : u.picture.length ≤ k * 13
  cnt : u.strips.length ≤ k
theorem UIn.step {u : US} {k n : Nat} (h : UIn u k) (hk : k < 12) (hn : n < 256 ∨ k ≠ 0) : UIn (uStep u n) (k + 1) ∧ uStrip u n ≠ [] ∧ (uStrip u n).length ≤ k + 1 := by
  have hs : uStrip u n ≠ [] ∧ (uStrip u n).length ≤ k + 1 := by
    unfold uStrip
    split
    · exact ⟨List.cons_ne_nil _ _, by simp⟩
    · cases e : u.strips[n - 256]? with
      | some r => exact h.rows r (List.mem_of_getElem? e)
      | none =>
        refine ⟨by simp, ?_⟩
        show (u.before ++ [_]).length ≤ _
        have := h.bef
        rw [List.length_append, List.length_singleton]; omega
  refine ⟨⟨⟨fun e => absurd e hs.1, fun e => by omega⟩, hs.2, fun r hr => ?_, ?_, ?_⟩, hs⟩
  · have hr : r ∈ (if u.before = [] then u.strips else u.strips ++ [u.before ++ [lastI u.before + headI (uStrip u n)]]) := hr
    split at hr
    · exact ⟨(h.rows r hr).1, Nat.le_succ_of_le (h.rows r hr).2⟩
    · rcases List.mem_append.mp hr with hr | hr
      · exact ⟨(h.rows r hr).1, Nat.le_succ_of_le (h.rows r hr).2⟩
      · rw [List.mem_singleton.mp hr]
        have := h.bef
        exact ⟨by simp, by rw [List.length_append, List.length_singleton]; omega⟩
  · show (u.picture ++ (uStrip u n).map _).length ≤ _
    have := h.pic
    rw [List.length_append, List.length_map]; omega
  · show (if u.before = [] then u.strips else u.strips ++ [u.before ++ [lastI u.before + headI (uStrip u n)]]).length ≤ _
    have := h.cnt
    split
    · omega
    · rw [List.length_append, List.length_singleton]; omega
theorem uIn {ns : List Nat} (h : Nums ns) {k : Nat} (hk : k ≤ ns.length) : UIn (uAll (ns.take k)) k := by
  induction k with
  | zero => exact ⟨⟨fun _ => rfl, fun _ => rfl⟩, Nat.le_refl _, fun r hr => (nomatch hr), Nat.le_refl _, Nat.le_refl _⟩
  | succ k ih =>
    have hlt : k < ns.length := hk
    rw [List.take_add_one, List.getElem?_eq_getElem hlt]
    rw [show (some ns[k]).toList = [ns[k]] from rfl, uAll_snoc]
    refine ((ih (Nat.le_of_lt hlt)).step (by have := h.len; omega) ?_).1
    cases k with
    | zero => exact .inl (by have := h.first _ (List.getElem?_eq_getElem hlt); omega)
    | succ k => exact .inr (Nat.succ_ne_zero _)
section
variable {C : Cx} {ks : Kinds} {lm : Vars} {l : Led} {s : Shared}
/-- an if whose ways meet behind it, its test walked by hand -/
theorem seq_if_join {t : Expr} {body orelse bs : List Stmt} {pos : Pos} {Q : Flow → Shared → Prop} (J : Shared → Prop)
    (h : C.X (isTrue t C.env (eval t C.env)) (fun b s₂ => (b = true → C.B body (fun f s'' => f = .next ∧ J s'') s₂) ∧ (b = false → C.B orelse (fun f s'' => f = .next ∧ J s'') s₂)) s) (k : ∀ s', J s' → C.B bs Q s') : C.B (.If t body orelse pos :: bs) Q s := by
  have w : ∀ {bd : List Stmt} {s' : Shared}, C.B bd (fun f s'' => f = .next ∧ J s'') s' → C.B bd (Then C bs Q) s' := fun h => wpAny_mono h (fun f s'' hj => by
    obtain ⟨rfl, hj⟩ := hj
    exact k s'' hj) fun _ _ z => z
  exact seq_if (wpAny_mono h (fun b s' hb => ⟨fun e => w (hb.1 e), fun e => w (hb.2 e)⟩) fun _ _ z => z)
/-- the same, one way leaving as it came -/
theorem seq_then_next {bs : List Stmt} {Q : Flow → Shared → Prop} {J : Shared → Prop} (h : J s) : C.B [] (fun f s'' => f = .next ∧ J s'') s := seq_nil ⟨rfl, h⟩
theorem call_iter {a : Addr} {ps : List PV} {vs : List Value} {Q : Value → Shared → Prop} (H : St C ks lm l s) (hv : VSs vs [.ref a]) (hl : Has a (aList ps) l) (h : ∀ it s', St C ks lm ((it, aLIter a 0) :: l) s' → Q (.ref it) s') : C.X (call (.builtin "iter") vs) Q s := by
  cases hv with
  | cons h1 hv =>
  cases hv
  have h1' := h1
  obtain ⟨_, rfl⟩ := h1
  refine call_function_entry (by decide +kernel) (by decide +kernel) kdk_entry_iter (kdk_args_iter _) ?_
  unfold Builtin.«iter»
  refine wpAny_bind (m := someArgs "iter" 1 2 _) (wpAny_of_eq (a := [Value.ref a]) (by first | rfl | kernel_rfl!) ?_)
  show wpAny _ _ (pyIter (.ref a) >>= _) _ _ _
  obtain ⟨_, ho, ws, n, rfl, r⟩ := H.mem hl
  refine wpAny_bind (wpAny_pyIter_list (l := a) ⟨_, ho, rfl, n, rfl⟩ ?_)
  exact wpAny_pure ⟨_, rfl, h _ _ (H.push (tk := s.toks) ⟨rfl, rfl⟩ rfl)⟩
theorem extend_ok {a b : Addr} {ps qs : List PV} {i : Nat} {Q : Value → Shared → Prop} (H : St C ks lm l s) (hi : l[i]? = some (a, aList ps)) (hb : Has b (aList qs) l) (hz : ps.length + qs.length ≤ 1000000) (h : ∀ s', St C ks lm (l.set i (a, aList (ps ++ qs))) s' → Q .none s') :
    C.X (call (.builtin "list.extend") [.ref a, .ref b]) Q s := by
  obtain ⟨vs, n, hL, r⟩ := H.isL hi
  obtain ⟨_, ho, vs2, n2, rfl, r2⟩ := H.mem hb
  have h1 : vs.size = ps.length := r.length
  have h2 : vs2.size = qs.length := r2.length
  have hz' : vs.size + vs2.size ≤ sizeLine := by rw [line_is]; omega
  have hL' : s.heap.get? a = some { cls := .type "list", data := .seq vs n } := hL
  refine call_meets PySem.F.slot_list_extend ⟨_, hL', rfl⟩ PySem.F.entry_list_extend (PySem.F.args_list_extend_2 _ _) (PySem.AutoSeq1.list_extend_list_list_0 a vs n b vs2 n2 (extend_door hz') (Nat.le_trans (Nat.le_add_right _ _) hz')) ⟨hL', ho, ?_⟩
  refine h _ (H.set (tk := s.toks) hi (Heap.SameBut.update ..) (Heap.get?_update_self _ hL' rfl) ?_)
  rw [mapSeq_app]
  exact ⟨_, _, rfl, by rw [Array.toList_append]; exact Paired.app r r2⟩
theorem ne_nil_has {a b : Addr} {ps : List PV} {Q : Value → Shared → Prop} (H : St C ks lm l s) (hu : C.A.units < cLine) (hi : Has a (aList ps) l) (hj : Has b (aList []) l) (h : Q (.bool (decide (ps.length ≠ 0))) s) : C.X (compareOp .NotEq (.ref a) (.ref b)) Q s := by
  obtain ⟨i, hi⟩ := List.getElem?_of_mem hi
  obtain ⟨j, hj⟩ := List.getElem?_of_mem hj
  exact ne_nil_ok H hu hi hj h
/-- `x != []` as a test -/
theorem ne_nil_test {x : Str} {p1 p2 p3 : Pos} {a : Addr} {ps : List PV} {Q : Bool → Shared → Prop} (H : St C ks lm l s) (hu : C.A.units < cLine) (hx : nm ks lm x = some (.ref a)) (hl : Has a (aList ps) l) (h : ∀ s', St C ks lm l s' → Q (decide (ps.length ≠ 0)) s') :
    C.X (isTrue (.Compare (.Name x p1) [.NotEq] [.List [] p2] p3) C.env (eval (.Compare (.Name x p1) [.NotEq] [.List [] p2] p3) C.env)) Q s := by
  refine wpAny_isTrue_Compare1 (Name_ok H hx fun v hv => List_ev 1 H (ps := []) rfl (fun e s₁ H₁ => ?_) (show 0 ≤ 1000 by decide))
  obtain ⟨_, rfl⟩ := hv
  exact ne_nil_has H₁ hu (.tail _ hl) (.head _) (wpAny_truthy_bool (h _ H₁.drop1))
end
end Mine
end
section
open PySem PySem.W PyProof.Rows PySem.Calls PySem.Flt
set_option maxHeartbeats 2000000
namespace Mine
abbrev Strip := Addr × List (Addr × Int)
def rowR (rows : List Strip) : List PV := rows.map fun r => .ref r.1
def rowI (r : Strip) : List Int := r.2.map (·.2)
structure UL (u : US) (m : Led) (rows : List Strip) (pic : List (Addr × Int)) (b : Strip) (c : Addr × Int) : Prop where
  eR : rows.map rowI = u.strips
  eP : pic.map (·.2) = u.picture
  bef : rowI b = u.before
  brush : c.2 = u.brush
  inR : ∀ r ∈ rows, RowIn m r.1 r.2
  inP : ∀ c ∈ pic, CR m c
  inB : RowIn m b.1 b.2
  inC : CR m c
theorem suf {m m' : Led} (h : m <:+ m') : Sub m m' := fun _ he => h.subset he
theorem rot23 {α : Type} {a b x y z : α} {l : List α} : (a :: b :: x :: y :: z :: l).Perm (x :: y :: z :: a :: b :: l) := List.perm_append_comm_assoc [a, b] [x, y, z] l
theorem toFront {α : Type} {e : List α} {x y z : α} {l : List α} : (e ++ x :: y :: z :: l).Perm (x :: y :: z :: (e ++ l)) := List.perm_append_comm_assoc e [x, y, z] l
noncomputable def k165 : Kinds := [("octets", .local), ("source", .local), ("strips", .local), ("picture", .local), ("before", .local), ("brush", .cell), ("number", .local), ("strip", .local), ("iter", .globalImplicit), ("hsv_to_rgb", .globalImplicit), ("_parse_varint", .globalImplicit), ("ISEOF", .globalImplicit), ("ISTERMINAL", .globalImplicit), ("ISNONTERMINAL", .globalImplicit), ("NT_OFFSET", .globalImplicit), ("len", .globalImplicit), ("_law_turned", .globalImplicit)]
noncomputable def lmU (n : Nat) (it S P b c : Addr) : Vars := [("number", .int n), ("source", .ref it), ("strips", .ref S), ("picture", .ref P), ("before", .ref b), ("brush", .ref c)]
section
variable {C : Cx} {ks : Kinds} {lm : Vars} {l m : Led} {s : Shared}
theorem St.apart (H : St C ks lm l s) {i : Nat} {a b : Addr} {ao bo : AO} (hi : l[i]? = some (a, ao)) (hb : Has b bo (l.eraseIdx i)) : b ≠ a := by
  have nd := (H.front hi).D
  exact fun e => (List.nodup_cons.mp nd).1 (List.mem_map.mpr ⟨_, hb, e⟩)
theorem next_number {it oa : Addr} {N : List Nat} {k n : Nat} {p1 p2 p3 p4 p5 : Pos} {rs : List Stmt} {Q : Flow → Shared → Prop} (H : St C k165 lm ((it, aLIter oa (octs 0 (N.take k)).length) :: m) s) (hA : Ok C.A 2) (hl : Has oa (aList ((octs 0 N).map .int)) m) (hk : N[k]? = some n) (hn : n < 512) (hx : nm k165 lm "source" = some (.ref it))
    (h : ∀ s', St C k165 (("number", .int n) :: lm) ((it, aLIter oa (octs 0 (N.take (k + 1))).length) :: m) s' → C.B rs Q s')
    (hs : swapsWith (.Call (.Name "_parse_varint" p2) [.Name "source" p3] [] p4) (some (.Name "number" p1)) p5.line C.env = pure false := by rfl)
    (hp : (backTo p4 (starEach [] C.env)).any (·.1) = false := by rfl) :
    C.B (.Assign [.Name "number" p1] (.Call (.Name "_parse_varint" p2) [.Name "source" p3] [] p4) p5 :: rs) Q s := by
  obtain ⟨o, ho, hc⟩ := octs_at hk hn
  have hne : oa ≠ it := H.apart (i := 0) rfl hl
  refine seq_assign (Call_fn (ps := [.ref it]) 1 d59 H rfl (by show (nm k165 lm "source").bind _ = _; rw [hx]; rfl) (fun vs s₁ hvs H₁ => ?_) hp) hs
  refine varint_ok H₁ hA (i := 0) (m := (octs 0 (N.take (k + 1))).length) (n := n) rfl (.tail _ hl) hne ho ?_ hvs fun v s₂ hv H₂ => storeL H₂ rfl hv h
  rcases hc with ⟨c1, c2, c3⟩ | ⟨c1, o2, c2, c3, c4, c5, c6⟩
  · exact .inl ⟨c1, c2, c3⟩
  · exact .inr ⟨c1, o2, c2, c3, c4, c5, c6⟩
theorem colR_at {cs : List (Addr × Int)} {k : Nat} {p : PV} (h : (colR cs)[k]? = some p) : ∃ c, cs[k]? = some c ∧ p = .ref c.1 := by
  unfold colR at h
  rw [List.getElem?_map] at h
  obtain ⟨c, hc, rfl⟩ := Option.map_eq_some_iff.mp h
  exact ⟨c, hc, rfl⟩
theorem rowI_ne {r : Strip} (h : rowI r ≠ []) : r.2 ≠ [] := fun e => h (by unfold rowI; rw [e]; rfl)
theorem rowI_len (r : Strip) : r.2.length = (rowI r).length := by unfold rowI; rw [List.length_map]
end
end Mine
end
section
open PySem PySem.W PyProof.Rows PySem.Calls PySem.Flt
set_option maxHeartbeats 4000000
namespace Mine
section
variable {C : Cx} {ks : Kinds} {lm : Vars} {l m : Led} {s : Shared}
/-- the loop's state: `k` numbers are done, the next one is read -/
def LoopU (C : Cx) (l : Led) (ns : List Nat) (oa it S P : Addr) (k n : Nat) (s : Shared) : Prop :=
  ∃ rows pic b c m, l <:+ m ∧ UL (uAll (ns.take k)) m rows pic b c ∧ (ns ++ [0])[k]? = some n ∧ St C k165 (lmU n it S P b.1 c.1) ((it, aLIter oa (octs 0 ((ns ++ [0]).take (k + 1))).length) :: (S, aList (rowR rows)) :: (P, aList (colR pic)) :: m) s
/-- the strip of a turn -/
def StripU (C : Cx) (u : US) (n : Nat) (it S P : Addr) (b : Strip) (c : Addr × Int) (i : AO) (rows : List Strip) (pic : List (Addr × Int)) (m : Led) (s : Shared) : Prop :=
  ∃ (st : Strip) (m' : Led), m <:+ m' ∧ rowI st = uStrip u n ∧ RowIn m' st.1 st.2 ∧ St C k165 (("strip", .ref st.1) :: lmU n it S P b.1 c.1) ((it, i) :: (S, aList (rowR rows)) :: (P, aList (colR pic)) :: m') s
theorem strip_term {u : US} {n : Nat} {it S P : Addr} {b : Strip} {c : Addr × Int} {i : AO} {rows : List Strip} {pic : List (Addr × Int)} {p1 p2 p3 p4 p5 p6 p7 p8 p9 p10 : Pos} {k1 k2 k3 : Nat} {rs : List Stmt} {Q : Flow → Shared → Prop} (hA : Ok C.A 4) (hn : n < 64)
    (H : St C k165 (lmU n it S P b.1 c.1) ((it, i) :: (S, aList (rowR rows)) :: (P, aList (colR pic)) :: m) s) (h : ∀ s', StripU C u n it S P b c i rows pic m s' → C.B rs Q s')
    (hs1 : starEach [.Call (.Name "hsv_to_rgb" p2) [.BinOp (.Name "number" p3) .Div (.Constant (.int 64) k1 p4) p5, .Constant (.float 4607182418800017408) k2 p6, .Constant (.float 4607182418800017408) k3 p7] [] p8] C.env = [(false, eval (.Call (.Name "hsv_to_rgb" p2) [.BinOp (.Name "number" p3) .Div (.Constant (.int 64) k1 p4) p5, .Constant (.float 4607182418800017408) k2 p6, .Constant (.float 4607182418800017408) k3 p7] [] p8) C.env)] := by rfl)
    (hp : (backTo p8 (starEach [.Constant (.float 4607182418800017408) k2 p6, .Constant (.float 4607182418800017408) k3 p7] C.env)).any (·.1) = false := by rfl)
    (hs : swapsWith (.List [.Call (.Name "hsv_to_rgb" p2) [.BinOp (.Name "number" p3) .Div (.Constant (.int 64) k1 p4) p5, .Constant (.float 4607182418800017408) k2 p6, .Constant (.float 4607182418800017408) k3 p7] [] p8] p9) (some (.Name "strip" p1)) p10.line C.env = pure false := by rfl) :
    C.B (.Assign [.Name "strip" p1] (.List [.Call (.Name "hsv_to_rgb" p2) [.BinOp (.Name "number" p3) .Div (.Constant (.int 64) k1 p4) p5, .Constant (.float 4607182418800017408) k2 p6, .Constant (.float 4607182418800017408) k3 p7] [] p8] p9) p10 :: rs) Q s := by
  refine seq_assign (List_ (wpAny_items_cons (Call_fn (ps := [.flt (quot n 64), .flt f1, .flt f1]) 2 d52 H rfl ?_ (fun vs s₁ hvs H₁ => hsv_ok H₁ (hA.less (by decide)) hvs (wheel_ok (j := n) (by omega)) fun a s₂ H₂ => wpAny_items_nil (newList_ok (ps := [.ref a]) H₂ (.cons (.raw _) .nil) (show 1 ≤ 1000 by decide) fun z s₃ H₃ => storeL (H₃.perm rot23) rfl (.raw _) fun s₄ H₄ => h s₄ ⟨(z, [(a, (n : Int))]), _, (List.suffix_cons _ _).trans (List.suffix_cons _ _), ?_, ⟨.head _, ?_⟩, H₄⟩)) hp) hs1)) hs
  · show ((if (64 : Int) ≠ 0 ∧ ¬ Float64.isInf (quot n 64) = true then some (PV.flt (quot n 64)) else none).bind _) = _
    rw [if_pos ⟨by decide, quot64 hn⟩]
    rfl
  · unfold uStrip
    rw [if_pos (by omega)]
    rfl
  · intro q hq
    rw [List.mem_singleton.mp hq]
    exact .tail _ (.head _)
end
end Mine
end
section
open PySem PySem.W PyProof.Rows PySem.Calls PySem.Flt
set_option maxHeartbeats 4000000
namespace Mine
noncomputable def wbody (b : List Stmt) : List Stmt := match b with
  | .While _ b _ _ :: _ => b
  | _ => []
section
variable {C : Cx} {ks : Kinds} {lm : Vars} {l m : Led} {s : Shared}
/-- the strip that a number tells -/
theorem strip_ok {u : US} {k n : Nat} {it S P : Addr} {b : Strip} {c : Addr × Int} {i : AO} {rows : List Strip} {pic : List (Addr × Int)} {Q : Flow → Shared → Prop} (hA : Ok C.A 5) (U : UL u m rows pic b c) (hu : UIn u k) (hk : k < 12) (hn : n < 64 ∨ (256 ≤ n ∧ n < 512 ∧ k ≠ 0))
    (H : St C k165 (lmU n it S P b.1 c.1) ((it, i) :: (S, aList (rowR rows)) :: (P, aList (colR pic)) :: m) s) (h : ∀ s', StripU C u n it S P b c i rows pic m s' → C.B ((wbody ((bodyOf 165).drop 6)).drop 2) Q s') : C.B ((wbody ((bodyOf 165).drop 6)).drop 1) Q s := by
  refine seq_if_join (StripU C u n it S P b c i rows pic m) (wpAny_isTrue_value (term_ev (n := (n : Int)) H (hA.less (by decide)) rfl rfl fun s₁ H₁ => wpAny_truthy_bool ⟨fun e => ?_, fun e => ?_⟩)) h
  · have hn : n < 64 := by have := of_decide_eq_true e; omega
    exact strip_term (hA.less (by decide)) hn H₁ fun s' hs => seq_nil ⟨rfl, hs⟩
  · have hn256 : ¬ n < 256 := by have := of_decide_eq_false e; omega
    have hn := hn.resolve_left (by omega)
    have hcnt := hu.cnt
    have hrl : rows.length = u.strips.length := by rw [← U.eR, List.length_map]
    have hz : (rowR rows).length = rows.length := by unfold rowR; rw [List.length_map]
    have ei : (n : Int) - 256 = ((n - 256 : Nat) : Int) := by omega
    refine seq_if (wpAny_isTrue_Compare1 (ev_ok 2 H₁ (p := .int ((n : Int) - 256)) rfl fun v s₂ hv H₂ => len_ev H₂ rfl (a := S) rfl (.tail _ (.head _)) (fun _ h => aList.ls h) (by rw [hz]; omega) fun v2 s₃ hv2 H₃ => ?_))
    obtain ⟨t1, rfl⟩ := hv
    obtain ⟨t2, rfl⟩ := hv2
    refine (cmp_ok (op := .Lt) (a := .int ((n : Int) - 256)) (b := .int (rowR rows).length) (c := decide ((n : Int) - 256 < (rowR rows).length)) rfl).ok _ _ _ _ _ _ _ _ (wpAny_truthy_bool ⟨fun e => ?_, fun e => ?_⟩)
    · have hlt : n - 256 < rows.length := by have := of_decide_eq_true e; rw [hz] at this; omega
      have hrow : rows[n - 256]? = some rows[n - 256] := List.getElem?_eq_getElem hlt
      generalize rows[n - 256] = r at hrow
      refine seq_assign (SubL 2 H₃ (a := S) rfl (.tail _ (.head _)) (k := (n : Int) - 256) (j := n - 256) (p := .ref r.1) rfl (by rw [ei]; exact seqI (by rw [hz]; exact hlt)) (by unfold rowR; rw [List.getElem?_map, hrow]; rfl) (fun v s₄ hv H₄ => storeL H₄ rfl hv fun s₅ H₅ => then_next (seq_nil ⟨rfl, r, m, List.suffix_refl _, ?_, U.inR r (List.mem_of_getElem? hrow), H₅⟩)) (by rw [hz]; omega))
      unfold uStrip
      rw [if_neg hn256, ← U.eR, List.getElem?_map, hrow]
      rfl
    · have hge : rows.length ≤ n - 256 := by have := of_decide_eq_false e; rw [hz] at this; omega
      have hb : u.before ≠ [] := fun e => hn.2.2 (hu.none.mp e)
      have hb2 : b.2 ≠ [] := rowI_ne (by rw [U.bef]; exact hb)
      have hbl : b.2.length ≤ 900 := by rw [rowI_len, U.bef]; have := hu.bef; omega
      have hB := U.inB.mono (m' := (it, i) :: (S, aList (rowR rows)) :: (P, aList (colR pic)) :: m) fun _ he => .tail _ (.tail _ (.tail _ he))
      refine seq_assign (ext_ev H₃ (hA.less (by decide)) rfl (a := b.1) (b := b.1) (cs := b.2) (ds := b.2) rfl rfl hB hb2 hbl hB hb2 hbl fun c2 t s₄ hr H₄ => storeL (H₄.perm rot23) rfl (.raw _) fun s₅ H₅ => then_next (seq_nil ⟨rfl, (c2, b.2 ++ [(t, lastI (b.2.map (·.2)) + headI (b.2.map (·.2)))]), _, (List.suffix_cons _ _).trans (List.suffix_cons _ _), ?_, ⟨.head _, fun q hq => ?_⟩, H₅⟩))
      · have : u.strips[n - 256]? = none := List.getElem?_eq_none_iff.mpr (by omega)
        unfold uStrip
        rw [if_neg hn256, this]
        show (b.2 ++ [_]).map (fun x : Addr × Int => x.2) = u.before ++ [_]
        rw [List.map_append, show b.2.map (fun x : Addr × Int => x.2) = u.before from U.bef]
        rfl
      · rcases List.mem_append.mp hq with hq | hq
        · exact .tail _ (.tail _ (U.inB.col q hq))
        · rw [List.mem_singleton.mp hq]; exact .tail _ (.head _)
end
end Mine
end
section
open PySem PySem.W PyProof.Rows PySem.Calls PySem.Flt
set_option maxHeartbeats 4000000
namespace Mine
section
variable {C : Cx} {ks : Kinds} {lm : Vars} {l m : Led} {s : Shared}
noncomputable def lmV (st : Strip) (n : Nat) (it S P b c : Addr) : Vars := ("strip", .ref st.1) :: lmU n it S P b c
/-- `if before != []: strips.append(..)` -/
theorem table_ok {u : US} {k n : Nat} {it S P : Addr} {b st : Strip} {c : Addr × Int} {i : AO} {rows : List Strip} {pic : List (Addr × Int)} {Q : Flow → Shared → Prop} (hA : Ok C.A 5) (U : UL u m rows pic b c) (hu : UIn u k) (hk : k < 12) (es : rowI st = uStrip u n) (hst : RowIn m st.1 st.2) (hne : st.2 ≠ []) (hsl : st.2.length ≤ 900)
    (H : St C k165 (lmV st n it S P b.1 c.1) ((it, i) :: (S, aList (rowR rows)) :: (P, aList (colR pic)) :: m) s)
    (h : ∀ rows' m' s', m <:+ m' → rows'.map rowI = (uStep u n).strips → (∀ r ∈ rows', RowIn m' r.1 r.2) → St C k165 (lmV st n it S P b.1 c.1) ((it, i) :: (S, aList (rowR rows')) :: (P, aList (colR pic)) :: m') s' → C.B ((wbody ((bodyOf 165).drop 6)).drop 3) Q s') : C.B ((wbody ((bodyOf 165).drop 6)).drop 2) Q s := by
  refine seq_if_join (fun s' => ∃ rows' m', m <:+ m' ∧ rows'.map rowI = (uStep u n).strips ∧ (∀ r ∈ rows', RowIn m' r.1 r.2) ∧ St C k165 (lmV st n it S P b.1 c.1) ((it, i) :: (S, aList (rowR rows')) :: (P, aList (colR pic)) :: m') s') (ne_nil_test (ps := colR b.2) H (hA.less (k := 0) (by decide)).units rfl (.tail _ (.tail _ (.tail _ U.inB.has))) fun s₁ H₁ => ⟨fun e => ?_, fun e => ?_⟩) fun s' ⟨rows', m', a1, a2, a3, a4⟩ => h rows' m' s' a1 a2 a3 a4
  · have hb2 : b.2 ≠ [] := by
      have := of_decide_eq_true e
      intro w
      rw [w] at this
      exact this rfl
    have hb : u.before ≠ [] := by
      rw [← U.bef]
      intro w
      exact hb2 (List.map_eq_nil_iff.mp w)
    have hbl : b.2.length ≤ 900 := by rw [rowI_len, U.bef]; have := hu.bef; omega
    have hcnt := hu.cnt
    have hrl : rows.length = u.strips.length := by rw [← U.eR, List.length_map]
    have hz : (rowR rows).length = rows.length := by unfold rowR; rw [List.length_map]
    have up : Sub m ((it, i) :: (S, aList (rowR rows)) :: (P, aList (colR pic)) :: m) := fun _ he => .tail _ (.tail _ (.tail _ he))
    refine do_app (i := 1) H₁ rfl rfl (ext_ev H₁ (hA.less (by decide)) rfl (a := b.1) (b := st.1) (cs := b.2) (ds := st.2) rfl rfl (U.inB.mono up) hb2 hbl (hst.mono up) hne hsl fun c2 t s₂ hr H₂ => ?_)
    generalize hx : lastI (b.2.map fun x : Addr × Int => x.2) + headI (st.2.map fun x : Addr × Int => x.2) = x at H₂
    refine ⟨3, _, _, rowR rows, .ref c2, .raw _, H₂, rfl, by rw [hz]; omega, fun s₃ H₃ => seq_nil ⟨rfl, rows ++ [(c2, b.2 ++ [(t, x)])], (c2, aList (colR (b.2 ++ [(t, x)]))) :: (t, aTup (col (paint x))) :: m, (List.suffix_cons _ _).trans (List.suffix_cons _ _), ?_, fun r hr => ?_, ?_⟩⟩
    · show _ = (if u.before = [] then u.strips else _)
      rw [if_neg hb, List.map_append, U.eR, ← es, ← U.bef]
      show _ ++ [(b.2 ++ [_]).map (fun x : Addr × Int => x.2)] = _
      rw [List.map_append, ← hx]
      rfl
    · rcases List.mem_append.mp hr with hr | hr
      · exact (U.inR r hr).mono fun _ he => .tail _ (.tail _ he)
      · rw [List.mem_singleton.mp hr]
        refine ⟨.head _, fun q hq => ?_⟩
        rcases List.mem_append.mp hq with hq | hq
        · exact .tail _ (.tail _ (U.inB.col q hq))
        · rw [List.mem_singleton.mp hq]; exact .tail _ (.head _)
    · have er : ∀ x : Strip, rowR (rows ++ [x]) = rowR rows ++ [.ref x.1] := fun x => by unfold rowR; rw [List.map_append]; rfl
      rw [er]
      exact H₃.perm rot23
  · have hb2 : b.2 = [] := by
      have := of_decide_eq_false e
      have : (colR b.2).length = 0 := by omega
      unfold colR at this
      rw [List.length_map] at this
      exact List.length_eq_zero_iff.mp this
    have hb : u.before = [] := by rw [← U.bef]; unfold rowI; rw [hb2]; rfl
    refine seq_nil ⟨rfl, rows, m, List.suffix_refl _, ?_, U.inR, H₁⟩
    show _ = (if u.before = [] then u.strips else _)
    rw [if_pos hb, U.eR]
end
end Mine
end
section
open PySem PySem.W PyProof.Rows PySem.Calls PySem.Flt
set_option maxHeartbeats 4000000
namespace Mine
section
variable {C : Cx} {ks : Kinds} {lm : Vars} {l m : Led} {s : Shared}
/-- `picture.extend([_law_turned(colour, brush) for colour in strip])` -/
theorem extend_pic {n : Nat} {it S P b : Addr} {st : Strip} {c : Addr × Int} {i : AO} {rows : List Strip} {pic : List (Addr × Int)} {Q : Flow → Shared → Prop} (hA : Ok C.A 5) (hcr : CR m c) (hst : RowIn m st.1 st.2) (hsl : st.2.length ≤ 900) (hpl : pic.length ≤ 900)
    (H : St C k165 (lmV st n it S P b c.1) ((it, i) :: (S, aList (rowR rows)) :: (P, aList (colR pic)) :: m) s)
    (h : ∀ (pic2 : List (Addr × Int)) m' s', m <:+ m' → pic2.map (·.2) = (rowI st).map (· + c.2) → (∀ c ∈ pic2, CR m' c) → St C k165 (lmV st n it S P b c.1) ((it, i) :: (S, aList (rowR rows)) :: (P, aList (colR (pic ++ pic2))) :: m') s' → C.B ((wbody ((bodyOf 165).drop 6)).drop 4) Q s') : C.B ((wbody ((bodyOf 165).drop 6)).drop 3) Q s := by
  refine seq_expr H.V (Call_lm H (i := 2) rfl rfl PySem.F.slot_list_extend PySem.F.type_list_extend ?_)
  refine callB (wpAny_items_cons (list_compG [("colour", .local), ("_law_turned", .globalImplicit), ("brush", .cell)] [("brush", .ref c.1)] H.V hA.h (by kernel_rfl) ?_ rfl rfl (Name_ok H (p := .ref st.1) rfl fun v hv => iter_list H hv (.tail _ (.tail _ (.tail _ hst.has))) fun i2 s₁ H₁ => ⟨i2, aLIter st.1, _, _, Has st.1 (aList (colR st.2)),
    fun k ys l' => ∃ (cs : List (Addr × Int)) (e : Led), l' = e ++ ((it, i) :: (S, aList (rowR rows)) :: (P, aList (colR pic)) :: m) ∧ ys = colR cs ∧ cs.map (·.2) = ((rowI st).take k).map (· + c.2) ∧ ∀ q ∈ cs, CR e q, rfl, walk_list i2 st.1 (colR st.2), H₁, ⟨[], [], rfl, rfl, rfl, fun q hq => (nomatch hq)⟩, ?_, ?_, ?_, ?_⟩)) rfl) rfl
  · intro x p hx
    obtain ⟨rfl, rfl⟩ := one_lookup hx
    exact ⟨rfl, rfl⟩
  · rintro k ys l' ⟨cs, e, rfl, rfl, a3, a4⟩
    refine ⟨List.mem_append_right _ (.tail _ (.tail _ (.tail _ hst.has))), ?_⟩
    unfold colR
    rw [List.length_map, ← List.length_map (f := fun x : Addr × Int => x.2) (as := cs), a3, List.length_map, List.length_take]
    omega
  · unfold colR
    rw [List.length_map]; omega
  · rintro C₂ acc k p ys l' s₂ hA₂ hp ⟨cs, e, rfl, rfl, a3, a4⟩ H₂
    refine tests_nil ?_
    rw [if_pos rfl]
    obtain ⟨q, hq, rfl⟩ := colR_at hp
    have hq' : CR m q := hst.col q (List.mem_of_getElem? hq)
    have up : Sub m ((acc, aList (colR cs)) :: (i2, aLIter st.1 (k + 1)) :: (e ++ ((it, i) :: (S, aList (rowR rows)) :: (P, aList (colR pic)) :: m))) := fun _ he => .tail _ (.tail _ (List.mem_append_right _ (.tail _ (.tail _ (.tail _ he)))))
    refine turn_ev H₂ (by rw [hA₂]; exact hA.less (by decide)) rfl (Name_ok H₂ (p := .ref q.1) rfl fun v1 hv1 => Name_ok H₂ (p := .ref c.1) rfl fun v2 hv2 => ⟨_, _, q, c, H₂, hv1, hv2, hq'.mono up, hcr.mono up, fun t s₃ H₃ => ⟨.ref t, _, .raw _, ⟨cs ++ [(t, q.2 + c.2)], (t, aTup (col (paint (q.2 + c.2)))) :: e, rfl, ?_, ?_, fun r hr => ?_⟩, H₃.perm rot3⟩⟩)
    · unfold colR; rw [List.map_append]; rfl
    · have er : (rowI st)[k]? = some q.2 := by unfold rowI; rw [List.getElem?_map, hq]; rfl
      rw [List.map_append, a3, List.take_add_one, er, List.map_append]
      rfl
    · rcases List.mem_append.mp hr with hr | hr
      · exact .tail _ (a4 r hr)
      · rw [List.mem_singleton.mp hr]; exact .head _
  · rintro a2 ys l' ⟨cs, e, rfl, rfl, a3, a4⟩ s₂ H₂
    have hcl : cs.length ≤ 900 := by
      rw [← List.length_map (f := fun x : Addr × Int => x.2) (as := cs), a3, List.length_map, List.length_take, rowI_len] at *
      omega
    have H₃ : St C k165 (lmV st n it S P b c.1) ((it, i) :: (S, aList (rowR rows)) :: (P, aList (colR pic)) :: (((a2, aList (colR cs)) :: e) ++ m)) s₂ := H₂.perm (toFront (e := (a2, aList (colR cs)) :: e))
    refine wpAny_items_nil (extend_ok (i := 2) H₃ rfl (b := a2) (.tail _ (.tail _ (.tail _ (.head _)))) (by unfold colR; rw [List.length_map, List.length_map]; omega) fun s₃ H₄ => ?_)
    refine h cs (((a2, aList (colR cs)) :: e) ++ m) s₃ (List.suffix_append _ _) ?_ ?_ ?_
    · rw [a3, show (colR st.2).length = (rowI st).length by unfold colR rowI; rw [List.length_map, List.length_map], List.take_length]
    · exact fun q hq => .tail _ (List.mem_append_left _ (a4 q hq))
    · have er : colR (pic ++ cs) = colR pic ++ colR cs := by unfold colR; rw [List.map_append]
      rw [er]
      exact H₄
end
end Mine
end
section
open PySem PySem.W PyProof.Rows PySem.Calls PySem.Flt
set_option maxHeartbeats 4000000
namespace Mine
section
variable {C : Cx} {ks : Kinds} {lm : Vars} {l m : Led} {s : Shared}
theorem num_512 {ns : List Nat} (hn : Nums ns) {k n : Nat} (h : (ns ++ [0])[k]? = some n) : n < 512 := by
  rcases List.mem_append.mp (List.mem_of_getElem? h) with h | h
  · have := hn.each n h; omega
  · rw [List.mem_singleton.mp h]; decide
theorem turnU {ns : List Nat} {oa it S P : Addr} {k n : Nat} (hA : Ok C.A 5) (hf : C.env.func.isSome = true) (hn : Nums ns) (hl : Has oa (aList ((octs 0 (ns ++ [0])).map .int)) l) (hk : k < ns.length) (H : LoopU C l ns oa it S P k n s) :
    C.B (wbody ((bodyOf 165).drop 6)) (fun f s' => f = .next ∧ ∃ n', LoopU C l ns oa it S P (k + 1) n' s') s := by
  obtain ⟨rows, pic, b, c, m, hsuf, U, hnk, H⟩ := H
  have hnk' : ns[k]? = some n := by rw [List.getElem?_append_left hk] at hnk; exact hnk
  have hu := uIn hn (Nat.le_of_lt hk)
  have hk12 : k < 12 := Nat.lt_of_lt_of_le hk hn.len
  have hcase : n < 64 ∨ (256 ≤ n ∧ n < 512 ∧ k ≠ 0) := by
    rcases hn.each n (List.mem_of_getElem? hnk') with h | h
    · exact .inl h.2
    · refine .inr ⟨h.1, h.2, fun e => ?_⟩
      subst e
      have := hn.first n hnk'
      omega
  have hstep := hu.step (n := n) hk12 (by omega)
  have et : ns.take (k + 1) = ns.take k ++ [n] := by rw [List.take_add_one, hnk']; rfl
  have eu : uAll (ns.take (k + 1)) = uStep (uAll (ns.take k)) n := by rw [et, uAll_snoc]
  have hk1 : ∃ n', (ns ++ [0])[k + 1]? = some n' := ⟨_, List.getElem?_eq_getElem (by rw [List.length_append, List.length_singleton]; omega)⟩
  obtain ⟨n', hn'⟩ := hk1
  refine seq_if (wpAny_isTrue_Compare1 (term_ev (n := (n : Int)) H (hA.less (by decide)) rfl rfl fun s₁ H₁ => nont_ev (n := (n : Int)) H₁ (hA.less (by decide)) rfl rfl fun s₂ H₂ => eq_bool (wpAny_truthy_bool ⟨fun e => ?_, fun _ => then_next ?_⟩)))
  · exfalso
    have e := beq_iff_eq.mp e
    by_cases hh : (n : Int) < 256
    · rw [decide_eq_true hh] at e
      have := of_decide_eq_true e.symm
      omega
    · rw [decide_eq_false hh] at e
      have := of_decide_eq_false e.symm
      omega
  refine strip_ok hA U hu hk12 hcase H₂ fun s₃ hs => ?_
  obtain ⟨st, m1, q1, q2, q3, H₃⟩ := hs
  have U1 : UL (uAll (ns.take k)) m1 rows pic b c := ⟨U.eR, U.eP, U.bef, U.brush, fun r hr => (U.inR r hr).mono (suf q1), fun r hr => (U.inP r hr).mono (suf q1), U.inB.mono (suf q1), U.inC.mono (suf q1)⟩
  have hne : st.2 ≠ [] := rowI_ne (by rw [q2]; exact hstep.2.1)
  have hsl : st.2.length ≤ 900 := by rw [rowI_len, q2]; have := hstep.2.2; omega
  refine table_ok hA U1 hu hk12 q2 q3 hne hsl H₃ fun rows2 m2 s₄ r1 r2 r3 H₄ => ?_
  have hpl : pic.length ≤ 900 := by
    have := hu.pic
    rw [← List.length_map (f := fun x : Addr × Int => x.2) (as := pic), U.eP]; omega
  refine extend_pic hA (U1.inC.mono (suf r1)) (q3.mono (suf r1)) hsl hpl H₄ fun pic2 m3 s₅ t1 t2 t3 H₅ => ?_
  have hp2 : pic2 ≠ [] := fun e => by
    rw [e, q2] at t2
    exact hstep.2.1 (List.map_eq_nil_iff.mp t2.symm)
  have hpz : (pic ++ pic2).length ≤ 1000 := by
    have h2 : pic2.length ≤ 900 := by rw [← List.length_map (f := fun x : Addr × Int => x.2) (as := pic2), t2, List.length_map, ← rowI_len]; exact hsl
    have := hu.pic
    have h1 : pic.length ≤ k * 13 := by rw [← List.length_map (f := fun x : Addr × Int => x.2) (as := pic), U.eP]; exact this
    have h3 : pic2.length ≤ 13 := by rw [← List.length_map (f := fun x : Addr × Int => x.2) (as := pic2), t2, List.length_map, q2]; have := hstep.2.2; omega
    rw [List.length_append]; omega
  have ePic : (pic ++ pic2).map (·.2) = (uAll (ns.take (k + 1))).picture := by
    rw [eu, List.map_append, U.eP, t2, q2, U.brush]
    rfl
  have inP : ∀ q ∈ pic ++ pic2, CR m3 q := fun q hq => by
    rcases List.mem_append.mp hq with hq | hq
    · exact (U1.inP q hq).mono ((suf r1).trans (suf t1))
    · exact t3 q hq
  have hne2 : pic ++ pic2 ≠ [] := by simp [hp2]
  obtain ⟨c2, g1, g2, g3, g4⟩ := last_at hne2
  refine seq_assign (SubL 2 H₅ (a := P) rfl (.tail _ (.tail _ (.head _))) rfl g4 g1 (fun v s₆ hv H₆ => storeC H₆ rfl hf hv fun s₇ H₇ => ?_) (by unfold colR; rw [List.length_map]; omega))
  refine do_assign 1 H₇ (p := .ref st.1) rfl fun s₈ H₈ => ?_
  refine next_number (k := k + 1) (n := n') H₈ (hA.less (by decide)) (.tail _ (.tail _ ((((hsuf.trans q1).trans r1).trans t1).subset hl))) hn' (num_512 hn hn') rfl fun s₉ H₉ => seq_nil ⟨rfl, n', rows2, pic ++ pic2, st, c2, m3, ((hsuf.trans q1).trans r1).trans t1, ⟨?_, ePic, ?_, ?_, fun r hr => (r3 r hr).mono (suf t1), inP, q3.mono ((suf r1).trans (suf t1)), inP c2 g2⟩, hn', H₉.norm ⟨rfl, rfl, rfl, rfl, rfl, rfl, trivial⟩⟩
  · rw [eu]; exact r2
  · rw [eu]; exact q2
  · rw [g3, eu]
    show lastI _ = lastI _
    rw [List.map_append, U.eP, t2, q2, U.brush]
theorem unpacked_ok {oa : Addr} {ns : List Nat} {vs : List Value} {Q : Value → Shared → Prop} (H : St C ks lm l s) (hA : Ok C.A 6) (hv : VSs vs [.ref oa]) (hl : Has oa (aList ((octs 0 (ns ++ [0])).map .int)) l) (hn : Nums ns)
    (h : ∀ t S P rows (pic : List (Addr × Int)) m s', l <:+ m → rows.map rowI = (uAll ns).strips → pic.map (·.2) = (uAll ns).picture → (∀ r ∈ rows, RowIn m r.1 r.2) → (∀ c ∈ pic, CR m c) → St C ks lm ((t, aTup [.ref S, .ref P]) :: (S, aList (rowR rows)) :: (P, aList (colR pic)) :: m) s' → Q (.ref t) s') : C.X (call (.ref 165) vs) Q s := by
  refine call_of (enterB 5 d165 k165 (fun n => by kernel_rfl) (by decide) H.base hA hv rfl fun C' s₁ e1 e2 h0 hg hA' he H₁ => ?_)
  have hf : C'.env.func.isSome = true := by rw [he]; rfl
  refine seq_assign (Call_bi 1 H₁ (ps := [.ref oa]) rfl rfl fun vs s₂ hvs H₂ => call_iter H₂ hvs hl fun it s₃ H₃ => storeL H₃ rfl (.raw _) fun s₄ H₄ => ?_)
  refine seq_assign (List_ev 1 H₄ (ps := []) rfl (fun S s₅ H₅ => storeL H₅ rfl (.raw _) fun s₆ H₆ => ?_) (show 0 ≤ 1000 by decide))
  refine seq_assign (List_ev 1 H₆ (ps := []) rfl (fun P s₇ H₇ => storeL H₇ rfl (.raw _) fun s₈ H₈ => ?_) (show 0 ≤ 1000 by decide))
  refine seq_assign (List_ev 1 H₈ (ps := []) rfl (fun B s₉ H₉ => storeL H₉ rfl (.raw _) fun s₁₀ H₁₀ => ?_) (show 0 ≤ 1000 by decide))
  refine seq_assign (Call_fn (ps := [.flt 0, .flt f1, .flt f1]) 1 d52 H₁₀ rfl rfl fun vs s₁₁ hvs H₁₁ => hsv_ok H₁₁ (hA'.less (by decide)) hvs start_ok fun c0 s₁₂ H₁₂ => storeC H₁₂ rfl hf (.raw _) fun s₁₃ H₁₃ => ?_)
  have hp : ((c0, aTup (col (paint 0))) :: (B, aList []) :: (P, aList []) :: (S, aList []) :: (it, aLIter oa 0) :: l).Perm ((it, aLIter oa 0) :: (S, aList []) :: (P, aList []) :: (c0, aTup (col (paint 0))) :: (B, aList []) :: l) :=
    (List.perm_append_comm_assoc [(c0, aTup (col (paint 0))), (B, aList [])] [(P, aList []), (S, aList []), (it, aLIter oa 0)] l).trans ((List.Perm.append_right ((c0, aTup (col (paint 0))) :: (B, aList []) :: l) (List.reverse_perm [(P, aList []), (S, aList []), (it, aLIter oa 0)]).symm))
  have hz : ∃ n, (ns ++ [0])[0]? = some n := ⟨_, List.getElem?_eq_getElem (by rw [List.length_append, List.length_singleton]; omega)⟩
  obtain ⟨n0, hn0⟩ := hz
  refine next_number (k := 0) (n := n0) (H₁₃.perm hp) (hA'.less (by decide)) (.tail _ (.tail _ (.tail _ (.tail _ hl)))) hn0 (num_512 hn hn0) rfl fun s₁₄ H₁₄ => ?_
  refine seq_while (fun d s => ∃ k n, d = ns.length - k ∧ k ≤ ns.length ∧ LoopU C' l ns oa it S P k n s) (fun d s hI => ?_) (ns.length - 0) ⟨0, n0, rfl, Nat.zero_le _, [], [], (B, []), (c0, 0), (c0, aTup (col (paint 0))) :: (B, aList []) :: l, (List.suffix_cons _ _).trans (List.suffix_cons _ _), ⟨rfl, rfl, rfl, rfl, fun r hr => (nomatch hr), fun r hr => (nomatch hr), ⟨.tail _ (.head _), fun r hr => (nomatch hr)⟩, .head _⟩, hn0, H₁₄.norm ⟨rfl, rfl, rfl, rfl, rfl, rfl, trivial⟩⟩
  obtain ⟨k, n, rfl, hk, hL⟩ := hI
  have hL' := hL
  obtain ⟨rows, pic, b, c, m, hsuf, U, hnk, H'⟩ := hL'
  refine isTrue_not (wpAny_isTrue_value (eof_ev (n := (n : Int)) H' (hA'.less (by decide)) rfl rfl fun s₂ H₂ => wpAny_truthy_bool ⟨fun e => ?_, fun e => ?_⟩))
  · have hlt : k < ns.length := by
      rcases Nat.lt_or_ge k ns.length with h | h
      · exact h
      · have : k = ns.length := Nat.le_antisymm hk h
        subst this
        rw [List.getElem?_append_right (Nat.le_refl _), Nat.sub_self] at hnk
        cases hnk
        simp at e
    refine wpAny_mono (turnU hA' hf hn hl hlt ⟨rows, pic, b, c, m, hsuf, U, hnk, H₂⟩) (fun f s₃ hq => ?_) fun _ _ z => z
    obtain ⟨rfl, n', hL2⟩ := hq
    exact ⟨ns.length - (k + 1), by omega, k + 1, n', rfl, hlt, hL2⟩
  · have hk2 : k = ns.length := by
      rcases Nat.lt_or_ge k ns.length with h | h
      · exfalso
        rw [List.getElem?_append_left h] at hnk
        have := hn.each n (List.mem_of_getElem? hnk)
        have : (n : Int) = 0 := by simpa using e
        omega
      · exact Nat.le_antisymm hk h
    subst hk2
    rw [List.take_length] at U
    refine then_next (seq_return (Tuple_ev 1 H₂ (ps := [.ref S, .ref P]) rfl (fun t s₃ H₃ => ?_) (show 2 ≤ 1000 by decide)))
    exact h t S P rows pic m s₃ hsuf U.eR U.eP U.inR U.inP (St.back H hg h0 (H₃.sub (.cons_cons _ (.cons _ (.refl _)))))
end
end Mine
end
section
open PySem PySem.W PyProof.Rows PySem.Calls PySem.Flt PySem.SeqAt
set_option maxHeartbeats 1000000
namespace Mine
/-! equality of made objects -/
theorem range_eq {α : Type} [DecidableEq α] (a b : List α) (h : a.length = b.length) : (List.range a.length).all (fun j => decide (a[j]? = b[j]?)) = decide (a = b) := by
  by_cases e : a = b
  · subst e
    rw [decide_eq_true rfl, List.all_eq_true]
    exact fun j _ => decide_eq_true rfl
  · rw [decide_eq_false e, ← Bool.not_eq_true, List.all_eq_true]
    intro w
    refine e (List.ext_getElem? fun j => ?_)
    rcases Nat.lt_or_ge j a.length with hj | hj
    · exact of_decide_eq_true (w j (List.mem_range.mpr hj))
    · rw [List.getElem?_eq_none_iff.mpr hj, List.getElem?_eq_none_iff.mpr (h ▸ hj)]
theorem vs_int {v : Value} {i j : Int} (h : VS v (.int i)) (k : VS v (.int j)) : i = j := by
  obtain ⟨t, rfl⟩ := h
  obtain ⟨u, e⟩ := k
  cases e; rfl
theorem vs_str {v : Value} {x y : Str} (h : VS v (.str x)) (k : VS v (.str y)) : x = y := by
  obtain ⟨t, rfl⟩ := h
  obtain ⟨u, e⟩ := k
  cases e; rfl
theorem vs_ints {vs : List Value} {ns ms : List Int} (h : VSs vs (ns.map .int)) (k : VSs vs (ms.map .int)) : ns = ms := by
  induction ns generalizing vs ms with
  | nil =>
    cases h
    cases ms with
    | nil => rfl
    | cons m r => cases k
  | cons n r ih =>
    cases h with
    | cons a b =>
      cases ms with
      | nil => cases k
      | cons m r' =>
        cases k with
        | cons a' b' => rw [vs_int a a', ih b b']
section
variable {C : Cx} {ks : Kinds} {lm : Vars} {l : Led} {s : Shared} {A : Around}
theorem eqAt_int {v w : Value} {i j : Int} (h : VS v (.int i)) (k : VS w (.int j)) : EqAt A s v w (decide (i = j)) := by
  obtain ⟨t, rfl⟩ := h
  obtain ⟨u, rfl⟩ := k
  have := EqAt.int_int (A := A) (s := s) i t j u
  by_cases e : i = j
  · rw [decide_eq_true e]; rw [beq_iff_eq.mpr e] at this; exact this
  · rw [decide_eq_false e]; rw [beq_eq_false_iff_ne.mpr e] at this; exact this
theorem eqAt_str {v w : Value} {i j : Str} (h : VS v (.str i)) (k : VS w (.str j)) : EqAt A s v w (decide (i = j)) := by
  obtain ⟨t, rfl⟩ := h
  obtain ⟨u, rfl⟩ := k
  have := EqAt.str_str (A := A) (s := s) i t j u
  by_cases e : i = j
  · rw [decide_eq_true e]; rw [beq_iff_eq.mpr e] at this; exact this
  · rw [decide_eq_false e]; rw [beq_eq_false_iff_ne.mpr e] at this; exact this
theorem St.ints (H : St C ks lm l s) {a : Addr} {ao : AO} {ns : List Int} (hl : Has a ao l) (hao : ∀ o, ao o → aLs (ns.map .int) o) : ∃ vs, s.heap.IsList a vs ∧ VSs vs.toList (ns.map .int) := H.isLs hl hao
theorem ints_at {vs us : Array Value} {ns ms : List Int} (r : VSs vs.toList (ns.map .int)) (r' : VSs us.toList (ms.map .int)) (j : Nat) (h1 : j < vs.size) (h2 : j < us.size) : EqAt A s vs[j] us[j] (decide (ns[j]? = ms[j]?)) := by
  have l1 : vs.size = ns.length := by have := r.length; rw [List.length_map] at this; exact this
  have l2 : us.size = ms.length := by have := r'.length; rw [List.length_map] at this; exact this
  obtain ⟨v, hv, q⟩ := Paired.get r (i := j) (b := .int (ns[j]'(l1 ▸ h1))) (by rw [List.getElem?_map, List.getElem?_eq_getElem (l1 ▸ h1)]; rfl)
  obtain ⟨w, hw, q'⟩ := Paired.get r' (i := j) (b := .int (ms[j]'(l2 ▸ h2))) (by rw [List.getElem?_map, List.getElem?_eq_getElem (l2 ▸ h2)]; rfl)
  rw [Array.getElem?_toList, Array.getElem?_eq_getElem h1] at hv
  rw [Array.getElem?_toList, Array.getElem?_eq_getElem h2] at hw
  have e1 := Option.some.inj hv
  have e2 := Option.some.inj hw
  rw [e1, e2, List.getElem?_eq_getElem (l1 ▸ h1), List.getElem?_eq_getElem (l2 ▸ h2)]
  have := eqAt_int (A := A) (s := s) q q'
  have ei : decide (ns[j]'(l1 ▸ h1) = ms[j]'(l2 ▸ h2)) = decide (some (ns[j]'(l1 ▸ h1)) = some (ms[j]'(l2 ▸ h2))) := decide_eq_decide.mpr (by rw [Option.some.injEq])
  rw [← ei]; exact this
theorem rc_ints {a b : Addr} {vs us : Array Value} {ns ms : List Int} (hu : A.units < cLine) (ha : s.heap.IsList a vs) (r : VSs vs.toList (ns.map .int)) (hb : s.heap.IsList b us) (r' : VSs us.toList (ms.map .int)) : RcAt A s (.ref a) (.ref b) (decide (ns = ms)) := by
  have l1 : vs.size = ns.length := by have := r.length; rw [List.length_map] at this; exact this
  have l2 : us.size = ms.length := by have := r'.length; rw [List.length_map] at this; exact this
  by_cases hz : ns.length = ms.length
  · have := RcAt.lists (A := A) ha hb (by rw [l1, l2, hz]) hu fun j h1 h2 => ints_at (A := A.in1) (s := s) r r' j h1 h2
    rw [l1, range_eq ns ms hz] at this
    exact this
  · rw [decide_eq_false fun e : ns = ms => hz (congrArg List.length e)]
    exact RcAt.lists_lengths ha hb (by rw [l1, l2]; exact bne_iff_ne.mpr hz) hu
theorem rcNe_ints {a b : Addr} {vs us : Array Value} {ns ms : List Int} (hu : A.units < cLine) (ha : s.heap.IsList a vs) (r : VSs vs.toList (ns.map .int)) (hb : s.heap.IsList b us) (r' : VSs us.toList (ms.map .int)) : RcNeAt A s (.ref a) (.ref b) (decide (ns ≠ ms)) := by
  have l1 : vs.size = ns.length := by have := r.length; rw [List.length_map] at this; exact this
  have l2 : us.size = ms.length := by have := r'.length; rw [List.length_map] at this; exact this
  rw [decide_not]
  by_cases hz : ns.length = ms.length
  · have := RcNeAt.lists (A := A) ha hb (by rw [l1, l2, hz]) hu fun j h1 h2 => ints_at (A := A.in1) (s := s) r r' j h1 h2
    rw [l1, range_eq ns ms hz] at this
    exact this
  · rw [decide_eq_false fun e : ns = ms => hz (congrArg List.length e)]
    exact RcNeAt.lists_lengths ha hb (by rw [l1, l2]; exact bne_iff_ne.mpr hz) hu
theorem eqAt_ints {a b : Addr} {vs us : Array Value} {ns ms : List Int} (hu : A.units < cLine) (ha : s.heap.IsList a vs) (r : VSs vs.toList (ns.map .int)) (hb : s.heap.IsList b us) (r' : VSs us.toList (ms.map .int)) : EqAt A s (.ref a) (.ref b) (decide (ns = ms)) := by
  by_cases e : a = b
  · subst e
    have : vs = us := by
      obtain ⟨o, ho, _, n, hd⟩ := ha
      obtain ⟨o', ho', _, n', hd'⟩ := hb
      cases Option.some.inj (ho.symm.trans ho')
      have := hd.symm.trans hd'
      injection this
    subst this
    rw [vs_ints r r', decide_eq_true rfl]
    exact .same _
  · exact .of_refs e (rc_ints hu ha r hb r')
/-- `x == y` of int lists -/
theorem eq_ints {a b : Addr} {ao bo : AO} {ns ms : List Int} {Q : Value → Shared → Prop} (H : St C ks lm l s) (hu : C.A.units < cLine) (ha : Has a ao l) (hao : ∀ o, ao o → aLs (ns.map .int) o) (hb : Has b bo l) (hbo : ∀ o, bo o → aLs (ms.map .int) o) (h : Q (.bool (decide (ns = ms))) s) : C.X (compareOp .Eq (.ref a) (.ref b)) Q s := by
  obtain ⟨vs, h1, r⟩ := H.ints ha hao
  obtain ⟨us, h2, r'⟩ := H.ints hb hbo
  exact rc_ints hu h1 r h2 r' _ _ _ _ h
theorem ne_ints {a b : Addr} {ao bo : AO} {ns ms : List Int} {Q : Value → Shared → Prop} (H : St C ks lm l s) (hu : C.A.units < cLine) (ha : Has a ao l) (hao : ∀ o, ao o → aLs (ns.map .int) o) (hb : Has b bo l) (hbo : ∀ o, bo o → aLs (ms.map .int) o) (h : Q (.bool (decide (ns ≠ ms))) s) : C.X (compareOp .NotEq (.ref a) (.ref b)) Q s := by
  obtain ⟨vs, h1, r⟩ := H.ints ha hao
  obtain ⟨us, h2, r'⟩ := H.ints hb hbo
  exact rcNe_ints hu h1 r h2 r' _ _ _ _ h
end
end Mine
end
section
open PySem PySem.W PyProof.Rows PySem.Calls PySem.Flt PySem.SeqAt
set_option maxHeartbeats 1000000
namespace Mine
/-- what a packer's pair says -/
abbrev aPair (n : Nat) (x : Str) : AO := aTup [.int n, .str x]
abbrev Pd := Addr × Nat × Str
def pdR (pr : List Pd) : List PV := pr.map fun q => .ref q.1
theorem pair_det {o : Obj} {n m : Nat} {x y : Str} (h : aPair n x o) (k : aPair m y o) : n = m ∧ x = y := by
  obtain ⟨vs, c, rfl, r⟩ := h
  obtain ⟨us, c', e, r'⟩ := k
  injection e with _ _ e _
  injection e with e _
  subst e
  cases vs with
  | mk vs =>
  cases r with
  | cons a b =>
  cases b with
  | cons a2 b =>
  cases r' with
  | cons a' b' =>
  cases b' with
  | cons a2' b' => exact ⟨Int.ofNat.inj (vs_int a a'), vs_str a2 a2'⟩
section
variable {C : Cx} {ks : Kinds} {lm : Vars} {l : Led} {s : Shared} {A : Around}
theorem eqAt_pair {a b : Addr} {oa ob : Obj} {n m : Nat} {x y : Str} (hu : A.units < cLine) (ha : s.heap.get? a = some oa) (h : aPair n x oa) (hb : s.heap.get? b = some ob) (k : aPair m y ob) : EqAt A s (.ref a) (.ref b) (decide (n = m ∧ x = y)) := by
  by_cases e : a = b
  · subst e
    cases Option.some.inj (ha.symm.trans hb)
    rw [decide_eq_true (pair_det h k)]
    exact .same _
  obtain ⟨vs, c, rfl, r⟩ := h
  obtain ⟨us, c', rfl, r'⟩ := k
  cases vs with
  | mk vs =>
  cases us with
  | mk us =>
  cases r with
  | cons a1 r =>
  cases r with
  | cons a2 r =>
  cases r
  cases r' with
  | cons b1 r' =>
  cases r' with
  | cons b2 r' =>
  cases r'
  rename_i v1 v2 w1 w2
  have := RcAt.tuples (A := A) (e := fun j => if j = 0 then decide ((n : Int) = m) else decide (x = y)) ⟨_, ha, rfl, c, rfl⟩ ⟨_, hb, rfl, c', rfl⟩ hu fun j h1 h2 => by
    match j, h1, h2 with
    | 0, _, _ => exact eqAt_int a1 b1
    | 1, _, _ => exact eqAt_str a2 b2
    | j + 2, h1, _ => exact absurd h1 (by simp)
  have e2 : ((List.range (min (#[v1, v2] : Array Value).size (#[w1, w2] : Array Value).size)).all (fun j => if j = 0 then decide ((n : Int) = m) else decide (x = y)) && (#[v1, v2] : Array Value).size == (#[w1, w2] : Array Value).size) = decide (n = m ∧ x = y) := by
    show ((if 0 = 0 then decide ((n : Int) = m) else decide (x = y)) && ((if 1 = 0 then decide ((n : Int) = m) else decide (x = y)) && true) && true) = _
    rw [if_pos rfl, if_neg (by decide), Bool.and_true, Bool.and_true, Bool.decide_and]
    congr 1
    exact decide_eq_decide.mpr Int.ofNat_inj
  rw [e2] at this
  exact .of_refs e this
open Classical in
/-- the items of a list that are such pairs -/
noncomputable def isPair (h : Heap) (n : Nat) (x : Str) (v : Value) : Bool := decide (∃ a o, v = .ref a ∧ h.get? a = some o ∧ aPair n x o)
open Classical in
theorem isPair_of {h : Heap} {a : Addr} {o : Obj} {n m : Nat} {x y : Str} (ho : h.get? a = some o) (k : aPair n x o) : isPair h m y (.ref a) = decide (n = m ∧ x = y) := by
  unfold isPair
  by_cases e : n = m ∧ x = y
  · obtain ⟨rfl, rfl⟩ := e
    rw [decide_eq_true ⟨a, o, rfl, ho, k⟩, decide_eq_true ⟨rfl, rfl⟩]
  · rw [decide_eq_false e, decide_eq_false]
    rintro ⟨b, o', e1, ho', k'⟩
    cases e1
    cases Option.some.inj (ho.symm.trans ho')
    exact e (pair_det k k')
/-- the pairs' list in the ledger -/
theorem pd_items (H : St C ks lm l s) {P : Addr} {pr : List Pd} (hP : Has P (aList (pdR pr)) l) (hp : ∀ q ∈ pr, Has q.1 (aPair q.2.1 q.2.2) l) :
    ∃ vs n, s.heap.get? P = some { cls := .type "list", data := .seq vs n } ∧ vs.size = pr.length ∧ ∀ j (h1 : j < vs.size) (h2 : j < pr.length), ∃ o, vs[j] = .ref pr[j].1 ∧ s.heap.get? pr[j].1 = some o ∧ aPair pr[j].2.1 pr[j].2.2 o := by
  obtain ⟨_, ho, vs, n, rfl, r⟩ := H.mem hP
  have hz : vs.size = pr.length := by have := r.length; unfold pdR at this; rw [List.length_map] at this; exact this
  refine ⟨vs, n, ho, hz, fun j h1 h2 => ?_⟩
  obtain ⟨v, hv, t, q⟩ := Paired.get r (i := j) (b := .ref pr[j].1) (by unfold pdR; rw [List.getElem?_map, List.getElem?_eq_getElem h2]; rfl)
  rw [Array.getElem?_toList, Array.getElem?_eq_getElem h1] at hv
  obtain ⟨o, ho, k⟩ := H.mem (hp pr[j] (List.getElem_mem h2))
  exact ⟨o, (Option.some.inj hv).trans q, ho, k⟩
theorem in_pairs {P x : Addr} {pr : List Pd} {n : Nat} {y : Str} {Q : Value → Shared → Prop} (H : St C ks lm l s) (hA : Ok C.A 1) (hP : Has P (aList (pdR pr)) l) (hp : ∀ q ∈ pr, Has q.1 (aPair q.2.1 q.2.2) l) (hx : Has x (aPair n y) l) (h : Q (.bool (decide ((n, y) ∈ pr.map (·.2)))) s) : C.X (compareOp .In (.ref x) (.ref P)) Q s := by
  obtain ⟨vs, c, hL, hz, hi⟩ := pd_items H hP hp
  obtain ⟨ox, hox, kx⟩ := H.mem hx
  have hu : C.A.in1.units < cLine := (hA.in1 (n := 0)).units
  refine in_listAt (isPair s.heap n y) ⟨_, hL, rfl, c, rfl⟩ (fun v hv => ?_) ?_
  · obtain ⟨j, h1, rfl⟩ := Array.mem_iff_getElem.mp hv
    obtain ⟨o, e1, e2, e3⟩ := hi j h1 (hz ▸ h1)
    rw [e1, isPair_of e2 e3]
    exact eqAt_pair hu e2 e3 hox kx
  · have : vs.any (isPair s.heap n y) = decide ((n, y) ∈ pr.map (·.2)) := by
      rw [Bool.eq_iff_iff, Array.any_eq_true, decide_eq_true_eq, List.mem_map]
      constructor
      · rintro ⟨j, h1, e⟩
        obtain ⟨o, e1, e2, e3⟩ := hi j h1 (hz ▸ h1)
        rw [e1, isPair_of e2 e3] at e
        obtain ⟨e4, e5⟩ := of_decide_eq_true e
        exact ⟨pr[j], List.getElem_mem _, Prod.ext e4 e5⟩
      · rintro ⟨q, hq, e⟩
        obtain ⟨j, h2, rfl⟩ := List.mem_iff_getElem.mp hq
        obtain ⟨o, e1, e2, e3⟩ := hi j (hz ▸ h2) h2
        exact ⟨j, hz ▸ h2, by rw [e1, isPair_of e2 e3, e]; exact decide_eq_true ⟨rfl, rfl⟩⟩
    rw [this]; exact h
theorem idx_first {α : Type} [BEq α] [LawfulBEq α] {l : List α} {a : α} (h : a ∈ l) : ∃ j, l.idxOf a = j ∧ ∃ hj : j < l.length, l[j] = a ∧ ∀ m (hm : m < l.length), m < j → l[m] ≠ a := by
  have hj := List.idxOf_lt_length_iff.mpr h
  refine ⟨_, rfl, hj, List.getElem_idxOf hj, fun m hm hlt e => ?_⟩
  have := List.not_of_lt_findIdx (p := fun x => x == a) (xs := l) (i := m) hlt
  simp [e] at this
theorem index_pairs {P x : Addr} {pr : List Pd} {n : Nat} {y : Str} {Q : Value → Shared → Prop} (H : St C ks lm l s) (hA : Ok C.A 1) (hP : Has P (aList (pdR pr)) l) (hp : ∀ q ∈ pr, Has q.1 (aPair q.2.1 q.2.2) l) (hx : Has x (aPair n y) l) (hl : pr.length ≤ 1000) (hm : (n, y) ∈ pr.map (·.2))
    (h : ∀ v s', VS v (.int ((pr.map (·.2)).idxOf (n, y) : Nat)) → St C ks lm l s' → Q v s') : C.X (call (.builtin "list.index") [.ref P, .ref x]) Q s := by
  obtain ⟨vs, c, hL, hz, hi⟩ := pd_items H hP hp
  obtain ⟨ox, hox, kx⟩ := H.mem hx
  have hu : C.A.in1.units < cLine := (hA.in1 (n := 0)).units
  obtain ⟨j, ej, hj, e1, e2⟩ := idx_first hm
  rw [ej] at h
  have hj2 : j < pr.length := by rw [List.length_map] at hj; exact hj
  refine call_meets PySem.F.slot_list_index ⟨_, hL, rfl⟩ PySem.F.entry_list_index (PySem.F.args_list_index_2 _ _)
    (list_indexAt P vs c none #[] (.ref x) (isPair s.heap n y) j (hz ▸ hj2) (by omega) ?_ ?_) ⟨hL, fun v hv => ?_, h _ _ (.mk (.int _) _) (H.toks _)⟩
  · obtain ⟨o, g1, g2, g3⟩ := hi j (hz ▸ hj2) hj2
    rw [g1, isPair_of g2 g3]
    rw [List.getElem_map] at e1
    rw [e1]; exact decide_eq_true ⟨rfl, rfl⟩
  · intro m hm hlt
    obtain ⟨o, g1, g2, g3⟩ := hi m hm (hz ▸ hm)
    rw [g1, isPair_of g2 g3]
    refine decide_eq_false fun w => e2 m (by rw [List.length_map]; exact hz ▸ hm) hlt ?_
    rw [List.getElem_map]
    exact Prod.ext w.1 w.2
  · obtain ⟨j, h1, rfl⟩ := Array.mem_iff_getElem.mp hv
    obtain ⟨o, g1, g2, g3⟩ := hi j h1 (hz ▸ h1)
    rw [g1, isPair_of g2 g3]
    have : C.A.in1.in1 = C.A.in1.in1 := rfl
    exact eqAt_pair (by first | exact hu | exact (Ok.in1 (n := 0) (Ok.in1 (n := 1) (hA.less (by decide)))).units) g2 g3 hox kx
end
end Mine
end
section
open PySem PySem.W PyProof.Rows PySem.Calls PySem.Flt PySem.SeqAt
set_option maxHeartbeats 1000000
namespace Mine
/-! the table of the signs -/
noncomputable def entsOf (P : Params) : List DictEntry := match (ob15 P).data with
  | .dict es _ => es.toList
  | _ => []
noncomputable def isSI (e : DictEntry) : Bool := match e.key with
  | .str _ _ => match e.val with
    | .int _ _ => true
    | _ => false
  | _ => false
noncomputable def toD (e : DictEntry) : Str × KTD.Dat := match e.key with
  | .str x _ => match e.val with
    | .int i _ => (x, .flat (.int i))
    | _ => (x, .flat .none)
  | _ => (Str.empty, .flat .none)
theorem rows_of (h : Heap) {es : List DictEntry} (hs : es.all isSI = true) : KTD.Rows (KTD.Dat.At h) es (es.map toD) := by
  induction es with
  | nil => exact .nil
  | cons e r ih =>
    obtain ⟨h1, h2⟩ := Bool.and_eq_true_iff.mp (show (isSI e && r.all isSI) = true by rw [← List.all_cons]; exact hs)
    obtain ⟨hh, k, v⟩ := e
    cases k with
    | str x t =>
      cases v with
      | int i u => exact .cons (x := x) (t := t) rfl (fun h => .int i u) (ih h2)
      | _ => cases h1
    | _ => cases h1
theorem ents_si (P : Params) : (entsOf P).all isSI = true := by kernel_rfl
theorem ents_p0 (P : Params) : (entsOf P).map toD = (entsOf P0).map toD := by kernel_rfl
noncomputable def tabD : List (Str × KTD.Dat) := (entsOf P0).map toD
theorem at15 (P : Params) : (KH P).lookup 15 = some (ob15 P) := by kernel_rfl
theorem ob15_dict (P : Params) : (ob15 P).ExactDict ∧ (ob15 P).data = .dict (entsOf P).toArray (match (ob15 P).data with | .dict _ n => n | _ => 0) := ⟨⟨rfl, rfl, rfl⟩, rfl⟩
theorem here15 {C : Cx} {h : Heap} (hk : ∀ b o, C.g.get? b = some o → h.get? b = some o) : KTD.Here C.g h 15 tabD :=
  ⟨⟨by decide +kernel, _, _, _, C.G.X _ _ (at15 _), (ob15_dict _).1, (ob15_dict _).2, by
    rw [show tabD = (entsOf C.w.params).map toD from (ents_p0 _).symm]
    exact rows_of _ (ents_si _)⟩, hk⟩
noncomputable def sign (i : Nat) : Str := signRow.getD i Str.empty
theorem sign_at {i : Nat} (h : i < 48) : signRow[i]? = some (sign i) := by
  have hlen : signRow.length = 48 := by decide +kernel
  unfold sign
  rw [List.getD_eq_getElem?_getD, List.getElem?_eq_getElem (hlen ▸ h)]
  rfl
noncomputable def numOf (x : Str) : Int := match KTD.datumAt x tabD with
  | some (.flat (.int i)) => i
  | _ => -1
theorem tab_all : ((List.range 48).all fun i => KTD.inKeys (sign i) tabD && decide (numOf (sign i) = ((i + 7 : Nat) : Int))) = true := by decide +kernel
theorem tab_plain : (tabD.all fun p => KTD.plain p.2) = true := by decide +kernel
theorem tab_at {i : Nat} (h : i < 48) : KTD.inKeys (sign i) tabD = true ∧ KTD.datumAt (sign i) tabD = some (.flat (.int ((i + 7 : Nat) : Int))) := by
  have := List.all_eq_true.mp tab_all i (List.mem_range.mpr h)
  obtain ⟨h1, h2⟩ := Bool.and_eq_true_iff.mp this
  refine ⟨h1, ?_⟩
  have h2 := of_decide_eq_true h2
  unfold numOf at h2
  split at h2
  · rename_i e; rw [e, h2]
  · omega
theorem eachL_of {κ : Type} [DecidableEq κ] {h₀ : Heap} {k : κ} {P : Value → Prop} {D : List (κ × KTD.Dat)} (h : ∀ d, KTD.datumAt k D = some d → KTD.Opened h₀ P d) : KTD.EachL h₀ k P D := by
  induction D with
  | nil => exact trivial
  | cons p D ih =>
    obtain ⟨x, d⟩ := p
    by_cases e : k = x
    · exact KTD.eachL_hit e (h d (by unfold KTD.datumAt; rw [if_pos (decide_eq_true e)]))
    · exact KTD.eachL_miss e (ih fun d' hd => h d' (by unfold KTD.datumAt; rw [if_neg (by simp [e])]; exact hd))
section
variable {C : Cx} {ks : Kinds} {lm : Vars} {l rest : Led} {s : Shared}
/-- `EXACT_TOKEN_TYPES[word]` -/
theorem tok_num {i : Nat} {v : Value} {value slice : Expr} {Q : Value → Shared → Prop} (H : St C ks lm l s) (hi : i < 48) (hv : VS v (.str (sign i))) (h : ∀ v s', VS v (.int ((i + 7 : Nat) : Int)) → St C ks lm l s' → Q v s')
    (hs : ∀ t, subscripted slice false (.ref 15) (.str (sign i) t) = operate [.ref 15, .str (sign i) t] (getItem (.ref 15) (.str (sign i) t)) := by intro _; rfl) : C.X (subscriptTail value slice (.ref 15) v) Q s := by
  obtain ⟨t, rfl⟩ := hv
  obtain ⟨h1, h2⟩ := tab_at hi
  refine KTD.item_textA (here15 H.keep) tab_plain h1 (eachL_of fun d hd => ?_) (hs t)
  cases Option.some.inj (h2.symm.trans hd)
  exact KTD.opened_int fun u => h _ _ (.mk (.int _) u) (H.toks _)
end
end Mine
end
section
open PySem PySem.W PyProof.Rows PySem.Calls PySem.Flt PySem.SeqAt
set_option maxHeartbeats 1000000
namespace Mine
/-! words as they stand in the text -/
structure Wd where
  w : List Str
  e : Bool
  q : Bool
  b : Str
structure Wd.Ok (d : Wd) : Prop where
  plain : ∀ y ∈ d.w, Plain y
  ne : d.w ≠ []
  len : d.w.length ≤ 100
  ws : isWs d.b = true
  b : d.b ≠ Str.ofString ""
def Wd.txt (d : Wd) : List PV := dress d.e d.q d.w d.b
def Wd.str (d : Wd) : Str := glue (Str.ofString "") d.w
def Wd.nl (d : Wd) : Int := if d.q = false ∧ d.b = nlc then 1 else 0
def text (ws : List Wd) : List PV := ws.flatMap Wd.txt
def lines (ws : List Wd) : Int := (ws.map Wd.nl).sum
def wrd (ws : List Wd) (p : Nat) : Str := match ws[p]? with
  | some d => d.str
  | none => Str.ofString ""
theorem Wd.signs {d : Wd} (h : d.Ok) : Signs d.txt := by
  unfold Wd.txt dress
  cases d.q with
  | true => exact Signs.cons (by decide) ((enc_sign h.plain).app (Signs.cons (by decide) fun p hp => (nomatch hp)))
  | false => exact (enc_sign h.plain).app (Signs.cons h.b fun p hp => (nomatch hp))
theorem text_signs {ws : List Wd} (h : ∀ d ∈ ws, d.Ok) : Signs (text ws) := fun p hp => by
  obtain ⟨d, hd, hp⟩ := List.mem_flatMap.mp hp
  exact Wd.signs (h d hd) p hp
theorem text_drop {ws : List Wd} {p : Nat} {d : Wd} (h : ws[p]? = some d) : text (ws.drop p) = d.txt ++ text (ws.drop (p + 1)) := by
  have hlt := (List.getElem?_eq_some_iff.mp h).1
  rw [List.drop_eq_getElem_cons hlt, (List.getElem?_eq_some_iff.mp h).2]
  rfl
theorem lines_take {ws : List Wd} {p : Nat} {d : Wd} (h : ws[p]? = some d) : lines (ws.take (p + 1)) = lines (ws.take p) + d.nl := by
  unfold lines
  rw [List.take_add_one, h, List.map_append, List.sum_append]
  simp
theorem text_len {ws : List Wd} {p : Nat} (h : (text ws).length ≤ 1000) : (text (ws.drop p)).length ≤ 1000 := by
  have e : text ws = text (ws.take p) ++ text (ws.drop p) := by
    conv => lhs; rw [← List.take_append_drop p ws]
    unfold text
    rw [List.flatMap_append]
  rw [e, List.length_append] at h
  omega
theorem g87 (P : Params) : (plainGet (KH P) 97 "get_token" && isFn (KH P) (.ref 87)) = true := by kernel_rfl
theorem f87 (P : Params) : findIn (KH P) (.ref 97) "get_token" = some (some (.ref 87)) := by kernel_rfl
theorem g94 (P : Params) : (plainGet (KH P) 97 "push_token" && isFn (KH P) (.ref 94)) = true := by kernel_rfl
theorem f94 (P : Params) : findIn (KH P) (.ref 97) "push_token" = some (some (.ref 94)) := by kernel_rfl
section
variable {C : Cx} {ks : Kinds} {lm : Vars} {l rest : Led} {s : Shared}
theorem get_tok {a : LexA} {ws : List Wd} {p : Nat} {Q : Value → Shared → Prop} (H : St C ks lm (lexL a (1 + lines (ws.take p)) [] (text (ws.drop p)) rest) s) (hA : Ok C.A 4) (hok : ∀ d ∈ ws, d.Ok) (hl : (text ws).length ≤ 1000)
    (h : ∀ v s', VS v (.str (wrd ws p)) → St C ks lm (lexL a (1 + lines (ws.take (p + 1))) [] (text (ws.drop (p + 1))) rest) s' → Q v s') : C.X (call (.ref 87) [.ref a.x]) Q s := by
  unfold wrd at h
  cases e : ws[p]? with
  | none =>
    rw [e] at h
    have hp : ws.length ≤ p := List.getElem?_eq_none_iff.mp e
    rw [List.take_of_length_le hp, List.drop_of_length_le hp] at H
    rw [List.take_of_length_le (Nat.le_succ_of_le hp), List.drop_of_length_le (Nat.le_succ_of_le hp)] at h
    exact get_end H hA h
  | some d =>
    rw [e] at h
    have hd := hok d (List.mem_of_getElem? e)
    have hl2 := text_len (p := p) hl
    rw [text_drop e] at H hl2
    refine get_word H hA hd.plain hd.ne hd.len hd.ws hd.b (text_signs fun d' hd' => hok d' (List.mem_of_mem_drop hd')) hl2 fun v s' hv H' => h v s' hv ?_
    rw [lines_take e]
    unfold Wd.nl
    split at H'
    · rename_i c; rw [if_pos c]; rw [Int.add_assoc] at H'; exact H'
    · rename_i c; rw [if_neg c, Int.add_zero]; exact H'
/-- an object behind the lexer's -/
theorem St.under {o : Addr × AO} {a : LexA} {ln : Int} {tk cs : List PV} (H : St C ks lm (o :: lexL a ln tk cs rest) s) : St C ks lm (lexL a ln tk cs (o :: rest)) s :=
  H.perm (List.perm_append_comm_assoc [o] (lexL a ln tk cs []) rest)
theorem inLex {a : LexA} {ln : Int} {tk cs : List PV} {b : Addr} {ao : AO} (h : Has b ao rest) : Has b ao (lexL a ln tk cs rest) := List.mem_append_right (lexL a ln tk cs []) h
end
end Mine
end
section
open PySem PySem.W PyProof.Rows PySem.Calls PySem.Flt PySem.SeqAt
set_option maxHeartbeats 4000000
namespace Mine
theorem d141 : Def 141 ["lexer", "signs"] := ⟨fun P => by kernel_rfl, fun P => by kernel_rfl, by kernel_rfl, fun a b => by kernel_rfl, by kernel_rfl, by kernel_rfl, by kernel_rfl, by kernel_rfl⟩
noncomputable def k141 : Kinds := [("lexer", .local), ("signs", .local), ("numbers", .local), ("left", .local), ("pairs", .local), ("word", .local), ("number", .local), ("EXACT_TOKEN_TYPES", .globalImplicit), ("NT_OFFSET", .globalImplicit), ("len", .globalImplicit)]
/-- the packer, as its steps tell it -/
inductive Grow (W : Nat → Str) (ps : List (Nat × Str)) (n j : Nat) : Nat → Nat → Prop
  | refl : Grow W ps n j n j
  | step {m k : Nat} : Grow W ps n j m k → (m, W k) ∈ ps → Grow W ps n j (256 + ps.idxOf (m, W k)) (k + 1)
inductive Packed (W : Nat → Str) (num : Nat → Nat) : List Nat → List Nat → List (Nat × Str) → Nat → Prop
  | nil : Packed W num [] [] [] 0
  | step {ns cs : List Nat} {ps : List (Nat × Str)} {c n j : Nat} : Packed W num ns cs ps c → W c ≠ Str.ofString "" → Grow W ps (num c) (c + 1) n j → (n, W j) ∉ ps → Packed W num (ns ++ [n]) (cs ++ [j]) (ps ++ [(n, W j)]) j
noncomputable def lmP (a : LexA) (x : Str) (N F P : Addr) : Vars := [("word", .str x), ("lexer", .ref a.x), ("signs", .ref a.sg), ("numbers", .ref N), ("left", .ref F), ("pairs", .ref P)]
def intsN (ns : List Nat) : List PV := ns.map fun n : Nat => PV.int n
def lefts (ws : List Wd) (cs : List Nat) : List PV := cs.map fun j : Nat => PV.int ((text (ws.drop (j + 1))).length : Nat)
theorem grow_ge {W : Nat → Str} {ps : List (Nat × Str)} {n j m k : Nat} (h : Grow W ps n j m k) : j ≤ k := by
  induction h with
  | refl => exact Nat.le_refl _
  | step _ _ ih => exact Nat.le_succ_of_le ih
theorem wrd_lt {ws : List Wd} {p : Nat} (h : wrd ws p ≠ Str.ofString "") : p < ws.length := by
  rcases Nat.lt_or_ge p ws.length with h' | h'
  · exact h'
  · unfold wrd at h
    rw [List.getElem?_eq_none_iff.mpr h'] at h
    exact absurd rfl h
section
variable {C : Cx} {ks : Kinds} {lm : Vars} {l rest : Led} {s : Shared}
/-- the first word of a turn -/
theorem take_first {a : LexA} {ws : List Wd} {c pp : Nat} {tk : List PV} {Q : Value → Shared → Prop} (hA : Ok C.A 4) (hok : ∀ d ∈ ws, d.Ok) (hl : (text ws).length ≤ 1000) (hc : (tk = [] ∧ pp = c) ∨ (tk = [.str (wrd ws c)] ∧ pp = c + 1))
    (H : St C ks lm (lexL a (1 + lines (ws.take pp)) tk (text (ws.drop pp)) rest) s)
    (h : ∀ v s', VS v (.str (wrd ws c)) → St C ks lm (lexL a (1 + lines (ws.take (c + 1))) [] (text (ws.drop (c + 1))) rest) s' → Q v s') : C.X (call (.ref 87) [.ref a.x]) Q s := by
  rcases hc with ⟨rfl, rfl⟩ | ⟨rfl, rfl⟩
  · exact get_tok H hA hok hl h
  · exact get_pushed H (hA.less (by decide)) (by decide) h
/-- the packer's inner loop -/
theorem inner_ok {a : LexA} {ws : List Wd} {N F P : Addr} {ns cs : List Nat} {pr : List Pd} {m0 c : Nat} {pool : Led} {Q : Flow → Shared → Prop} (hA : Ok C.A 5) (hok : ∀ d ∈ ws, d.Ok) (hl : (text ws).length ≤ 1000) (hpr : ∀ q ∈ pr, Has q.1 (aPair q.2.1 q.2.2) pool) (hpw : ∀ q ∈ pr, q.2.2 ≠ Str.ofString "") (hpl : pr.length ≤ 1000) (hc : c < ws.length)
    (H : St C k141 (("number", .int m0) :: lmP a (wrd ws (c + 1)) N F P) (lexL a (1 + lines (ws.take (c + 2))) [] (text (ws.drop (c + 2))) ((N, aList (intsN ns)) :: (F, aList (lefts ws cs)) :: (P, aList (pdR pr)) :: pool)) s)
    (h : ∀ m j pool' s', pool <:+ pool' → j ≤ ws.length → Grow (wrd ws) (pr.map (·.2)) m0 (c + 1) m j → (m, wrd ws j) ∉ pr.map (·.2) → St C k141 (("number", .int m) :: lmP a (wrd ws j) N F P) (lexL a (1 + lines (ws.take (j + 1))) [] (text (ws.drop (j + 1))) ((N, aList (intsN ns)) :: (F, aList (lefts ws cs)) :: (P, aList (pdR pr)) :: pool')) s' → C.B ((wbody ((bodyOf 141).drop 4)).drop 3) Q s') :
    C.B ((wbody ((bodyOf 141).drop 4)).drop 2) Q s := by
  refine seq_while (fun d s => ∃ m j pool', d = ws.length - j ∧ pool <:+ pool' ∧ j ≤ ws.length ∧ Grow (wrd ws) (pr.map (·.2)) m0 (c + 1) m j ∧ St C k141 (("number", .int m) :: lmP a (wrd ws j) N F P) (lexL a (1 + lines (ws.take (j + 1))) [] (text (ws.drop (j + 1))) ((N, aList (intsN ns)) :: (F, aList (lefts ws cs)) :: (P, aList (pdR pr)) :: pool')) s) (fun d s hI => ?_) (ws.length - (c + 1)) ⟨m0, c + 1, pool, rfl, List.suffix_refl _, hc, .refl, H⟩
  clear H
  obtain ⟨m, j, pool', rfl, hs, hj, hg, H⟩ := hI
  have inP : ∀ {x : Addr × AO} {q : Pd}, q ∈ pr → Has q.1 (aPair q.2.1 q.2.2) (x :: lexL a (1 + lines (ws.take (j + 1))) [] (text (ws.drop (j + 1))) ((N, aList (intsN ns)) :: (F, aList (lefts ws cs)) :: (P, aList (pdR pr)) :: pool')) := fun hq => .tail _ (inLex (.tail _ (.tail _ (.tail _ (hs.subset (hpr _ hq))))))
  have inL : ∀ {x : Addr × AO}, Has P (aList (pdR pr)) (x :: lexL a (1 + lines (ws.take (j + 1))) [] (text (ws.drop (j + 1))) ((N, aList (intsN ns)) :: (F, aList (lefts ws cs)) :: (P, aList (pdR pr)) :: pool')) := .tail _ (inLex (.tail _ (.tail _ (.head _))))
  refine wpAny_isTrue_Compare1 (Tuple_ev 1 H (ps := [.int m, .str (wrd ws j)]) rfl (fun x s₁ H₁ => Name_ok H₁ (p := .ref P) rfl fun v hv => ?_) (show 2 ≤ 1000 by decide))
  obtain ⟨_, rfl⟩ := hv
  refine in_pairs H₁ (hA.less (by decide)) inL (fun q hq => inP hq) (.head _) (wpAny_truthy_bool ⟨fun e => ?_, fun e => ?_⟩)
  · have hm := of_decide_eq_true e
    have hlt : j < ws.length := by
      obtain ⟨q, hq, e⟩ := List.mem_map.mp hm
      exact wrd_lt (by have := hpw q hq; rw [e] at this; exact this)
    have H₂ := H₁.drop1
    refine seq_assign (wpAny_BinOp (ev_ok 1 H₂ (p := .int 256) rfl fun v1 s₂ hv1 H₂ => Call_lm H₂ (i := 11) rfl rfl PySem.F.slot_list_index PySem.F.type_list_index (callB (wpAny_items_cons (Tuple_ev 1 H₂ (ps := [.int m, .str (wrd ws j)]) rfl (fun y s₃ H₃ => wpAny_items_nil (index_pairs H₃ (hA.less (by decide)) inL (fun q hq => inP hq) (.head _) hpl hm fun v2 s₄ hv2 H₄ => ?_)) (show 2 ≤ 1000 by decide)) rfl))))
    obtain ⟨t1, rfl⟩ := hv1
    obtain ⟨t2, rfl⟩ := hv2
    refine (bin_ok (op := .Add) (a := .int 256) (b := .int _) (c := .int ((256 + (pr.map (·.2)).idxOf (m, wrd ws j) : Nat) : Int)) (by show some (PV.int (256 + _)) = _; push_cast; rfl)).ok _ _ _ _ _ _ _ _ H₄.tk fun t3 tk3 q3 => storeL (H₄.toks tk3 q3) rfl (.mk (.int _) t3) fun s₅ H₅ => ?_
    refine seq_assign (Meth0 (i := 4) (j := 1) d87 H₅.under rfl rfl rfl g87 f87 rfl (get_tok H₅.under (hA.less (by decide)) hok hl fun v s₆ hv H₆ => storeL H₆ rfl hv fun s₇ H₇ => seq_nil ?_))
    refine ⟨ws.length - (j + 1), by omega, 256 + (pr.map (·.2)).idxOf (m, wrd ws j), j + 1, _, rfl, hs.trans (List.suffix_cons (y, aPair m (wrd ws j)) pool'), hlt, hg.step hm, ?_⟩
    exact St.norm (H₇.perm (List.Perm.append_left (lexL a (1 + lines (ws.take (j + 1 + 1))) [] (text (ws.drop (j + 1 + 1))) []) (toFront (e := [(y, aPair m (wrd ws j))])))) ⟨rfl, rfl, rfl, rfl, rfl, rfl, rfl, trivial⟩
  · have hm := of_decide_eq_false e
    exact then_next (h m j pool' _ hs hj hg hm H₁.drop1)
end
end Mine
end
section
open PySem PySem.W PyProof.Rows PySem.Calls PySem.Flt PySem.SeqAt
set_option maxHeartbeats 4000000
namespace Mine
theorem packed_len {W : Nat → Str} {num : Nat → Nat} {ns cs : List Nat} {ps : List (Nat × Str)} {c : Nat} (h : Packed W num ns cs ps c) : ns.length = ps.length ∧ cs.length = ps.length ∧ ps.length ≤ c := by
  induction h with
  | nil => exact ⟨rfl, rfl, Nat.le_refl _⟩
  | step _ _ hg _ ih =>
    have := grow_ge hg
    simp only [List.length_append, List.length_singleton]
    omega
section
variable {C : Cx} {ks : Kinds} {lm : Vars} {l rest : Led} {s : Shared}
/-- behind some turns -/
def StP (C : Cx) (a : LexA) (ws : List Wd) (num : Nat → Nat) (N F P : Addr) (rest : Led) (c : Nat) (x : Str) (s : Shared) : Prop :=
  ∃ ns cs pr tk pp pool, c ≤ ws.length ∧ ((c = 0 ∧ x = Str.ofString " " ∧ tk = [] ∧ pp = c) ∨ (x = wrd ws c ∧ tk = [.str (wrd ws c)] ∧ pp = c + 1)) ∧ Packed (wrd ws) num ns cs (pr.map (·.2)) c ∧ (∀ q ∈ pr, Has q.1 (aPair q.2.1 q.2.2) pool) ∧ (x ≠ Str.ofString "" → ∀ q ∈ pr, q.2.2 ≠ Str.ofString "") ∧
    rest <:+ pool ∧ St C k141 (lmP a x N F P) (lexL a (1 + lines (ws.take pp)) tk (text (ws.drop pp)) ((N, aList (intsN ns)) :: (F, aList (lefts ws cs)) :: (P, aList (pdR pr)) :: pool)) s
theorem turnP {a : LexA} {ws : List Wd} {num : Nat → Nat} {N F P : Addr} {c : Nat} {x : Str} (hA : Ok C.A 5) (hok : ∀ d ∈ ws, d.Ok) (hl : (text ws).length ≤ 1000) (hlen : ws.length ≤ 100) (hne : 0 < ws.length) (hW : ∀ c, c < ws.length → ∃ i, i < 48 ∧ wrd ws c = sign i ∧ num c = i + 7 ∧ wrd ws c ≠ Str.ofString "")
    (hx : x ≠ Str.ofString "") (H : StP C a ws num N F P rest c x s) :
    C.B (wbody ((bodyOf 141).drop 4)) (fun f s' => f = .next ∧ ∃ j, c < j ∧ StP C a ws num N F P rest j (wrd ws j) s') s := by
  obtain ⟨ns, cs, pr, tk, pp, pool, hc, hx2, hP, hpr, hpw, hs, H⟩ := H
  have hlt : c < ws.length := by
    rcases hx2 with ⟨rfl, -⟩ | ⟨e, -⟩
    · exact hne
    · exact wrd_lt (e ▸ hx)
  have htk : (tk = [] ∧ pp = c) ∨ (tk = [.str (wrd ws c)] ∧ pp = c + 1) := by
    rcases hx2 with ⟨-, -, e⟩ | ⟨-, e⟩
    · exact .inl e
    · exact .inr e
  obtain ⟨i, hi, ei, en, ew⟩ := hW c hlt
  obtain ⟨z1, z2, z3⟩ := packed_len hP
  have hpl : pr.length ≤ 100 := by rw [List.length_map] at z3; omega
  refine seq_assign (Subscript_ (Name_ok H (p := .ref 15) rfl fun v hv => ?_))
  obtain ⟨_, rfl⟩ := hv
  refine Meth0 (i := 4) (j := 1) d87 H rfl rfl rfl g87 f87 rfl (take_first (hA.less (by decide)) hok hl htk H fun v s₁ hv H₁ => tok_num H₁ hi (ei ▸ hv) fun v2 s₂ hv2 H₂ => storeL H₂ rfl hv2 fun s₃ H₃ => ?_)
  refine seq_assign (Meth0 (i := 4) (j := 1) d87 H₃ rfl rfl rfl g87 f87 rfl (get_tok (p := c + 1) H₃ (hA.less (by decide)) hok hl fun v s₄ hv H₄ => storeL H₄ rfl hv fun s₅ H₅ => ?_))
  refine inner_ok (m0 := i + 7) (c := c) hA hok hl hpr (hpw hx) (by omega) hlt (H₅.norm ⟨rfl, rfl, rfl, rfl, rfl, rfl, rfl, trivial⟩) fun m j pool2 s₆ q1 q2 q3 q4 H₆ => ?_
  -- numbers.append(number)
  have hnz : (intsN ns).length ≤ 1000000 := by unfold intsN; rw [List.length_map]; omega
  have hcz : (lefts ws cs).length ≤ 1000000 := by unfold lefts; rw [List.length_map]; omega
  have hpz : (pdR pr).length ≤ 1000000 := by unfold pdR; rw [List.length_map]; omega
  refine do_app (i := 9) H₆ rfl rfl (ev_ok 1 H₆ (p := .int m) rfl fun v s₇ hv H₇ => ⟨9, _, _, intsN ns, .int m, hv, H₇, rfl, hnz, fun s₈ H₈ => ?_⟩)
  have H₈ : St C k141 (("number", .int m) :: lmP a (wrd ws j) N F P) (lexL a (1 + lines (ws.take (j + 1))) [] (text (ws.drop (j + 1))) ((N, aList (intsN ns ++ [.int m])) :: (F, aList (lefts ws cs)) :: (P, aList (pdR pr)) :: pool2)) s₈ := H₈
  refine do_app (i := 11) H₈ rfl rfl (Tuple_ev 1 H₈ (ps := [.int m, .str (wrd ws j)]) rfl (fun y s₉ H₉ => ⟨12, _, _, pdR pr, .ref y, .raw _, H₉, rfl, hpz, fun s₁₀ H₁₀ => ?_⟩) (show 2 ≤ 1000 by decide))
  have H₁₁ : St C k141 (("number", .int m) :: lmP a (wrd ws j) N F P) (lexL a (1 + lines (ws.take (j + 1))) [] (text (ws.drop (j + 1))) ((N, aList (intsN ns ++ [.int m])) :: (F, aList (lefts ws cs)) :: (P, aList (pdR pr ++ [.ref y])) :: (y, aPair m (wrd ws j)) :: pool2)) s₁₀ :=
    St.perm (St.under H₁₀) (List.Perm.append_left (lexL a (1 + lines (ws.take (j + 1))) [] (text (ws.drop (j + 1))) []) (toFront (e := [(y, aPair m (wrd ws j))])))
  -- lexer.push_token(word)
  refine seq_expr H₁₁.V (MethN (i := 4) (j := 1) 1 d94 H₁₁ rfl rfl rfl g94 f94 rfl (ps := [.str (wrd ws j)]) rfl fun vs s₁₂ hvs H₁₂ => ?_)
  cases hvs with
  | cons hv1 hvs =>
  cases hvs
  refine push_token H₁₂ (hA.less (by decide)) hv1 (by decide) fun s₁₃ H₁₃ => ?_
  -- left.append(len(signs))
  have hsz : (text (ws.drop (j + 1))).length ≤ 1000 := text_len hl
  refine do_app (i := 10) H₁₃ rfl rfl (len_ev H₁₃ rfl (a := a.sg) (ps := (text (ws.drop (j + 1))).reverse) rfl (.tail _ (.tail _ (.tail _ (.head _)))) (fun _ h => aList.ls h) (by rw [List.length_reverse]; omega) fun v s₁₄ hv H₁₄ => ⟨10, _, _, lefts ws cs, .int (text (ws.drop (j + 1))).length, by rw [List.length_reverse] at hv; exact hv, H₁₄, rfl, hcz, fun s₁₅ H₁₅ => seq_nil ?_⟩)
  refine ⟨rfl, j, grow_ge q3, ns ++ [m], cs ++ [j], pr ++ [(y, m, wrd ws j)], [.str (wrd ws j)], j + 1, (y, aPair m (wrd ws j)) :: pool2, q2, .inr ⟨rfl, rfl, rfl⟩, ?_, fun q hq => ?_, fun hw q hq => ?_, (hs.trans q1).trans (List.suffix_cons _ _), ?_⟩
  · rw [List.map_append]
    exact hP.step ew (by rw [en]; exact q3) q4
  · rcases List.mem_append.mp hq with hq | hq
    · exact .tail _ (q1.subset (hpr q hq))
    · rw [List.mem_singleton.mp hq]; exact .head _
  · rcases List.mem_append.mp hq with hq | hq
    · exact hpw hx q hq
    · rw [List.mem_singleton.mp hq]; exact hw
  · have e1 : intsN (ns ++ [m]) = intsN ns ++ [.int m] := by unfold intsN; rw [List.map_append]; rfl
    have e2 : lefts ws (cs ++ [j]) = lefts ws cs ++ [.int (text (ws.drop (j + 1))).length] := by unfold lefts; rw [List.map_append]; rfl
    have e3 : pdR (pr ++ [(y, m, wrd ws j)]) = pdR pr ++ [.ref y] := by unfold pdR; rw [List.map_append]; rfl
    rw [e1, e2, e3]
    exact H₁₅.norm ⟨rfl, rfl, rfl, rfl, rfl, rfl, trivial⟩
theorem packed_ok {a : LexA} {ws : List Wd} {num : Nat → Nat} {vs : List Value} {Q : Value → Shared → Prop} (H : St C ks lm (lexL a 1 [] (text ws) rest) s) (hA : Ok C.A 6) (hv : VSs vs [.ref a.x, .ref a.sg]) (hok : ∀ d ∈ ws, d.Ok) (hl : (text ws).length ≤ 1000) (hlen : ws.length ≤ 100) (hne : 0 < ws.length) (hW : ∀ c, c < ws.length → ∃ i, i < 48 ∧ wrd ws c = sign i ∧ num c = i + 7 ∧ wrd ws c ≠ Str.ofString "")
    (h : ∀ t N F ns cs ps pool s', rest <:+ pool → Packed (wrd ws) num ns cs ps ws.length → St C ks lm ((t, aTup [.ref N, .ref F]) :: lexL a (1 + lines ws) [.str (Str.ofString "")] [] ((N, aList (intsN ns)) :: (F, aList (lefts ws cs)) :: pool)) s' → Q (.ref t) s') : C.X (call (.ref 141) vs) Q s := by
  refine enter 5 d141 k141 (fun n => by kernel_rfl) (by decide) H hA hv rfl fun C' s₁ hA' _ H₁ back => ?_
  refine seq_assign (List_ev 1 H₁ (ps := []) rfl (fun N s₂ H₂ => storeL H₂ rfl (.raw _) fun s₃ H₃ => ?_) (show 0 ≤ 1000 by decide))
  refine seq_assign (List_ev 1 H₃ (ps := []) rfl (fun F s₄ H₄ => storeL H₄ rfl (.raw _) fun s₅ H₅ => ?_) (show 0 ≤ 1000 by decide))
  refine seq_assign (List_ev 1 H₅ (ps := []) rfl (fun P s₆ H₆ => storeL H₆ rfl (.raw _) fun s₇ H₇ => ?_) (show 0 ≤ 1000 by decide))
  refine do_assign 1 H₇ rfl fun s₈ H₈ => ?_
  have hp : ((P, aList []) :: (F, aList []) :: (N, aList []) :: lexL a 1 [] (text ws) rest).Perm (lexL a 1 [] (text ws) ((N, aList []) :: (F, aList []) :: (P, aList []) :: rest)) :=
    ((List.reverse_perm [(N, aList []), (F, aList []), (P, aList [])]).append_right _).trans (List.perm_append_comm_assoc [(N, aList []), (F, aList []), (P, aList [])] (lexL a 1 [] (text ws) []) rest)
  have H₉ := St.norm (H₈.perm hp) (lm' := lmP a (Str.ofString " ") N F P) ⟨rfl, rfl, rfl, rfl, rfl, rfl, trivial⟩
  refine seq_while (fun d s => ∃ c x, d = ws.length - c ∧ c ≤ ws.length ∧ (x = Str.ofString "" → c = ws.length) ∧ StP C' a ws num N F P rest c x s) (fun d s hI => ?_) (ws.length - 0) ⟨0, Str.ofString " ", rfl, Nat.zero_le _, fun e => absurd e (by decide), [], [], [], [], 0, rest, Nat.zero_le _, .inl ⟨rfl, rfl, rfl, rfl⟩, .nil, fun q hq => (nomatch hq), fun _ q hq => (nomatch hq), List.suffix_refl _, ?_⟩
  · obtain ⟨c, x, rfl, hc, hxc, hS⟩ := hI
    have hS' := hS
    obtain ⟨ns, cs, pr, tk, pp, pool, -, hx2, hP, hpr, hpw, hs, H⟩ := hS'
    refine test_ok 2 H (p := .bool (decide (x ≠ Str.ofString ""))) (b := decide (x ≠ Str.ofString "")) rfl rfl fun s₁₀ H₁₀ => ⟨fun e => ?_, fun e => ?_⟩
    · have hx := of_decide_eq_true e
      refine wpAny_mono (turnP hA' hok hl hlen hne hW hx ⟨ns, cs, pr, tk, pp, pool, hc, hx2, hP, hpr, hpw, hs, H₁₀⟩) (fun f s₁₁ hq => ?_) fun _ _ z => z
      obtain ⟨rfl, j, hj, hS2⟩ := hq
      have hjl := hS2
      obtain ⟨_, _, _, _, _, _, hjl, -⟩ := hjl
      refine ⟨ws.length - j, by omega, j, wrd ws j, rfl, hjl, fun e => ?_, hS2⟩
      rcases Nat.lt_or_ge j ws.length with h' | h'
      · obtain ⟨_, _, _, _, w⟩ := hW j h'
        exact absurd e w
      · exact Nat.le_antisymm hjl h'
    · have hx : x = Str.ofString "" := Decidable.not_not.mp (of_decide_eq_false e)
      have hcl := hxc hx
      subst hcl
      rcases hx2 with ⟨-, e, -⟩ | ⟨e, rfl, rfl⟩
      · rw [hx] at e; exact absurd e (by decide)
      · rw [← e, hx] at H₁₀
        rw [List.take_of_length_le (Nat.le_succ _), List.drop_of_length_le (Nat.le_succ _)] at H₁₀
        refine then_next (seq_return (Tuple_ev 1 H₁₀ (ps := [.ref N, .ref F]) rfl (fun t s₁₁ H₁₁ => ?_) (show 2 ≤ 1000 by decide)))
        refine h t N F ns cs _ pool s₁₁ hs hP (back _ _ _ (H₁₁.sub (.cons_cons _ (List.Sublist.append_left (.cons_cons _ (.cons_cons _ (.cons _ (.refl _)))) (l := lexL a (1 + lines ws) [.str (Str.ofString "")] [] [])))))
  · have e0 : (1 : Int) + lines (ws.take 0) = 1 := rfl
    rw [e0]
    exact H₉
end
end Mine
end
section
open PySem PySem.W PyProof.Rows PySem.Calls PySem.Flt PySem.SeqAt
set_option maxHeartbeats 1000000
namespace Mine
theorem intsN_eq (ns : List Nat) : intsN ns = (ns.map fun n : Nat => (n : Int)).map .int := by unfold intsN; rw [List.map_map]; rfl
theorem natInts {a b : List Nat} : (a.map fun n : Nat => (n : Int)) = (b.map fun n : Nat => (n : Int)) ↔ a = b :=
  ⟨fun h => (List.map_inj_right fun x y e => Int.ofNat.inj e).mp h, fun h => h ▸ rfl⟩
abbrev aNat (ns : List Nat) : AO := aList (intsN ns)
theorem aNat.ls {ns : List Nat} {o : Obj} (h : aNat ns o) : aLs ((ns.map fun n : Nat => (n : Int)).map .int) o := by rw [← intsN_eq]; exact aList.ls h
theorem intsOf {vs : List Value} {ns : List Int} (h : VSs vs (ns.map .int)) : IntsAre vs ns := by
  induction ns generalizing vs with
  | nil => cases h; exact .nil
  | cons n r ih =>
    cases h with
    | cons a b =>
      obtain ⟨t, rfl⟩ := a
      exact .cons n t (ih b)
abbrev Rw := Addr × List Nat
def rwR (kn : List Rw) : List PV := kn.map fun r => .ref r.1
theorem nat_det {o : Obj} {ns ms : List Nat} (h : aNat ns o) (k : aNat ms o) : ns = ms := by
  obtain ⟨vs, c, rfl, r⟩ := h
  obtain ⟨us, c', e, r'⟩ := k
  injection e with _ _ e _
  injection e with e _
  subst e
  rw [intsN_eq] at r r'
  exact natInts.mp (vs_ints r r')
open Classical in
noncomputable def isRow (h : Heap) (ns : List Nat) (v : Value) : Bool := decide (∃ a o, v = .ref a ∧ h.get? a = some o ∧ aNat ns o)
open Classical in
theorem isRow_of {h : Heap} {a : Addr} {o : Obj} {ns ms : List Nat} (ho : h.get? a = some o) (k : aNat ns o) : isRow h ms (.ref a) = decide (ns = ms) := by
  unfold isRow
  by_cases e : ns = ms
  · subst e
    rw [decide_eq_true ⟨a, o, rfl, ho, k⟩, decide_eq_true rfl]
  · rw [decide_eq_false e, decide_eq_false]
    rintro ⟨b, o', e1, ho', k'⟩
    cases e1
    cases Option.some.inj (ho.symm.trans ho')
    exact e (nat_det k k')
section
variable {C : Cx} {ks : Kinds} {lm : Vars} {l : Led} {s : Shared} {A : Around}
theorem eqAt_nats {a b : Addr} {oa ob : Obj} {ns ms : List Nat} (hu : A.units < cLine) (ha : s.heap.get? a = some oa) (h : aNat ns oa) (hb : s.heap.get? b = some ob) (k : aNat ms ob) : EqAt A s (.ref a) (.ref b) (decide (ns = ms)) := by
  obtain ⟨h1, vs, n, hd, r⟩ := aNat.ls h
  obtain ⟨h2, us, n', hd', r'⟩ := aNat.ls k
  have := eqAt_ints hu ⟨oa, ha, h1, n, hd⟩ r ⟨ob, hb, h2, n', hd'⟩ r'
  rw [decide_eq_decide.mpr natInts] at this
  exact this
theorem index_rows {K x : Addr} {kn : List Rw} {ns : List Nat} {Q : Value → Shared → Prop} (H : St C ks lm l s) (hA : Ok C.A 1) (hK : Has K (aList (rwR kn)) l) (hp : ∀ q ∈ kn, Has q.1 (aNat q.2) l) (hx : Has x (aNat ns) l) (hl : kn.length ≤ 1000) (hm : ns ∈ kn.map (·.2))
    (h : ∀ v s', VS v (.int ((kn.map (·.2)).idxOf ns : Nat)) → St C ks lm l s' → Q v s') : C.X (call (.builtin "list.index") [.ref K, .ref x]) Q s := by
  obtain ⟨_, hL, vs, c, rfl, r⟩ := H.mem hK
  have hz : vs.size = kn.length := by have := r.length; unfold rwR at this; rw [List.length_map] at this; exact this
  have hi : ∀ j (h1 : j < vs.size) (h2 : j < kn.length), ∃ o, vs[j] = .ref kn[j].1 ∧ s.heap.get? kn[j].1 = some o ∧ aNat kn[j].2 o := fun j h1 h2 => by
    obtain ⟨v, hv, t, q⟩ := Paired.get r (i := j) (b := .ref kn[j].1) (by unfold rwR; rw [List.getElem?_map, List.getElem?_eq_getElem h2]; rfl)
    rw [Array.getElem?_toList, Array.getElem?_eq_getElem h1] at hv
    obtain ⟨o, ho, k⟩ := H.mem (hp kn[j] (List.getElem_mem h2))
    exact ⟨o, (Option.some.inj hv).trans q, ho, k⟩
  obtain ⟨ox, hox, kx⟩ := H.mem hx
  have hu : C.A.in1.units < cLine := (hA.in1 (n := 0)).units
  obtain ⟨j, ej, hj, e1, e2⟩ := idx_first hm
  rw [ej] at h
  have hj2 : j < kn.length := by rw [List.length_map] at hj; exact hj
  refine call_meets PySem.F.slot_list_index ⟨_, hL, rfl⟩ PySem.F.entry_list_index (PySem.F.args_list_index_2 _ _)
    (list_indexAt K vs c none #[] (.ref x) (isRow s.heap ns) j (hz ▸ hj2) (by omega) ?_ ?_) ⟨hL, fun v hv => ?_, h _ _ (.mk (.int _) _) (H.toks _)⟩
  · obtain ⟨o, g1, g2, g3⟩ := hi j (hz ▸ hj2) hj2
    rw [g1, isRow_of g2 g3]
    rw [List.getElem_map] at e1
    exact decide_eq_true e1
  · intro m hm hlt
    obtain ⟨o, g1, g2, g3⟩ := hi m hm (hz ▸ hm)
    rw [g1, isRow_of g2 g3]
    refine decide_eq_false fun w => e2 m (by rw [List.length_map]; exact hz ▸ hm) hlt ?_
    rw [List.getElem_map]
    exact w
  · obtain ⟨j, h1, rfl⟩ := Array.mem_iff_getElem.mp hv
    obtain ⟨o, g1, g2, g3⟩ := hi j h1 (hz ▸ h1)
    rw [g1, isRow_of g2 g3]
    have := eqAt_nats (A := C.A.in1) hu g2 g3 hox kx
    have e : (decide (kn[j].2 = ns)) = @decide (kn[j].2 = ns) (Classical.propDecidable _) := decide_eq_decide.mpr Iff.rfl
    first | exact this | (rw [← e]; exact this)
/-- max of a list of ints -/
theorem max_list {a : Addr} {ao : AO} {ns : List Int} {vs : List Value} {Q : Value → Shared → Prop} (H : St C ks lm l s) (hh : C.A.handled = none) (hv : VSs vs [.ref a]) (hl : Has a ao l) (hao : ∀ o, ao o → aLs (ns.map .int) o) (hne : 0 < ns.length)
    (h : ∀ M v s', M ∈ ns → (∀ x ∈ ns, x ≤ M) → VS v (.int M) → St C ks lm l s' → Q v s') : C.X (call (.builtin "max") vs) Q s := by
  cases hv with
  | cons h1 hv =>
  cases hv
  obtain ⟨_, rfl⟩ := h1
  obtain ⟨vs, hL, r⟩ := H.ints hl hao
  obtain ⟨m, news, F, N, back⟩ := H.bridge
  refine wpAny_with_toks (Nat.le_refl s.toks) (max_list_N hh F N (vs := vs.toList) hL (intsOf r) hne fun h' M t tk F' N' h1 h2 htk => ?_)
  exact h M _ _ h1 h2 (.mk (.int M) t) (back h' tk [] [] htk F' N' .nil (fun p hp => (nomatch hp)) .nil)
/-- x[lo:hi] with its parts walked by hand -/
theorem Slice_gen {x : Str} {xp p pos : Pos} {lower upper : Option Expr} {a : Addr} {ao : AO} {ps : List PV} {Q : Value → Shared → Prop} (H : St C ks lm l s) (hx : nm ks lm x = some (.ref a)) (hl : Has a ao l) (hao : ∀ o, ao o → aLs ps o) (hz : ps.length ≤ 1000000)
    (h : C.X (evalPart lower C.env) (fun v1 s1 => C.X (evalPart upper C.env) (fun v2 s2 => ∃ lo hi, IsPart v1 lo ∧ IsPart v2 hi ∧ St C ks lm l s2 ∧ ∀ b s', St C ks lm ((b, aList (pickP ps lo hi)) :: l) s' → Q (.ref b) s') s1) s) : C.X (eval (.Subscript (.Name x xp) (.Slice lower upper none p) pos) C.env) Q s := by
  refine wpAny_Subscript_list_slice (Name_ok H hx fun v hv => wpAny_mono h (fun v1 s₁ h₁ => wpAny_mono h₁ (fun v2 s₂ h₂ => ?_) fun _ _ z => z) fun _ _ z => z)
  obtain ⟨_, rfl⟩ := hv
  obtain ⟨lo, hi, q1, q2, H₂, k⟩ := h₂
  obtain ⟨vs, hL, r⟩ := H₂.isLs hl hao
  have hsz : vs.size = ps.length := r.length
  refine ⟨a, vs, lo, hi, rfl, hL, by rw [line_is]; omega, q1, q2, k _ _ ?_⟩
  refine H₂.make (tk := s₂.toks) (o := { cls := .type "list", data := .seq (slicePick vs lo hi none) }) (fun b o e => Heap.get?_push_of_some _ (Heap.get?_push_of_some _ e)) (Nat.le_succ _) ?_ ⟨_, _, rfl, pick_vs r lo hi⟩
  have := Heap.get?_push_size (s₂.heap.push { cls := .type "slice", data := .fields #[v1, v2, .none] }) (o := { cls := .type "list", data := .seq (slicePick vs lo hi none) }) rfl
  rw [Heap.size_push] at this
  exact this
end
end Mine
end
section
open PySem PySem.W PyProof.Rows PySem.Calls PySem.Flt PySem.SeqAt
set_option maxHeartbeats 4000000
namespace Mine
/-! the plain cutter -/
def subL (L : List Nat) (c k : Nat) : List Nat := (L.drop c).take k
def hits (L : List Nat) (kn : List (List Nat)) (c : Nat) : List Nat := (kn.filter fun r => decide (subL L c r.length = r)).map List.length
def sizeC (L : List Nat) (kn : List (List Nat)) (c : Nat) : Nat := (hits L kn c).foldl max 1
structure CS where
  ns : List Nat
  cs : List Nat
  kn : List (List Nat)
  c : Nat
def cNum (L : List Nat) (kn : List (List Nat)) (c sz : Nat) : Nat := if sz = 1 then L.getD c 0 else 256 + kn.idxOf (subL L c sz)
def cStep (L : List Nat) (s : CS) : CS := if s.c < L.length then ⟨s.ns ++ [cNum L s.kn s.c (sizeC L s.kn s.c)], s.cs ++ [s.c + sizeC L s.kn s.c], if s.c + sizeC L s.kn s.c < L.length then s.kn ++ [subL L s.c (sizeC L s.kn s.c + 1)] else s.kn, s.c + sizeC L s.kn s.c⟩ else s
def cStart : CS := ⟨[], [], [], 0⟩
def cIter (L : List Nat) : Nat → CS
  | 0 => cStart
  | k + 1 => cStep L (cIter L k)
theorem foldl_max (l : List Nat) (b : Nat) : l.foldl max b ∈ b :: l ∧ ∀ x ∈ b :: l, x ≤ l.foldl max b := by
  induction l generalizing b with
  | nil => exact ⟨.head _, fun x hx => by rw [List.mem_singleton.mp hx]; exact Nat.le_refl _⟩
  | cons y r ih =>
    obtain ⟨h1, h2⟩ := ih (max b y)
    rw [List.foldl_cons]
    refine ⟨?_, fun x hx => ?_⟩
    · rcases List.mem_cons.mp h1 with e | h1
      · rw [e]
        rcases Nat.le_total b y with h | h
        · rw [Nat.max_eq_right h]; exact .tail _ (.head _)
        · rw [Nat.max_eq_left h]; exact .head _
      · exact .tail _ (.tail _ h1)
    · have hm := h2 (max b y) (.head _)
      rcases List.mem_cons.mp hx with rfl | hx
      · exact Nat.le_trans (Nat.le_max_left _ _) hm
      · rcases List.mem_cons.mp hx with rfl | hx
        · exact Nat.le_trans (Nat.le_max_right _ _) hm
        · exact h2 x (.tail _ hx)
theorem sizeC_is {L : List Nat} {kn : List (List Nat)} {c M : Nat} (h1 : M ∈ 1 :: hits L kn c) (h2 : ∀ x ∈ 1 :: hits L kn c, x ≤ M) : M = sizeC L kn c := by
  obtain ⟨h3, h4⟩ := foldl_max (hits L kn c) 1
  exact Nat.le_antisymm (h4 _ h1) (h2 _ h3)
theorem hits_mem {L : List Nat} {kn : List (List Nat)} {c M : Nat} (h : M ∈ hits L kn c) : subL L c M ∈ kn ∧ M ≤ L.length - c := by
  unfold hits at h
  obtain ⟨r, hr, rfl⟩ := List.mem_map.mp h
  obtain ⟨h1, h2⟩ := List.mem_filter.mp hr
  have h2 := of_decide_eq_true h2
  rw [h2]
  refine ⟨h1, ?_⟩
  have := congrArg List.length h2
  unfold subL at this
  rw [List.length_take, List.length_drop] at this
  omega
theorem sizeC_spec {L : List Nat} {kn : List (List Nat)} {c : Nat} (hc : c < L.length) : 1 ≤ sizeC L kn c ∧ c + sizeC L kn c ≤ L.length ∧ (sizeC L kn c ≠ 1 → subL L c (sizeC L kn c) ∈ kn) := by
  obtain ⟨h3, h4⟩ := foldl_max (hits L kn c) 1
  have h3 : sizeC L kn c ∈ 1 :: hits L kn c := h3
  have h5 : 1 ≤ sizeC L kn c := h4 1 (.head _)
  rcases List.mem_cons.mp h3 with e | h
  · rw [e]; exact ⟨Nat.le_refl _, by omega, fun w => absurd rfl w⟩
  · obtain ⟨h6, h7⟩ := hits_mem h
    exact ⟨h5, by omega, fun _ => h6⟩
theorem pick_sub (L : List Nat) (a b : Nat) (ha : a ≤ L.length) : pickP (intsN L) (some a) (some b) = intsN (subL L a (b - a)) := by
  rw [pick_nat _ _ _ (by unfold intsN; rw [List.length_map]; exact ha)]
  unfold intsN subL
  rw [List.map_take, List.map_drop]
theorem hits_take {L : List Nat} {kn : List (List Nat)} {c k : Nat} {r : List Nat} (h : kn[k]? = some r) : hits L (kn.take (k + 1)) c = hits L (kn.take k) c ++ (if subL L c r.length = r then [r.length] else []) := by
  unfold hits
  rw [List.take_add_one, h, List.filter_append, List.map_append]
  congr 1
  show List.map List.length (List.filter _ [r]) = _
  rw [List.filter_cons]
  by_cases e : subL L c r.length = r
  · rw [if_pos (decide_eq_true e), if_pos e]; rfl
  · rw [if_neg (by simp [e]), if_neg e]; rfl
theorem d146 : Def 146 ["letters"] := ⟨fun P => by kernel_rfl, fun P => by kernel_rfl, by kernel_rfl, fun a => by kernel_rfl, by kernel_rfl, by kernel_rfl, by kernel_rfl, by kernel_rfl⟩
noncomputable def k146 : Kinds := [("letters", .cell), ("numbers", .local), ("cuts", .local), ("known", .local), ("place", .cell), ("row", .local), ("size", .local), ("len", .globalImplicit), ("max", .globalImplicit)]
noncomputable def lmC (La N U K : Addr) (c : Nat) : Vars := [("letters", .ref La), ("numbers", .ref N), ("cuts", .ref U), ("known", .ref K), ("place", .int c)]
theorem two_lookup {x y z : Str} {p q r : PV} (h : List.lookup x [(y, p), (z, q)] = some r) : (x = y ∧ p = r) ∨ (x = z ∧ q = r) := by
  rw [List.lookup_cons] at h
  split at h
  · rename_i e; exact .inl ⟨eq_of_beq e, Option.some.inj h⟩
  · exact .inr (one_lookup h)
section
variable {C : Cx} {ks : Kinds} {lm : Vars} {l m : Led} {s : Shared}
/-- `size = max([1] + [len(row) for row in known if letters[place:place + len(row)] == row])` -/
theorem size_ok {L : List Nat} {La N U K : Addr} {ns cs : List Nat} {kn : List Rw} {c : Nat} {Q : Flow → Shared → Prop} (hA : Ok C.A 3) (hLa : Has La (aNat L) m) (hLl : L.length ≤ 100) (hkl : kn.length ≤ 100) (hp : ∀ q ∈ kn, Has q.1 (aNat q.2) m) (hrl : ∀ q ∈ kn, q.2.length ≤ 1000) (hc : c ≤ L.length)
    (H : St C k146 (lmC La N U K c) ((N, aNat ns) :: (U, aNat cs) :: (K, aList (rwR kn)) :: m) s)
    (h : ∀ m' s', m <:+ m' → St C k146 (("size", .int (sizeC L (kn.map (·.2)) c : Nat)) :: lmC La N U K c) ((N, aNat ns) :: (U, aNat cs) :: (K, aList (rwR kn)) :: m') s' → C.B ((wbody ((bodyOf 146).drop 4)).drop 1) Q s') : C.B (wbody ((bodyOf 146).drop 4)) Q s := by
  refine seq_assign (Call_ (Name_ok H (p := .raw (.builtin "max")) rfl fun v hv => ?_))
  obtain ⟨_, rfl⟩ := hv
  refine PyProof.Rows.callWith_builtin1 (wpAny_items_cons (wpAny_BinOp (List_ev 1 H (ps := [.int 1]) rfl (fun z s₁ H₁ => ?_) (show 1 ≤ 1000 by decide))) rfl) rfl rfl
  refine list_compG [("row", .local), ("len", .globalImplicit), ("letters", .cell), ("place", .cell)] [("letters", .ref La), ("place", .int c)] H₁.V hA.h (by kernel_rfl) ?_ rfl rfl (Name_ok H₁ (p := .ref K) rfl fun v hv => iter_list H₁ hv (.tail _ (.tail _ (.tail _ (.head _)))) fun i s₂ H₂ => ⟨i, aLIter K, _, _, Has K (aList (rwR kn)), fun k ys l' => l' = (z, aList [.int 1]) :: (N, aNat ns) :: (U, aNat cs) :: (K, aList (rwR kn)) :: m ∧ ys = intsN (hits L ((kn.map (·.2)).take k) c) ∧ ys.length ≤ k, rfl, walk_list i K (rwR kn), H₂, ⟨rfl, rfl, Nat.le_refl _⟩, ?_, ?_, ?_, ?_⟩)
  · intro x p hx
    rcases two_lookup hx with ⟨rfl, rfl⟩ | ⟨rfl, rfl⟩
    · exact ⟨rfl, rfl⟩
    · exact ⟨rfl, rfl⟩
  · rintro k ys l' ⟨rfl, rfl, h3⟩
    exact ⟨.tail _ (.tail _ (.tail _ (.head _))), h3⟩
  · unfold rwR; rw [List.length_map]; omega
  · rintro C₂ acc k p ys l' s₃ hA₂ hpk ⟨rfl, rfl, h3⟩ H₃
    have hA2 : Ok C₂.A 3 := hA₂ ▸ hA
    obtain ⟨r, hr, rfl⟩ : ∃ r, kn[k]? = some r ∧ p = .ref r.1 := by
      unfold rwR at hpk
      rw [List.getElem?_map] at hpk
      obtain ⟨r, hr, e⟩ := Option.map_eq_some_iff.mp hpk
      exact ⟨r, hr, e.symm⟩
    have hrm := hp r (List.mem_of_getElem? hr)
    have hrz := hrl r (List.mem_of_getElem? hr)
    have eh := hits_take (L := L) (c := c) (kn := kn.map (·.2)) (k := k) (r := r.2) (by rw [List.getElem?_map, hr]; rfl)
    have up : Sub m ((acc, aList (intsN (hits L ((kn.map (·.2)).take k) c))) :: (i, aLIter K (k + 1)) :: (z, aList [.int 1]) :: (N, aNat ns) :: (U, aNat cs) :: (K, aList (rwR kn)) :: m) := fun _ he => .tail _ (.tail _ (.tail _ (.tail _ (.tail _ (.tail _ he)))))
    have hiz : ∀ ns : List Nat, (intsN ns).length = ns.length := fun ns => by unfold intsN; rw [List.length_map]
    refine tests_one (wpAny_isTrue_Compare1 (Slice_gen H₃ (a := La) rfl (up _ hLa) (fun _ h => aList.ls h) (by rw [hiz]; omega) (ev_ok (p := .int c) 1 H₃ rfl fun v1 s₄ hv1 H₄ => wpAny_BinOp (ev_ok (p := .int c) 1 H₄ rfl fun v2 s₅ hv2 H₅ => len_ev H₅ rfl (a := r.1) rfl (up _ hrm) (fun _ h => aList.ls h) (by rw [hiz]; omega) fun v3 s₆ hv3 H₆ => ?_))))
    rw [hiz] at hv3
    obtain ⟨t1, rfl⟩ := hv1
    obtain ⟨t2, rfl⟩ := hv2
    obtain ⟨t3, rfl⟩ := hv3
    refine (bin_ok (op := .Add) (a := .int c) (b := .int r.2.length) (c := .int ((c + r.2.length : Nat) : Int)) (by show some (PV.int (_ + _)) = _; push_cast; rfl)).ok _ _ _ _ _ _ _ _ H₆.tk fun t4 tk4 q4 => ⟨_, _, .int _ t1, .int _ t4, H₆.toks tk4 q4, fun b s₇ H₇ => Name_ok H₇ (p := .ref r.1) rfl fun v5 hv5 => ?_⟩
    obtain ⟨_, rfl⟩ := hv5
    rw [pick_sub L c (c + r.2.length) hc, Nat.add_sub_cancel_left] at H₇
    refine eq_ints H₇ (hA2.less (k := 0) (by decide)).units (a := b) (b := r.1) (.head _) (fun _ h => aNat.ls h) (.tail _ (up _ hrm)) (fun _ h => aNat.ls h) (wpAny_truthy_bool ?_)
    rw [decide_eq_decide.mpr natInts]
    by_cases e : subL L c r.2.length = r.2
    · rw [if_pos (decide_eq_true e)]
      rw [if_pos e] at eh
      refine len_ev H₇.drop1 rfl (a := r.1) rfl (up _ hrm) (fun _ h => aList.ls h) (by rw [hiz]; omega) fun v6 s₈ hv6 H₈ => ⟨.int r.2.length, _, by rw [hiz] at hv6; exact hv6, ⟨rfl, ?_, ?_⟩, H₈⟩
      · rw [eh]; unfold intsN; rw [List.map_append]; rfl
      · rw [List.length_append, List.length_singleton]; omega
    · rw [if_neg (by simp [e])]
      rw [if_neg e, List.append_nil] at eh
      exact ⟨⟨rfl, by rw [eh], Nat.le_succ_of_le h3⟩, H₇.drop1⟩
  · rintro a2 ys l' ⟨rfl, rfl, h3⟩ s₃ H₃
    have hlen : (rwR kn).length = (kn.map (·.2)).length := by unfold rwR; rw [List.length_map, List.length_map]
    rw [hlen, List.take_length] at H₃ h3
    have hhl : (hits L (kn.map (·.2)) c).length ≤ 100 := by
      unfold intsN at h3
      rw [List.length_map, List.length_map] at h3
      omega
    refine add_lists H₃ (a := z) (b := a2) (.tail _ (.head _)) (.head _) (by unfold intsN; rw [List.length_map]; show 1 + _ ≤ _; omega) fun w s₄ H₄ => wpAny_items_nil ?_
    have e1 : [PV.int 1] ++ intsN (hits L (kn.map (·.2)) c) = intsN (1 :: hits L (kn.map (·.2)) c) := rfl
    rw [e1] at H₄
    refine max_list H₄ hA.h (.cons (.raw _) .nil) (.head _) (fun _ h => aNat.ls h) (by simp) fun M v s₅ h1 h2 hv H₅ => ?_
    obtain ⟨k, hk, rfl⟩ := List.mem_map.mp h1
    have ek : k = sizeC L (kn.map (·.2)) c := sizeC_is hk fun x hx => by
      have := h2 _ (List.mem_map_of_mem hx)
      omega
    subst ek
    exact storeL (H₅.perm (toFront (e := [_, _, _]))) rfl hv fun s₆ H₆ => h _ s₆ (List.suffix_append _ _) H₆
end
end Mine
end
section
open PySem PySem.W PyProof.Rows PySem.Calls PySem.Flt PySem.SeqAt
set_option maxHeartbeats 4000000
namespace Mine
structure CIn (L : List Nat) (s : CS) : Prop where
  c : s.c ≤ L.length
  ns : s.ns.length ≤ s.c
  cs : s.cs.length = s.ns.length
  kn : s.kn.length ≤ s.ns.length
  rows : ∀ r ∈ s.kn, r.length ≤ L.length
theorem cIn (L : List Nat) (k : Nat) : CIn L (cIter L k) := by
  induction k with
  | zero => exact ⟨Nat.zero_le _, Nat.le_refl _, rfl, Nat.le_refl _, fun r hr => (nomatch hr)⟩
  | succ k ih =>
    show CIn L (cStep L (cIter L k))
    generalize cIter L k = s at ih
    unfold cStep
    by_cases h : s.c < L.length
    · rw [if_pos h]
      obtain ⟨h1, h2, -⟩ := sizeC_spec (kn := s.kn) h
      have := ih.ns
      refine ⟨h2, ?_, ?_, ?_, fun r hr => ?_⟩
      · show (s.ns ++ [_]).length ≤ _
        rw [List.length_append, List.length_singleton]
        show _ ≤ s.c + sizeC L s.kn s.c
        omega
      · show (s.cs ++ [_]).length = (s.ns ++ [_]).length
        rw [List.length_append, List.length_append, ih.cs]; rfl
      · show (if _ then s.kn ++ [_] else s.kn).length ≤ (s.ns ++ [_]).length
        have := ih.kn
        rw [List.length_append, List.length_singleton]
        split
        · rw [List.length_append, List.length_singleton]; omega
        · omega
      · have hr : r ∈ (if s.c + sizeC L s.kn s.c < L.length then s.kn ++ [subL L s.c (sizeC L s.kn s.c + 1)] else s.kn) := hr
        split at hr
        · rcases List.mem_append.mp hr with hr | hr
          · exact ih.rows r hr
          · rw [List.mem_singleton.mp hr]
            unfold subL
            rw [List.length_take, List.length_drop]; omega
        · exact ih.rows r hr
    · rw [if_neg h]; exact ih
section
variable {C : Cx} {ks : Kinds} {lm : Vars} {l m : Led} {s : Shared}
def StC (C : Cx) (L : List Nat) (La N U K : Addr) (rest : Led) (k : Nat) (s : Shared) : Prop :=
  ∃ kn m, rest <:+ m ∧ kn.map (·.2) = (cIter L k).kn ∧ (∀ q ∈ kn, Has q.1 (aNat q.2) m) ∧ St C k146 (lmC La N U K (cIter L k).c) ((N, aNat (cIter L k).ns) :: (U, aNat (cIter L k).cs) :: (K, aList (rwR kn)) :: m) s
theorem intsN_snoc (ns : List Nat) (n : Nat) : intsN (ns ++ [n]) = intsN ns ++ [.int n] := by unfold intsN; rw [List.map_append]; rfl
theorem aNat_snoc (ns : List Nat) (n : Nat) : aNat (ns ++ [n]) = aList (intsN ns ++ [.int n]) := by show aList _ = _; rw [intsN_snoc]
theorem turnC {L : List Nat} {La N U K : Addr} {rest : Led} {k : Nat} (hA : Ok C.A 3) (hf : C.env.func.isSome = true) (hLa : Has La (aNat L) rest) (hLl : L.length ≤ 100) (hc : (cIter L k).c < L.length) (H : StC C L La N U K rest k s) :
    C.B (wbody ((bodyOf 146).drop 4)) (fun f s' => f = .next ∧ StC C L La N U K rest (k + 1) s') s := by
  obtain ⟨kn, m, hs, ek, hp, H⟩ := H
  have I := cIn L k
  have es : cIter L (k + 1) = cStep L (cIter L k) := rfl
  unfold StC
  rw [es]
  generalize cIter L k = S at *
  obtain ⟨i1, i2, i3, i4, i5⟩ := I
  obtain ⟨z1, z2, z3⟩ := sizeC_spec (kn := S.kn) hc
  have hkl : kn.length ≤ 100 := by rw [← List.length_map (f := fun q : Rw => q.2) (as := kn), ek]; omega
  have hrl : ∀ q ∈ kn, q.2.length ≤ 1000 := fun q hq => by
    have := i5 q.2 (ek ▸ List.mem_map_of_mem hq)
    omega
  refine size_ok hA (hs.subset hLa) hLl hkl hp hrl (Nat.le_of_lt hc) H fun m2 s₁ q1 H₁ => ?_
  rw [ek] at H₁
  have hst : cStep L S = ⟨S.ns ++ [cNum L S.kn S.c (sizeC L S.kn S.c)], S.cs ++ [S.c + sizeC L S.kn S.c], if S.c + sizeC L S.kn S.c < L.length then S.kn ++ [subL L S.c (sizeC L S.kn S.c + 1)] else S.kn, S.c + sizeC L S.kn S.c⟩ := if_pos hc
  rw [hst]
  generalize sizeC L S.kn S.c = sz at *
  have hp2 : ∀ q ∈ kn, Has q.1 (aNat q.2) m2 := fun q hq => q1.subset (hp q hq)
  have hLa2 : Has La (aNat L) m2 := q1.subset (hs.subset hLa)
  have hiz : ∀ ns : List Nat, (intsN ns).length = ns.length := fun ns => by unfold intsN; rw [List.length_map]
  -- row = letters[place:place + size]
  have ea : ((S.c : Int) + (sz : Int)) = ((S.c + sz : Nat) : Int) := by push_cast; rfl
  refine seq_assign (Slice_ev (lo := some S.c) (hi := some ((S.c + sz : Nat) : Int)) 2 H₁ (a := La) rfl (.tail _ (.tail _ (.tail _ hLa2))) (fun _ h => aList.ls h) (by rw [hiz]; omega) rfl (by show some (some ((S.c : Int) + (sz : Int))) = _; rw [ea]) fun b s₂ H₂ => storeL H₂ rfl (.raw _) fun s₃ H₃ => ?_)
  rw [pick_sub L S.c (S.c + sz) i1, Nat.add_sub_cancel_left] at H₃
  have H₄ : St C k146 (("row", .ref b) :: ("size", .int sz) :: lmC La N U K S.c) ((N, aNat S.ns) :: (U, aNat S.cs) :: (K, aList (rwR kn)) :: (b, aNat (subL L S.c sz)) :: m2) s₃ := H₃.perm (toFront (e := [_]))
  -- numbers.append(..)
  refine do_app (i := 0) H₄ rfl rfl (C := C) (wpAny_mono (Q := fun v s' => VS v (.int (cNum L S.kn S.c sz : Nat)) ∧ St C k146 (("row", .ref b) :: ("size", .int sz) :: lmC La N U K S.c) ((N, aNat S.ns) :: (U, aNat S.cs) :: (K, aList (rwR kn)) :: (b, aNat (subL L S.c sz)) :: m2) s') ?_ (fun v s₅ hq => ⟨0, _, _, intsN S.ns, .int (cNum L S.kn S.c sz : Nat), hq.1, hq.2, rfl, by rw [hiz]; omega, fun s₆ H₆ => ?_⟩) fun _ _ z => z)
  · refine IfExp_ (test_ok 2 H₄ (p := .bool (decide ((sz : Int) = 1))) (b := decide ((sz : Int) = 1)) rfl rfl fun s₅ H₅ => ?_)
    by_cases e : sz = 1
    · rw [if_pos (decide_eq_true (by omega))]
      have e1 : subL L S.c sz = [L.getD S.c 0] := by
        rw [e]
        unfold subL
        rw [List.drop_eq_getElem_cons hc, List.getD_eq_getElem?_getD, List.getElem?_eq_getElem hc]
        rfl
      have e2 : cNum L S.kn S.c sz = L.getD S.c 0 := if_pos e
      rw [e1] at H₅
      refine SubL 1 H₅ (a := b) rfl (.tail _ (.tail _ (.tail _ (.head _)))) (k := 0) (j := 0) (p := .int (L.getD S.c 0 : Nat)) rfl (seqI (i := 0) (by rw [hiz]; exact Nat.one_pos)) rfl (fun v s₆ hv H₆ => ⟨by rw [e2]; exact hv, by rw [e1]; exact H₆⟩) (by rw [hiz]; show 1 ≤ 1000000; decide)
    · rw [if_neg (by simp only [decide_eq_true_eq]; omega)]
      have hm : subL L S.c sz ∈ kn.map (·.2) := by rw [ek]; exact z3 e
      have e2 : cNum L S.kn S.c sz = 256 + (kn.map (·.2)).idxOf (subL L S.c sz) := by rw [ek]; exact if_neg e
      refine wpAny_BinOp (ev_ok 1 H₅ (p := .int 256) rfl fun v1 s₆ hv1 H₆ => Call_lm H₆ (i := 2) rfl rfl PySem.F.slot_list_index PySem.F.type_list_index (callB (wpAny_items_cons (Name_ok H₆ (p := .ref b) rfl fun v hv => wpAny_items_nil ?_) rfl)))
      obtain ⟨_, rfl⟩ := hv
      refine index_rows H₆ (hA.less (by decide)) (.tail _ (.tail _ (.head _))) (fun q hq => .tail _ (.tail _ (.tail _ (.tail _ (hp2 q hq))))) (.tail _ (.tail _ (.tail _ (.head _)))) (by omega) hm fun v2 s₇ hv2 H₇ => ?_
      obtain ⟨t1, rfl⟩ := hv1
      obtain ⟨t2, rfl⟩ := hv2
      rw [e2]
      exact (bin_ok (op := .Add) (a := .int 256) (b := .int _) (c := .int ((256 + (kn.map (·.2)).idxOf (subL L S.c sz) : Nat) : Int)) (by show some (PV.int (256 + _)) = _; push_cast; rfl)).ok _ _ _ _ _ _ _ _ H₇.tk fun t3 tk3 q3 => ⟨.mk (.int _) t3, H₇.toks tk3 q3⟩
  · have H₇ : St C k146 (("row", .ref b) :: ("size", .int sz) :: lmC La N U K S.c) ((N, aNat (S.ns ++ [cNum L S.kn S.c sz])) :: (U, aNat S.cs) :: (K, aList (rwR kn)) :: (b, aNat (subL L S.c sz)) :: m2) s₆ := by rw [aNat_snoc]; exact H₆
    -- place += size
    refine do_aug 1 H₇ (a := .int S.c) (b := .int sz) (c := .int ((S.c + sz : Nat) : Int)) rfl rfl (by show some (PV.int (_ + _)) = _; rw [ea]) (fun s₈ H₈ => ?_) (.inr ⟨rfl, hf⟩)
    replace H₈ := H₈.norm (lm' := ("size", .int sz) :: lmC La N U K (S.c + sz)) ⟨rfl, rfl, rfl, rfl, rfl, rfl, trivial⟩
    -- cuts.append(place)
    refine do_app (i := 1) H₈ rfl rfl (ev_ok 1 H₈ (p := .int ((S.c + sz : Nat) : Int)) rfl fun v s₉ hv H₉ => ⟨1, _, _, intsN S.cs, .int ((S.c + sz : Nat) : Int), hv, H₉, rfl, by rw [hiz]; omega, fun s₁₀ H₁₀ => ?_⟩)
    have H₁₁ : St C k146 (("size", .int sz) :: lmC La N U K (S.c + sz)) ((N, aNat (S.ns ++ [cNum L S.kn S.c sz])) :: (U, aNat (S.cs ++ [S.c + sz])) :: (K, aList (rwR kn)) :: (b, aNat (subL L S.c sz)) :: m2) s₁₀ := by rw [aNat_snoc S.cs]; exact H₁₀
    -- if place < len(letters)
    refine seq_if (wpAny_isTrue_Compare1 (ev_ok 1 H₁₁ (p := .int ((S.c + sz : Nat) : Int)) rfl fun v1 s₁₂ hv1 H₁₂ => len_ev H₁₂ rfl (a := La) rfl (.tail _ (.tail _ (.tail _ (.tail _ hLa2)))) (fun _ h => aList.ls h) (by rw [hiz]; omega) fun v2 s₁₃ hv2 H₁₃ => ?_))
    rw [hiz] at hv2
    obtain ⟨t1, rfl⟩ := hv1
    obtain ⟨t2, rfl⟩ := hv2
    refine (cmp_ok (op := .Lt) (a := .int ((S.c + sz : Nat) : Int)) (b := .int L.length) (c := decide (((S.c + sz : Nat) : Int) < L.length)) rfl).ok _ _ _ _ _ _ _ _ (wpAny_truthy_bool ⟨fun e => ?_, fun e => ?_⟩)
    · have hlt : S.c + sz < L.length := by have := of_decide_eq_true e; omega
      have e1 : ((S.c + sz : Nat) : Int) - (sz : Int) = (S.c : Int) := by push_cast; omega
      have e2 : ((S.c + sz : Nat) : Int) + 1 = ((S.c + sz + 1 : Nat) : Int) := by push_cast; rfl
      refine do_app (i := 2) H₁₃ rfl rfl (Slice_ev (lo := some S.c) (hi := some ((S.c + sz + 1 : Nat) : Int)) 2 H₁₃ (a := La) rfl (.tail _ (.tail _ (.tail _ (.tail _ hLa2)))) (fun _ h => aList.ls h) (by rw [hiz]; omega) (by show some (some (((S.c + sz : Nat) : Int) - (sz : Int))) = _; rw [e1]) (by show some (some (((S.c + sz : Nat) : Int) + 1)) = _; rw [e2]) fun d s₁₄ H₁₄ => ⟨3, _, _, rwR kn, .ref d, .raw _, H₁₄, rfl, by unfold rwR; rw [List.length_map]; omega, fun s₁₅ H₁₅ => then_next (seq_nil ?_)⟩)
      rw [pick_sub L S.c (S.c + sz + 1) i1, show S.c + sz + 1 - S.c = sz + 1 by omega] at H₁₅
      have er : rwR (kn ++ [(d, subL L S.c (sz + 1))]) = rwR kn ++ [.ref d] := by unfold rwR; rw [List.map_append]; rfl
      refine ⟨rfl, kn ++ [(d, subL L S.c (sz + 1))], (d, aNat (subL L S.c (sz + 1))) :: (b, aNat (subL L S.c sz)) :: m2, (hs.trans q1).trans ((List.suffix_cons _ _).trans (List.suffix_cons _ _)), ?_, fun q hq => ?_, ?_⟩
      · rw [if_pos hlt, List.map_append, ek]; rfl
      · rcases List.mem_append.mp hq with hq | hq
        · exact .tail _ (.tail _ (hp2 q hq))
        · rw [List.mem_singleton.mp hq]; exact .head _
      · rw [er]
        exact (St.perm H₁₅ (toFront (e := [_]))).norm ⟨rfl, rfl, rfl, rfl, rfl, trivial⟩
    · have hge : ¬ S.c + sz < L.length := by have := of_decide_eq_false e; omega
      refine then_next (seq_nil ⟨rfl, kn, (b, aNat (subL L S.c sz)) :: m2, (hs.trans q1).trans (List.suffix_cons _ _), ?_, fun q hq => .tail _ (hp2 q hq), H₁₃.norm ⟨rfl, rfl, rfl, rfl, rfl, trivial⟩⟩)
      rw [if_neg hge]; exact ek
theorem cut_ok {L : List Nat} {La : Addr} {vs : List Value} {Q : Value → Shared → Prop} (H : St C ks lm l s) (hA : Ok C.A 4) (hv : VSs vs [.ref La]) (hLa : Has La (aNat L) l) (hLl : L.length ≤ 100)
    (h : ∀ t N U K k kn m s', l <:+ m → (cIter L k).c = L.length → kn.map (·.2) = (cIter L k).kn → (∀ q ∈ kn, Has q.1 (aNat q.2) m) → St C ks lm ((t, aTup [.ref N, .ref U, .ref K]) :: (N, aNat (cIter L k).ns) :: (U, aNat (cIter L k).cs) :: (K, aList (rwR kn)) :: m) s' → Q (.ref t) s') : C.X (call (.ref 146) vs) Q s := by
  refine call_of (enterB 3 d146 k146 (fun n => by kernel_rfl) (by decide) H.base hA hv rfl fun C' s₁ e1 e2 h0 hg hA' he H₁ => ?_)
  have hf : C'.env.func.isSome = true := by rw [he]; rfl
  refine seq_assign (List_ev 1 H₁ (ps := []) rfl (fun N s₂ H₂ => storeL H₂ rfl (.raw _) fun s₃ H₃ => ?_) (show 0 ≤ 1000 by decide))
  refine seq_assign (List_ev 1 H₃ (ps := []) rfl (fun U s₄ H₄ => storeL H₄ rfl (.raw _) fun s₅ H₅ => ?_) (show 0 ≤ 1000 by decide))
  refine seq_assign (List_ev 1 H₅ (ps := []) rfl (fun K s₆ H₆ => storeL H₆ rfl (.raw _) fun s₇ H₇ => ?_) (show 0 ≤ 1000 by decide))
  refine do_assign 1 H₇ (p := .int 0) rfl (fun s₈ H₈ => ?_) (.inr ⟨rfl, hf⟩)
  have H₉ := St.norm (H₈.perm ((List.reverse_perm [(N, aList []), (U, aList []), (K, aList [])]).append_right l)) (lm' := lmC La N U K 0) ⟨rfl, rfl, rfl, rfl, rfl, trivial⟩
  have hiz : ∀ ns : List Nat, (intsN ns).length = ns.length := fun ns => by unfold intsN; rw [List.length_map]
  refine seq_while (fun d s => ∃ k, d = L.length - (cIter L k).c ∧ StC C' L La N U K l k s) (fun d s hI => ?_) (L.length - 0) ⟨0, rfl, [], l, List.suffix_refl _, rfl, fun q hq => (nomatch hq), H₉⟩
  obtain ⟨k, rfl, hS⟩ := hI
  have hS' := hS
  obtain ⟨kn, m, hs, ek, hp, H'⟩ := hS'
  refine wpAny_isTrue_Compare1 (ev_ok 1 H' (p := .int (cIter L k).c) rfl fun v1 s₁₂ hv1 H₁₂ => len_ev H₁₂ rfl (a := La) rfl (.tail _ (.tail _ (.tail _ (hs.subset hLa)))) (fun _ h => aList.ls h) (by rw [hiz]; omega) fun v2 s₁₃ hv2 H₁₃ => ?_)
  rw [hiz] at hv2
  obtain ⟨t1, rfl⟩ := hv1
  obtain ⟨t2, rfl⟩ := hv2
  refine (cmp_ok (op := .Lt) (a := .int (cIter L k).c) (b := .int L.length) (c := decide (((cIter L k).c : Int) < L.length)) rfl).ok _ _ _ _ _ _ _ _ (wpAny_truthy_bool ⟨fun e => ?_, fun e => ?_⟩)
  · have hlt : (cIter L k).c < L.length := by have := of_decide_eq_true e; omega
    refine wpAny_mono (turnC hA' hf hLa hLl hlt ⟨kn, m, hs, ek, hp, H₁₃⟩) (fun f s₁₄ hq => ?_) fun _ _ z => z
    obtain ⟨rfl, hS2⟩ := hq
    refine ⟨L.length - (cIter L (k + 1)).c, ?_, k + 1, rfl, hS2⟩
    have hst : (cIter L (k + 1)).c = (cIter L k).c + sizeC L (cIter L k).kn (cIter L k).c := by
      show (cStep L (cIter L k)).c = _
      unfold cStep
      rw [if_pos hlt]
    obtain ⟨z1, z2, -⟩ := sizeC_spec (kn := (cIter L k).kn) hlt
    omega
  · have hge : (cIter L k).c = L.length := by
      have := of_decide_eq_false e
      have := (cIn L k).c
      omega
    refine then_next (seq_return (Tuple_ev 1 H₁₃ (ps := [.ref N, .ref U, .ref K]) rfl (fun t s₁₄ H₁₄ => ?_) (show 3 ≤ 1000 by decide)))
    exact h t N U K k kn m s₁₄ hs hge ek hp (St.back H hg h0 H₁₄)
end
end Mine
end
section
open PySem PySem.W PyProof.Rows PySem.Calls PySem.Flt PySem.SeqAt
set_option maxHeartbeats 1000000
namespace Mine
/-! Lempel, Ziv, Welch: the packer cuts as the cutter -/
def Code (kn : List (List Nat)) (n : Nat) (r : List Nat) : Prop := (n < 256 ∧ r = [n]) ∨ (256 ≤ n ∧ kn[n - 256]? = some r)
structure Wrds (L : List Nat) (W : Nat → Str) (num : Nat → Nat) : Prop where
  non : ∀ p, W p ≠ Str.ofString "" ↔ p < L.length
  inj : ∀ p q, p < L.length → q < L.length → (W p = W q ↔ L.getD p 0 = L.getD q 0)
  num : ∀ p, p < L.length → num p = L.getD p 0
  small : ∀ t ∈ L, t < 256
structure PInv (L : List Nat) (W : Nat → Str) (ps : List (Nat × Str)) (kn : List (List Nat)) : Prop where
  len : ps.length = kn.length
  each : ∀ (i n : Nat) (x : Str) (r : List Nat), ps[i]? = some (n, x) → kn[i]? = some r → ∃ p rr, p < L.length ∧ x = W p ∧ r = rr ++ [L.getD p 0] ∧ Code kn n rr
  nodup : kn.Nodup
  two : ∀ r ∈ kn, 2 ≤ r.length
theorem Code.det {kn : List (List Nat)} {n : Nat} {r r' : List Nat} (h : Code kn n r) (k : Code kn n r') : r = r' := by
  rcases h with ⟨h1, rfl⟩ | ⟨h1, h2⟩ <;> rcases k with ⟨k1, rfl⟩ | ⟨k1, k2⟩
  · rfl
  · omega
  · omega
  · exact Option.some.inj (h2.symm.trans k2)
theorem idx_inj {α : Type} {l : List α} (nd : l.Nodup) {i j : Nat} {a : α} (h : l[i]? = some a) (k : l[j]? = some a) : i = j :=
  (List.getElem?_inj (List.getElem?_eq_some_iff.mp h).1 nd).mp (h.trans k.symm)
section
variable {L : List Nat} {W : Nat → Str} {num : Nat → Nat} {ps : List (Nat × Str)} {kn : List (List Nat)}
theorem Code.one (I : PInv L W ps kn) {n : Nat} {r : List Nat} (h : Code kn n r) (hr : r.length = 1) : n < 256 ∧ r = [n] := by
  rcases h with h | ⟨h1, h2⟩
  · exact h
  · have := I.two r (List.mem_of_getElem? h2)
    omega
theorem Code.many {n : Nat} {r : List Nat} (h : Code kn n r) (hr : r.length ≠ 1) : 256 ≤ n ∧ kn[n - 256]? = some r := by
  rcases h with ⟨h1, rfl⟩ | h
  · exact absurd rfl hr
  · exact h
theorem Code.inj (I : PInv L W ps kn) {n n' : Nat} {r : List Nat} (h : Code kn n r) (k : Code kn n' r) : n = n' := by
  by_cases hr : r.length = 1
  · have h1 := (h.one I hr).2
    have h2 := (k.one I hr).2
    rw [h1] at h2
    exact (List.cons.inj h2).1
  · obtain ⟨h1, h2⟩ := h.many hr
    obtain ⟨k1, k2⟩ := k.many hr
    have := idx_inj I.nodup h2 k2
    omega
theorem at_pair (T : Wrds L W num) (I : PInv L W ps kn) {n p : Nat} {r : List Nat} (h : Code kn n r) (hp : p < L.length) (i : Nat) : ps[i]? = some (n, W p) ↔ kn[i]? = some (r ++ [L.getD p 0]) := by
  constructor
  · intro e
    have hlt := (List.getElem?_eq_some_iff.mp e).1
    rw [I.len] at hlt
    obtain ⟨q, rr, hq, e1, e2, e3⟩ := I.each i n (W p) _ e (List.getElem?_eq_getElem hlt)
    rw [List.getElem?_eq_getElem hlt, e2, (T.inj p q hp hq).mp e1, e3.det h]
  · intro e
    have hlt := (List.getElem?_eq_some_iff.mp e).1
    rw [← I.len] at hlt
    obtain ⟨q, rr, hq, e1, e2, e3⟩ := I.each i ps[i].1 ps[i].2 _ (List.getElem?_eq_getElem hlt) e
    obtain ⟨a1, a2⟩ := List.append_inj' e2 rfl
    subst a1
    have a3 := (List.cons.inj a2).1
    rw [List.getElem?_eq_getElem hlt]
    refine congrArg some (Prod.ext (e3.inj I h) ?_)
    rw [e1]
    exact (T.inj q p hq hp).mpr a3.symm
theorem idxOf_congr {α β : Type} [BEq α] [LawfulBEq α] [BEq β] [LawfulBEq β] {l : List α} {m : List β} {a : α} {b : β} (hl : l.length = m.length) (h : ∀ i : Nat, l[i]? = some a ↔ m[i]? = some b) : l.idxOf a = m.idxOf b := by
  induction l generalizing m with
  | nil =>
    cases m with
    | nil => rfl
    | cons y r => cases hl
  | cons x l ih =>
    cases m with
    | nil => cases hl
    | cons y m =>
      have h0 : x = a ↔ y = b := by simpa using h 0
      have ih := ih (m := m) (Nat.succ.inj hl) fun i => by simpa using h (i + 1)
      rw [List.idxOf_cons, List.idxOf_cons, ih]
      by_cases e : x = a
      · rw [beq_iff_eq.mpr e, beq_iff_eq.mpr (h0.mp e)]
      · rw [beq_eq_false_iff_ne.mpr e, beq_eq_false_iff_ne.mpr fun w => e (h0.mpr w)]
theorem mem_pair (T : Wrds L W num) (I : PInv L W ps kn) {n p : Nat} {r : List Nat} (h : Code kn n r) (hp : p < L.length) : ((n, W p) ∈ ps ↔ r ++ [L.getD p 0] ∈ kn) ∧ ps.idxOf (n, W p) = kn.idxOf (r ++ [L.getD p 0]) := by
  have A := at_pair T I h hp
  refine ⟨?_, idxOf_congr I.len A⟩
  rw [List.mem_iff_getElem?, List.mem_iff_getElem?]
  exact exists_congr A
theorem subL_succ {c k : Nat} (h : c + k < L.length) : subL L c (k + 1) = subL L c k ++ [L.getD (c + k) 0] := by
  unfold subL
  rw [List.take_add_one, List.getElem?_drop, List.getElem?_eq_getElem h, List.getD_eq_getElem?_getD, List.getElem?_eq_getElem h]
  rfl
theorem subL_one {c : Nat} (h : c < L.length) : subL L c 1 = [L.getD c 0] := by
  have := subL_succ (L := L) (c := c) (k := 0) h
  rw [this]; rfl
theorem subL_len {c k : Nat} (h : c + k ≤ L.length) : (subL L c k).length = k := by
  unfold subL
  rw [List.length_take, List.length_drop]; omega
theorem getD_mem {p : Nat} (h : p < L.length) : L.getD p 0 ∈ L := by
  rw [List.getD_eq_getElem?_getD, List.getElem?_eq_getElem h]
  exact List.getElem_mem h
theorem grow_code (T : Wrds L W num) (I : PInv L W ps kn) {c n j : Nat} (hc : c < L.length) (h : Grow W ps (num c) (c + 1) n j) : c < j ∧ j ≤ L.length ∧ Code kn n (subL L c (j - c)) ∧ ∀ m, 2 ≤ m → m ≤ j - c → subL L c m ∈ kn := by
  induction h with
  | refl =>
    refine ⟨Nat.lt_succ_self _, hc, .inl ⟨?_, ?_⟩, fun m h1 h2 => by omega⟩
    · rw [T.num c hc]; exact T.small _ (getD_mem hc)
    · rw [show c + 1 - c = 1 by omega, subL_one hc, T.num c hc]
  | step h1 hm ih =>
    rename_i m k
    obtain ⟨i1, i2, i3, i4⟩ := ih
    have hk : k < L.length := by
      refine (T.non k).mp ?_
      obtain ⟨i, hi⟩ := List.mem_iff_getElem?.mp hm
      have hlt := (List.getElem?_eq_some_iff.mp hi).1
      rw [I.len] at hlt
      obtain ⟨q, rr, hq, e1, -⟩ := I.each i m (W k) _ hi (List.getElem?_eq_getElem hlt)
      rw [e1]
      exact (T.non q).mpr hq
    obtain ⟨a1, a2⟩ := mem_pair T I i3 hk
    have es : subL L c (k + 1 - c) = subL L c (k - c) ++ [L.getD k 0] := by
      rw [show k + 1 - c = (k - c) + 1 by omega, subL_succ (by omega), show c + (k - c) = k by omega]
    have hin : subL L c (k + 1 - c) ∈ kn := by rw [es]; exact a1.mp hm
    refine ⟨by omega, hk, .inr ⟨by omega, ?_⟩, fun y h1 h2 => ?_⟩
    · rw [a2, ← es, Nat.add_sub_cancel_left]
      obtain ⟨jj, e1, hj, e2, -⟩ := idx_first hin
      rw [e1, List.getElem?_eq_getElem hj, e2]
    · rcases Nat.lt_or_ge (k - c) y with h | h
      · rw [show y = k + 1 - c by omega]; exact hin
      · exact i4 y h1 h
/-- rows without their last sign are known -/
theorem shorter (I : PInv L W ps kn) {c y : Nat} (hy : 2 ≤ y) (hb : c + y + 1 ≤ L.length) (h : subL L c (y + 1) ∈ kn) : subL L c y ∈ kn := by
  obtain ⟨i, hi⟩ := List.mem_iff_getElem?.mp h
  have hlt := (List.getElem?_eq_some_iff.mp hi).1
  rw [← I.len] at hlt
  obtain ⟨q, rr, hq, e1, e2, e3⟩ := I.each i ps[i].1 ps[i].2 _ (List.getElem?_eq_getElem hlt) hi
  rw [subL_succ (by omega)] at e2
  obtain ⟨a1, -⟩ := List.append_inj' e2 rfl
  rw [a1]
  have hl := subL_len (L := L) (c := c) (k := y) (by omega)
  rw [a1] at hl
  exact List.mem_of_getElem? (e3.many (by omega)).2
theorem down (I : PInv L W ps kn) {c x y : Nat} (hy : 2 ≤ y) (hxy : y ≤ x) (hb : c + x ≤ L.length) (h : subL L c x ∈ kn) : subL L c y ∈ kn := by
  induction x with
  | zero => omega
  | succ x ih =>
    rcases Nat.lt_or_ge x y with h' | h'
    · rw [show y = x + 1 by omega]; exact h
    · exact ih h' (by omega) (shorter I (by omega) (by omega) h)
theorem stop_size (T : Wrds L W num) (I : PInv L W ps kn) {c n j : Nat} (hc : c < L.length) (h : Grow W ps (num c) (c + 1) n j) (hn : (n, W j) ∉ ps) : sizeC L kn c = j - c ∧ cNum L kn c (j - c) = n := by
  obtain ⟨h1, h2, h3, h4⟩ := grow_code T I hc h
  refine ⟨(sizeC_is ?_ fun x hx => ?_).symm, ?_⟩
  · by_cases e : j - c = 1
    · rw [e]; exact .head _
    · refine .tail _ ?_
      have hm := h4 (j - c) (by omega) (Nat.le_refl _)
      have hl := subL_len (L := L) (c := c) (k := j - c) (by omega)
      unfold hits
      exact List.mem_map.mpr ⟨subL L c (j - c), List.mem_filter.mpr ⟨hm, decide_eq_true (by rw [hl])⟩, hl⟩
  · rcases List.mem_cons.mp hx with rfl | hx
    · omega
    · obtain ⟨g1, g2⟩ := hits_mem hx
      rcases Nat.lt_or_ge (j - c) x with h' | h'
      · exfalso
        have hj : j < L.length := by omega
        have := down I (c := c) (x := x) (y := j - c + 1) (by omega) (by omega) (by omega) g1
        rw [subL_succ (by omega), show c + (j - c) = j by omega] at this
        exact hn ((mem_pair T I h3 hj).1.mpr this)
      · exact h'
  · have hl := subL_len (L := L) (c := c) (k := j - c) (by omega)
    unfold cNum
    by_cases e : j - c = 1
    · rw [if_pos e]
      obtain ⟨-, e2⟩ := h3.one I (by rw [hl, e])
      rw [e, subL_one hc] at e2
      exact (List.cons.inj e2).1
    · rw [if_neg e]
      obtain ⟨g1, g2⟩ := h3.many (by rw [hl]; exact e)
      obtain ⟨jj, e1, hj, e2, -⟩ := idx_first (List.mem_of_getElem? g2)
      rw [e1]
      have := idx_inj I.nodup (i := jj) (j := n - 256) (by rw [List.getElem?_eq_getElem hj, e2]) g2
      omega
theorem Code.mono {n : Nat} {r x : List Nat} (h : Code kn n r) : Code (kn ++ [x]) n r := by
  rcases h with h | ⟨h1, h2⟩
  · exact .inl h
  · exact .inr ⟨h1, by rw [List.getElem?_append_left (List.getElem?_eq_some_iff.mp h2).1]; exact h2⟩
theorem PInv.push (T : Wrds L W num) (I : PInv L W ps kn) {n j : Nat} {r : List Nat} (h3 : Code kn n r) (hj : j < L.length) (hr : r ≠ []) (hn : (n, W j) ∉ ps) : PInv L W (ps ++ [(n, W j)]) (kn ++ [r ++ [L.getD j 0]]) where
  len := by rw [List.length_append, List.length_append, I.len]; rfl
  each i n' x r' h1 h2 := by
    rcases Nat.lt_or_ge i ps.length with hi | hi
    · rw [List.getElem?_append_left hi] at h1
      rw [List.getElem?_append_left (I.len ▸ hi)] at h2
      obtain ⟨p, rr, a1, a2, a3, a4⟩ := I.each i n' x r' h1 h2
      exact ⟨p, rr, a1, a2, a3, a4.mono⟩
    · rw [List.getElem?_append_right hi] at h1
      rw [List.getElem?_append_right (I.len ▸ hi), ← I.len] at h2
      obtain ⟨h0, h1⟩ := List.getElem?_eq_some_iff.mp h1
      obtain ⟨h0', h2⟩ := List.getElem?_eq_some_iff.mp h2
      rw [List.getElem_singleton] at h1 h2
      cases h1
      exact ⟨j, r, hj, rfl, h2.symm, h3.mono⟩
  nodup := by
    refine List.nodup_append.mpr ⟨I.nodup, List.nodup_cons.mpr ⟨List.not_mem_nil, .nil⟩, fun a ha b hb e => ?_⟩
    rw [List.mem_singleton.mp hb] at e
    exact hn ((mem_pair T I h3 hj).1.mpr (e ▸ ha))
  two r' hr' := by
    rcases List.mem_append.mp hr' with h | h
    · exact I.two r' h
    · rw [List.mem_singleton.mp h, List.length_append, List.length_singleton]
      have := List.length_pos_iff.mpr hr
      omega
theorem packed_cuts (T : Wrds L W num) {ns cs : List Nat} {c : Nat} (h : Packed W num ns cs ps c) : ∃ k kn, cIter L k = ⟨ns, cs, kn, c⟩ ∧ c ≤ L.length ∧ (c < L.length → PInv L W ps kn) := by
  induction h with
  | nil => exact ⟨0, [], rfl, Nat.zero_le _, fun _ => ⟨rfl, fun i n x r h _ => (nomatch h), .nil, fun r hr => (nomatch hr)⟩⟩
  | step hP hw hg hn ih =>
    rename_i ns cs ps c n j
    obtain ⟨k, kn, e, hc, hI⟩ := ih
    have hlt := (T.non c).mp hw
    have I := hI hlt
    obtain ⟨h1, h2, h3, -⟩ := grow_code T I hlt hg
    obtain ⟨g1, g2⟩ := stop_size T I hlt hg hn
    refine ⟨k + 1, if j < L.length then kn ++ [subL L c (j - c + 1)] else kn, ?_, h2, fun hj => ?_⟩
    · show cStep L (cIter L k) = _
      rw [e]
      show (if c < L.length then _ else _) = _
      rw [if_pos hlt]
      show (CS.mk (ns ++ [cNum L kn c (sizeC L kn c)]) (cs ++ [c + sizeC L kn c]) (if c + sizeC L kn c < L.length then kn ++ [subL L c (sizeC L kn c + 1)] else kn) (c + sizeC L kn c)) = _
      rw [g1, g2, show c + (j - c) = j by omega]
    · rw [if_pos hj, subL_succ (by omega), show c + (j - c) = j by omega]
      refine I.push T h3 hj (fun w => ?_) hn
      have := subL_len (L := L) (c := c) (k := j - c) (by omega)
      rw [w] at this
      simp at this
      omega
end
theorem cIter_stop {L : List Nat} {k : Nat} (h : L.length ≤ (cIter L k).c) (d : Nat) : cIter L (k + d) = cIter L k := by
  induction d with
  | zero => rfl
  | succ d ih =>
    show cStep L (cIter L (k + d)) = _
    rw [ih]
    unfold cStep
    rw [if_neg (Nat.not_lt.mpr h)]
theorem lzw_cut {L : List Nat} {W : Nat → Str} {num : Nat → Nat} {ns cs : List Nat} {ps : List (Nat × Str)} {k : Nat} (T : Wrds L W num) (h : Packed W num ns cs ps L.length) (hk : (cIter L k).c = L.length) : ns = (cIter L k).ns ∧ cs = (cIter L k).cs := by
  obtain ⟨k', kn, e, -, -⟩ := packed_cuts T h
  have h' : L.length ≤ (cIter L k').c := by rw [e]; exact Nat.le_refl _
  have : cIter L k = cIter L k' := by
    rcases Nat.le_total k k' with w | w
    · obtain ⟨d, rfl⟩ := Nat.exists_eq_add_of_le w
      exact (cIter_stop (by rw [hk]; exact Nat.le_refl _) d).symm
    · obtain ⟨d, rfl⟩ := Nat.exists_eq_add_of_le w
      exact cIter_stop h' d
  rw [this, e]
  exact ⟨rfl, rfl⟩
end Mine
end
section
open PySem PySem.W PyProof.Rows PySem.Calls PySem.Flt PySem.SeqAt
set_option maxHeartbeats 1000000
namespace Mine
/-! the unpacker's colours are the rows' -/
def intz (r : List Nat) : List Int := r.map fun n : Nat => (n : Int)
def psN (r : List Nat) : List Int := psums 0 (intz r)
theorem intz_app (a b : List Nat) : intz (a ++ b) = intz a ++ intz b := by unfold intz; rw [List.map_append]
theorem psums_app (t : Int) (a b : List Int) : psums t (a ++ b) = psums t a ++ psums (t + a.sum) b := by
  induction a generalizing t with
  | nil => simp [psums]
  | cons m r ih => simp only [List.cons_append, psums, ih, List.sum_cons]; rw [Int.add_assoc t m]
theorem psums_shift (t : Int) (a : List Int) (u : Int) : psums (t + u) a = (psums t a).map (· + u) := by
  induction a generalizing t with
  | nil => rfl
  | cons m r ih =>
    simp only [psums, List.map_cons]
    rw [← ih, show t + u + m = t + m + u by omega]
theorem psums_len (t : Int) (a : List Int) : (psums t a).length = a.length := by
  induction a generalizing t with
  | nil => rfl
  | cons m r ih => simp [psums, ih]
theorem psN_app (a b : List Nat) : psN (a ++ b) = psN a ++ (psN b).map (· + (intz a).sum) := by
  unfold psN
  rw [intz_app, psums_app, ← psums_shift]
theorem psums_last (t : Int) (a : List Int) (h : a ≠ []) : lastI (psums t a) = t + a.sum := by
  induction a generalizing t with
  | nil => exact absurd rfl h
  | cons m r ih =>
    cases r with
    | nil => simp [psums, lastI]
    | cons x r =>
      have := ih (t + m) (List.cons_ne_nil _ _)
      unfold lastI at this ⊢
      simp only [psums] at this ⊢
      rw [List.getLast?_cons_cons, this, List.sum_cons (a := m)]
      omega
theorem psN_last (a : List Nat) (h : a ≠ []) : lastI (psN a) = (intz a).sum := by
  unfold psN
  rw [psums_last 0 (intz a) (fun w => h (List.map_eq_nil_iff.mp w)), Int.zero_add]
theorem psN_head (a : List Nat) (h : a ≠ []) : headI (psN a) = (a.headD 0 : Nat) := by
  cases a with
  | nil => exact absurd rfl h
  | cons x r => simp [psN, intz, psums, headI]
theorem psN_one (x : Nat) : psN [x] = [(x : Int)] := by simp [psN, intz, psums]
theorem psN_ne {a : List Nat} (h : a ≠ []) : psN a ≠ [] := fun w => h (by
  have := congrArg List.length w
  unfold psN intz at this
  rw [psums_len, List.length_map] at this
  exact List.length_eq_zero_iff.mp this)
theorem psN_nil {a : List Nat} : psN a = [] ↔ a = [] := ⟨fun w => Classical.byContradiction fun h => psN_ne h w, fun h => h ▸ rfl⟩
theorem psN_snoc (a : List Nat) (x : Nat) : psN (a ++ [x]) = psN a ++ [(intz a).sum + x] := by
  rw [psN_app, psN_one]
  simp [Int.add_comm]
section
variable {L : List Nat}
theorem subL_take {c k : Nat} : L.take (c + k) = L.take c ++ subL L c k := by unfold subL; rw [List.take_add]
theorem subL_head {c k : Nat} (h : c < L.length) (hk : 1 ≤ k) : (subL L c k).headD 0 = L.getD c 0 := by
  unfold subL
  rw [List.drop_eq_getElem_cons h]
  obtain ⟨k, rfl⟩ := Nat.exists_eq_add_of_le hk
  rw [Nat.add_comm, List.take_succ_cons, List.getD_eq_getElem?_getD, List.getElem?_eq_getElem h]
  rfl
/-- what the unpacker has behind some cuts -/
structure DInv (L : List Nat) (s : CS) (rl : List Nat) (k0 : List (List Nat)) : Prop where
  u : uAll s.ns = ⟨k0.map psN, psN (L.take s.c), psN rl, (intz (L.take s.c)).sum⟩
  first : s.ns = [] → rl = [] ∧ k0 = [] ∧ s.kn = []
  next : s.ns ≠ [] → rl ≠ [] ∧ s.kn = if s.c < L.length then k0 ++ [rl ++ [L.getD s.c 0]] else k0
theorem dInv_step (hsm : ∀ t ∈ L, t < 256) {s : CS} {rl : List Nat} {k0 : List (List Nat)} (D : DInv L s rl k0) (hc : s.c < L.length) : DInv L (cStep L s) (subL L s.c (sizeC L s.kn s.c)) s.kn := by
  obtain ⟨z1, z2, z3⟩ := sizeC_spec (kn := s.kn) hc
  have hst : cStep L s = ⟨s.ns ++ [cNum L s.kn s.c (sizeC L s.kn s.c)], s.cs ++ [s.c + sizeC L s.kn s.c], if s.c + sizeC L s.kn s.c < L.length then s.kn ++ [subL L s.c (sizeC L s.kn s.c + 1)] else s.kn, s.c + sizeC L s.kn s.c⟩ := if_pos hc
  rw [hst]
  generalize sizeC L s.kn s.c = sz at *
  have hl := subL_len (L := L) (c := s.c) (k := sz) z2
  have hrne : subL L s.c sz ≠ [] := fun w => by rw [w] at hl; simp at hl; omega
  have hh := subL_head (L := L) (c := s.c) (k := sz) hc z1
  obtain ⟨Du, Df, Dn⟩ := D
  -- the strip
  have hstrip : uStrip (uAll s.ns) (cNum L s.kn s.c sz) = psN (subL L s.c sz) := by
    unfold uStrip cNum
    by_cases e : sz = 1
    · rw [if_pos e, if_pos (hsm _ (getD_mem hc)), e, subL_one hc, psN_one]
    · have hm := z3 e
      rw [if_neg e, if_neg (by omega), Nat.add_sub_cancel_left, Du]
      obtain ⟨j, e1, hj, e2, -⟩ := idx_first hm
      rw [e1]
      have hns : s.ns ≠ [] := fun w => by
        have := (Df w).2.2
        rw [this] at hm
        cases hm
      obtain ⟨hrl, hkn⟩ := Dn hns
      rw [if_pos hc] at hkn
      show ((k0.map psN)[j]?).getD (psN rl ++ [lastI (psN rl) + headI (psN rl)]) = _
      have ej : s.kn[j]? = some (subL L s.c sz) := by rw [List.getElem?_eq_getElem hj, e2]
      rw [hkn] at ej
      rcases Nat.lt_or_ge j k0.length with h | h
      · rw [List.getElem?_append_left h] at ej
        rw [List.getElem?_map, ej]
        rfl
      · rw [List.getElem?_append_right h] at ej
        obtain ⟨h0, ej⟩ := List.getElem?_eq_some_iff.mp ej
        rw [List.getElem_singleton] at ej
        rw [List.getElem?_eq_none_iff.mpr (by rw [List.length_map]; exact h)]
        rw [psN_last rl hrl, psN_head rl hrl, ← ej, psN_snoc]
        rw [← ej] at hh
        have : rl.headD 0 = L.getD s.c 0 := by
          cases rl with
          | nil => exact absurd rfl hrl
          | cons x r => exact hh
        rw [this]
        rfl
  have hpic : psN (L.take s.c) ++ (psN (subL L s.c sz)).map (· + (intz (L.take s.c)).sum) = psN (L.take (s.c + sz)) := by rw [subL_take, psN_app]
  refine ⟨?_, fun w => absurd w (by simp), fun _ => ⟨hrne, ?_⟩⟩
  · show uAll (s.ns ++ [cNum L s.kn s.c sz]) = _
    rw [uAll_snoc]
    unfold uStep
    rw [hstrip, Du]
    show US.mk (if psN rl = [] then k0.map psN else k0.map psN ++ [psN rl ++ [lastI (psN rl) + headI (psN (subL L s.c sz))]]) (psN (L.take s.c) ++ (psN (subL L s.c sz)).map (· + (intz (L.take s.c)).sum)) (psN (subL L s.c sz)) (lastI (psN (L.take s.c) ++ (psN (subL L s.c sz)).map (· + (intz (L.take s.c)).sum))) = _
    rw [hpic, psN_last (L.take (s.c + sz)) (fun w => by
      have := congrArg List.length w
      rw [List.length_take, List.length_nil] at this
      omega)]
    congr 1
    by_cases e : s.ns = []
    · obtain ⟨a1, a2, a3⟩ := Df e
      rw [if_pos (psN_nil.mpr a1), a2, a3]
    · obtain ⟨hrl, hkn⟩ := Dn e
      rw [if_pos hc] at hkn
      rw [if_neg (psN_ne hrl), hkn, List.map_append, psN_last rl hrl, psN_head (subL L s.c sz) hrne, hh]
      show _ = _ ++ [psN (rl ++ [L.getD s.c 0])]
      rw [psN_snoc]
  · show (if s.c + sz < L.length then s.kn ++ [subL L s.c (sz + 1)] else s.kn) = (if s.c + sz < L.length then s.kn ++ [subL L s.c sz ++ [L.getD (s.c + sz) 0]] else s.kn)
    by_cases e : s.c + sz < L.length
    · rw [if_pos e, if_pos e, subL_succ e]
    · rw [if_neg e, if_neg e]
theorem dInv (hsm : ∀ t ∈ L, t < 256) (k : Nat) : ∃ rl k0, DInv L (cIter L k) rl k0 := by
  induction k with
  | zero => exact ⟨[], [], rfl, fun _ => ⟨rfl, rfl, rfl⟩, fun w => absurd rfl w⟩
  | succ k ih =>
    obtain ⟨rl, k0, D⟩ := ih
    by_cases hc : (cIter L k).c < L.length
    · exact ⟨_, _, dInv_step hsm D hc⟩
    · refine ⟨rl, k0, ?_⟩
      show DInv L (cStep L (cIter L k)) rl k0
      unfold cStep
      rw [if_neg hc]
      exact D
theorem unpack_law (hsm : ∀ t ∈ L, t < 256) (hne : L ≠ []) {k : Nat} (hk : (cIter L k).c = L.length) : (uAll (cIter L k).ns).strips = (cIter L k).kn.map psN ∧ (uAll (cIter L k).ns).picture = psN L := by
  obtain ⟨rl, k0, Du, Df, Dn⟩ := dInv hsm k
  have hns : (cIter L k).ns ≠ [] := fun w => by
    have h0 := congrArg US.picture Du
    rw [w, hk, List.take_length] at h0
    exact psN_ne hne h0.symm
  obtain ⟨-, hkn⟩ := Dn hns
  rw [hk, if_neg (Nat.lt_irrefl _)] at hkn
  rw [Du, hkn, hk, List.take_length]
  exact ⟨rfl, rfl⟩
theorem cut_key (hsm : ∀ t ∈ L, 0 < t ∧ t < 64) (hl : L.length ≤ 12) (k : Nat) : (∀ n ∈ (cIter L k).ns, (0 < n ∧ n < 64) ∨ (256 ≤ n ∧ n < 512)) ∧ (∀ n, (cIter L k).ns[0]? = some n → n < 64) ∧ ((cIter L k).ns = [] → (cIter L k).kn = []) := by
  induction k with
  | zero => exact ⟨fun n hn => (nomatch hn), fun n hn => (nomatch hn), fun _ => rfl⟩
  | succ k ih =>
    have I := cIn L k
    have es : cIter L (k + 1) = cStep L (cIter L k) := rfl
    rw [es]
    generalize cIter L k = s at *
    unfold cStep
    by_cases hc : s.c < L.length
    · rw [if_pos hc]
      obtain ⟨z1, z2, z3⟩ := sizeC_spec (kn := s.kn) hc
      obtain ⟨i1, i2, i3⟩ := ih
      have hg := hsm _ (getD_mem hc)
      have hkl := I.kn
      have := I.ns
      have hn : (sizeC L s.kn s.c = 1 ∧ cNum L s.kn s.c (sizeC L s.kn s.c) = L.getD s.c 0) ∨ (s.kn ≠ [] ∧ 256 ≤ cNum L s.kn s.c (sizeC L s.kn s.c) ∧ cNum L s.kn s.c (sizeC L s.kn s.c) < 512) := by
        unfold cNum
        by_cases e : sizeC L s.kn s.c = 1
        · rw [if_pos e]; exact .inl ⟨e, rfl⟩
        · rw [if_neg e]
          have hm := z3 e
          obtain ⟨j, e1, hj, -⟩ := idx_first hm
          rw [e1]
          exact .inr ⟨(fun w => by rw [w] at hm; cases hm), by omega, by omega⟩
      refine ⟨fun n hn' => ?_, fun n hn' => ?_, fun w => absurd w (by simp)⟩
      · rcases List.mem_append.mp hn' with h | h
        · exact i1 n h
        · rw [List.mem_singleton.mp h]
          rcases hn with ⟨-, e⟩ | ⟨-, e1, e2⟩
          · rw [e]; exact .inl hg
          · exact .inr ⟨e1, e2⟩
      · by_cases e : s.ns = []
        · have hn' : (s.ns ++ [cNum L s.kn s.c (sizeC L s.kn s.c)])[0]? = some n := hn'
          rw [e] at hn'
          cases hn'
          rcases hn with ⟨-, e2⟩ | ⟨e1, -⟩
          · rw [e2]; exact hg.2
          · exact absurd (i3 e) e1
        · refine i2 n ?_
          have hn' : (s.ns ++ [cNum L s.kn s.c (sizeC L s.kn s.c)])[0]? = some n := hn'
          rw [List.getElem?_append_left (List.length_pos_iff.mpr e)] at hn'
          exact hn'
    · rw [if_neg hc]; exact ih
theorem cut_nums (hsm : ∀ t ∈ L, 0 < t ∧ t < 64) (hl : L.length ≤ 12) (k : Nat) : Nums (cIter L k).ns := by
  have I := cIn L k
  have := I.c
  have := I.ns
  have key := cut_key hsm hl k
  exact ⟨by omega, key.1, key.2.1⟩
end
end Mine
end
section
open PySem PySem.W PyProof.Rows PySem.Calls PySem.Flt PySem.SeqAt
set_option maxHeartbeats 1000000
namespace Mine
/-! the written words -/
noncomputable def plainB (y : Str) : Bool := !isWs y && decide (y ≠ bsl) && decide (y ≠ qtl) && decide (y ≠ nlc) && decide (y ≠ Str.ofString "") && decide (y.length ≤ 10)
theorem plain_of {y : Str} (h : plainB y = true) : Plain y := by
  unfold plainB at h
  simp only [Bool.and_eq_true, Bool.not_eq_true', decide_eq_true_eq] at h
  exact ⟨h.1.1.1.1.1, h.1.1.1.1.2, h.1.1.1.2, h.1.1.2, h.1.2, h.2⟩
theorem signs_all : ((List.range 48).all fun i => (sgn (sign i)).all plainB && decide (sgn (sign i) ≠ []) && decide ((sign i).length ≤ 3) && decide (glue (Str.ofString "") (sgn (sign i)) = sign i) && (sign i).cps.all (· < 128) && decide (sign i ≠ Str.ofString "")) = true := by decide +kernel
theorem signs_apart : ((List.range 48).all fun i => (List.range 48).all fun j => !decide (sign i = sign j) || decide (i = j)) = true := by decide +kernel
structure SignOk (i : Nat) : Prop where
  plain : ∀ y ∈ sgn (sign i), Plain y
  ne : sgn (sign i) ≠ []
  len : (sign i).length ≤ 3
  glue : glue (Str.ofString "") (sgn (sign i)) = sign i
  ascii : (sign i).cps.all (· < 128) = true
  non : sign i ≠ Str.ofString ""
theorem sign_ok {i : Nat} (h : i < 48) : SignOk i := by
  have := List.all_eq_true.mp signs_all i (List.mem_range.mpr h)
  simp only [Bool.and_eq_true, decide_eq_true_eq] at this
  obtain ⟨⟨⟨⟨⟨h1, h2⟩, h3⟩, h4⟩, h5⟩, h6⟩ := this
  exact ⟨fun y hy => plain_of (List.all_eq_true.mp h1 y hy), h2, h3, h4, h5, h6⟩
theorem sign_inj {i j : Nat} (hi : i < 48) (hj : j < 48) (h : sign i = sign j) : i = j := by
  have := List.all_eq_true.mp (List.all_eq_true.mp signs_apart i (List.mem_range.mpr hi)) j (List.mem_range.mpr hj)
  simp only [Bool.or_eq_true, Bool.not_eq_true', decide_eq_false_iff_not, decide_eq_true_eq] at this
  exact this.resolve_left fun w => w h
def blanks : Str := Str.ofString " \t\r\n"
def blank (k : Nat) : Str := ⟨#[blanks.cps.getD (k % 4) 0]⟩
theorem blank_cases (k : Nat) : blank k = Str.ofString " " ∨ blank k = Str.ofString "\t" ∨ blank k = Str.ofString "\r" ∨ blank k = Str.ofString "\n" := by
  unfold blank
  have := Nat.mod_lt k (show 0 < 4 by decide)
  generalize k % 4 = j at this
  match j, this with
  | 0, _ => exact .inl (by decide)
  | 1, _ => exact .inr (.inl (by decide))
  | 2, _ => exact .inr (.inr (.inl (by decide)))
  | 3, _ => exact .inr (.inr (.inr (by decide)))
theorem blank_ok (k : Nat) : isWs (blank k) = true ∧ blank k ≠ Str.ofString "" ∧ chars (blank k) = [.str (blank k)] ∧ (blank k).length = 1 ∧ (blank k).cps.all (· < 128) = true := by
  rcases blank_cases k with e | e | e | e <;> rw [e] <;> exact ⟨by kernel_rfl, by decide, rfl, rfl, by decide +kernel⟩
noncomputable def wdOf (k : Nat) (t : Pr) : Wd := ⟨sgn (sign t.i), decide (t.m % 2 = 1), decide (2 ≤ t.m), blank k⟩
noncomputable def wrOf (k : Nat) (t : Pr) : Str := wrS (sign t.i) t.m (blank k)
def pr0 : Pr := ⟨0, 0, 0⟩
noncomputable def wsOf (ts : List Pr) : List Wd := (List.range 12).map fun k => wdOf k (ts.getD k pr0)
noncomputable def wrsOf (ts : List Pr) : List Str := (List.range 12).map fun k => wrOf k (ts.getD k pr0)
def lettersOf (ts : List Pr) : List Nat := ts.map fun t => t.i + 7
theorem chars_one {y : Str} {x : Str} (h : y ∈ sgn x) : chars y = [.str y] := by
  unfold sgn at h
  obtain ⟨c, -, rfl⟩ := List.mem_map.mp h
  rfl
theorem chars_dress (x : Str) (m : Nat) : chars (dressS x m) = enc (decide (m % 2 = 1)) (sgn x) := by
  unfold dressS
  by_cases e : m % 2 = 1
  · rw [if_pos e, decide_eq_true e, chars_join]
    unfold enc
    have : ∀ l : List Str, (∀ y ∈ l, chars y = [.str y]) → (l.map fun y => bsl ++ y).flatMap chars = l.flatMap fun y => [PV.str bsl, PV.str y] := fun l hl => by
      induction l with
      | nil => rfl
      | cons y r ih =>
        rw [List.map_cons, List.flatMap_cons, List.flatMap_cons, ih fun z hz => hl z (.tail _ hz), chars_append, hl y (.head _)]
        rfl
    rw [this _ fun y hy => chars_one hy]
    rfl
  · rw [if_neg e, decide_eq_false e, chars_sgn]
    unfold enc
    rw [List.map_eq_flatMap]
    rfl
theorem chars_wr (k : Nat) (t : Pr) : chars (wrOf k t) = (wdOf k t).txt := by
  unfold wrOf wrS Wd.txt dress wdOf
  dsimp only
  by_cases e : t.m < 2
  · rw [if_pos e, decide_eq_false (Nat.not_le.mpr e), chars_append, chars_dress, (blank_ok k).2.2.1]
    rfl
  · rw [if_neg e, decide_eq_true (Nat.not_lt.mp e), chars_append, chars_append, chars_dress]
    rfl
theorem chars_join_wr (l : List Nat) (ts : List Pr) : chars (Str.join (Str.ofString "") (l.map fun k => wrOf k (ts.getD k pr0))) = text (l.map fun k => wdOf k (ts.getD k pr0)) := by
  rw [chars_join]
  unfold text
  induction l with
  | nil => rfl
  | cons k r ih => rw [List.map_cons, List.map_cons, List.flatMap_cons, List.flatMap_cons, ih, chars_wr]
theorem text_of (ts : List Pr) (p : Nat) : chars (Str.join (Str.ofString "") ((wrsOf ts).drop p)) = text ((wsOf ts).drop p) := by
  unfold wrsOf wsOf
  rw [← List.map_drop, ← List.map_drop, chars_join_wr]
theorem chars_len (x : Str) : (chars x).length = x.length := by unfold chars; rw [List.length_map, Array.length_toList]; rfl
theorem enc_length (e : Bool) (w : List Str) : (enc e w).length ≤ 2 * w.length := by
  induction w with
  | nil => exact Nat.le_refl _
  | cons y w ih =>
    rw [enc_cons, List.length_append, List.length_cons]
    cases e <;> simp <;> omega
section
variable {ts : List Pr}
theorem pr_at (hl : ts.length = 12) (h : ∀ t ∈ ts, t.i < 48 ∧ t.m < 4) {k : Nat} (hk : k < 12) : ts[k]? = some (ts.getD k pr0) ∧ (ts.getD k pr0).i < 48 ∧ (ts.getD k pr0).m < 4 := by
  have hk' : k < ts.length := hl ▸ hk
  rw [List.getD_eq_getElem?_getD, List.getElem?_eq_getElem hk']
  exact ⟨rfl, h _ (List.getElem_mem hk')⟩
theorem wd_ok {k : Nat} {t : Pr} (hi : t.i < 48) : (wdOf k t).Ok := by
  have S := sign_ok hi
  have B := blank_ok k
  exact ⟨S.plain, S.ne, by show (sgn (sign t.i)).length ≤ 100; rw [sgn_len]; have := S.len; omega, B.1, B.2.1⟩
theorem wd_len {k : Nat} {t : Pr} (hi : t.i < 48) : (wdOf k t).txt.length ≤ 8 := by
  have S := sign_ok hi
  have h1 := enc_length (decide (t.m % 2 = 1)) (sgn (sign t.i))
  rw [sgn_len] at h1
  have := S.len
  unfold Wd.txt dress wdOf
  dsimp only
  cases decide (2 ≤ t.m)
  · show (enc _ _ ++ [_]).length ≤ 8
    rw [List.length_append, List.length_singleton]; omega
  · show (PV.str qtl :: (enc _ _ ++ [_])).length ≤ 8
    rw [List.length_cons, List.length_append, List.length_singleton]; omega
theorem ws_ok (hl : ts.length = 12) (h : ∀ t ∈ ts, t.i < 48 ∧ t.m < 4) : (∀ d ∈ wsOf ts, d.Ok) ∧ (text (wsOf ts)).length ≤ 1000 ∧ (wsOf ts).length = 12 := by
  refine ⟨fun d hd => ?_, ?_, by unfold wsOf; rw [List.length_map, List.length_range]⟩
  · unfold wsOf at hd
    obtain ⟨k, hk, rfl⟩ := List.mem_map.mp hd
    exact wd_ok (pr_at hl h (List.mem_range.mp hk)).2.1
  · have key : ∀ l : List Nat, (∀ k ∈ l, k < 12) → (text (l.map fun k => wdOf k (ts.getD k pr0))).length ≤ 8 * l.length := fun l hl' => by
      induction l with
      | nil => exact Nat.le_refl _
      | cons k r ih =>
        have h1 := ih fun j hj => hl' j (.tail _ hj)
        have h2 := wd_len (k := k) (pr_at hl h (hl' k (.head _))).2.1
        unfold text at h1 ⊢
        rw [List.map_cons, List.flatMap_cons, List.length_append, List.length_cons]
        omega
    have := key (List.range 12) fun k hk => List.mem_range.mp hk
    rw [List.length_range] at this
    unfold wsOf
    omega
theorem wrd_at (hl : ts.length = 12) (h : ∀ t ∈ ts, t.i < 48 ∧ t.m < 4) {p : Nat} (hp : p < 12) : wrd (wsOf ts) p = sign (ts.getD p pr0).i := by
  unfold wrd wsOf
  rw [List.getElem?_map, List.getElem?_range hp]
  exact (sign_ok (pr_at hl h hp).2.1).glue
theorem wrd_end (p : Nat) (hp : 12 ≤ p) : wrd (wsOf ts) p = Str.ofString "" := by
  unfold wrd wsOf
  rw [List.getElem?_map, List.getElem?_eq_none_iff.mpr (by rw [List.length_range]; exact hp)]
  rfl
theorem letter_at (hl : ts.length = 12) {p : Nat} (hp : p < 12) : (lettersOf ts).getD p 0 = (ts.getD p pr0).i + 7 := by
  have hk' : p < ts.length := hl ▸ hp
  unfold lettersOf
  rw [List.getD_eq_getElem?_getD, List.getD_eq_getElem?_getD, List.getElem?_map, List.getElem?_eq_getElem hk']
  rfl
theorem letters_len (hl : ts.length = 12) : (lettersOf ts).length = 12 := by unfold lettersOf; rw [List.length_map, hl]
theorem letters_in (h : ∀ t ∈ ts, t.i < 48 ∧ t.m < 4) : ∀ n ∈ lettersOf ts, 7 ≤ n ∧ n < 55 := fun n hn => by
  unfold lettersOf at hn
  obtain ⟨t, ht, rfl⟩ := List.mem_map.mp hn
  have := (h t ht).1
  omega
theorem wrds_ok (hl : ts.length = 12) (h : ∀ t ∈ ts, t.i < 48 ∧ t.m < 4) : Wrds (lettersOf ts) (wrd (wsOf ts)) (fun p => (lettersOf ts).getD p 0) where
  non p := by
    rw [letters_len hl]
    rcases Nat.lt_or_ge p 12 with hp | hp
    · rw [wrd_at hl h hp]
      exact ⟨fun _ => hp, fun _ => (sign_ok (pr_at hl h hp).2.1).non⟩
    · rw [wrd_end p hp]
      exact ⟨fun w => absurd rfl w, fun w => by omega⟩
  inj p q hp hq := by
    rw [letters_len hl] at hp hq
    rw [wrd_at hl h hp, wrd_at hl h hq, letter_at hl hp, letter_at hl hq]
    refine ⟨fun e => by rw [sign_inj (pr_at hl h hp).2.1 (pr_at hl h hq).2.1 e], fun e => by rw [show (ts.getD p pr0).i = (ts.getD q pr0).i by omega]⟩
  num p _ := rfl
  small t ht := by have := letters_in h t ht; omega
/-! line ends -/
def isNl (p : PV) : Bool := match p with
  | .str y => decide (y = nlc)
  | _ => false
theorem nl_enc {e : Bool} {w : List Str} (h : ∀ y ∈ w, Plain y) : (enc e w).countP isNl = 0 := by
  rw [List.countP_eq_zero]
  intro p hp
  unfold enc at hp
  obtain ⟨y, hy, hp⟩ := List.mem_flatMap.mp hp
  have hn : isNl (.str y) = false := decide_eq_false (h y hy).nl
  have hb : isNl (.str bsl) = false := by decide
  cases e
  · rw [List.mem_singleton.mp hp, hn]; exact Bool.false_ne_true
  · rcases List.mem_cons.mp hp with rfl | hp
    · rw [hb]; exact Bool.false_ne_true
    · rw [List.mem_singleton.mp hp, hn]; exact Bool.false_ne_true
theorem nl_txt {d : Wd} (h : d.Ok) : ((d.txt.countP isNl : Nat) : Int) = d.nl := by
  unfold Wd.txt dress Wd.nl
  cases d.q
  · show (((enc d.e d.w ++ [PV.str d.b]).countP isNl : Nat) : Int) = _
    rw [List.countP_append, nl_enc h.plain, List.countP_singleton]
    show ((0 + if decide (d.b = nlc) = true then 1 else 0 : Nat) : Int) = _
    by_cases e : d.b = nlc
    · rw [if_pos (decide_eq_true e), if_pos ⟨rfl, e⟩]; rfl
    · rw [if_neg (by simp [e]), if_neg (fun w => e w.2)]; rfl
  · show (((PV.str qtl :: (enc d.e d.w ++ [PV.str qtl])).countP isNl : Nat) : Int) = _
    have hq : isNl (.str qtl) = false := by decide
    rw [List.countP_cons_of_neg (by rw [hq]; exact Bool.false_ne_true), List.countP_append, nl_enc h.plain, List.countP_singleton, hq]
    rfl
theorem nl_text {ws : List Wd} (h : ∀ d ∈ ws, d.Ok) : (((text ws).countP isNl : Nat) : Int) = lines ws := by
  induction ws with
  | nil => rfl
  | cons d r ih =>
    unfold text lines at ih ⊢
    rw [List.flatMap_cons, List.countP_append, List.map_cons, List.sum_cons, ← nl_txt (h d (.head _)), ← ih fun x hx => h x (.tail _ hx)]
    push_cast
    rfl
end
end Mine
end
section
open PySem PySem.W PyProof.Rows PySem.Calls PySem.Flt PySem.SeqAt
set_option maxHeartbeats 1000000
namespace Mine
def revS (y : Str) : Str := ⟨y.cps.toList.reverse.toArray⟩
theorem revS_chars (y : Str) : chars (revS y) = (chars y).reverse := by unfold chars revS; rw [List.map_reverse]
theorem rev_slice (y : Str) (u : Tok) : Txt.sliceBy y none none (-1, u) = revS y := by
  unfold Txt.sliceBy
  rw [if_neg (by show ¬ ((-1 : Int) == 1 && _) = true; rw [show ((-1 : Int) == 1) = false by decide, Bool.false_and]; exact Bool.false_ne_true)]
  show (⟨(List.filterMap (y.cps[·]?) (sliceRange ((y.cps.size : Int) - 1) (-1) (-1))).toArray⟩ : Str) = _
  rw [krv_sliceRange, krv_range, List.filterMap_reverse, krv_all]
  rfl
section
variable {C : Cx} {ks : Kinds} {lm : Vars} {l m : Led} {s : Shared}
/-- `x[::-1]` of a str -/
theorem rev_ev {x : Str} {xp p1 p2 p pos : Pos} {k : Nat} {y : Str} {Q : Value → Shared → Prop} (H : St C ks lm l s) (hx : nm ks lm x = some (.str y)) (hy : y.length ≤ 100000) (h : ∀ v s', VS v (.str (revS y)) → St C ks lm l s' → Q v s') :
    C.X (eval (.Subscript (.Name x xp) (.Slice none none (some (.UnaryOp .USub (.Constant (.int 1) k p1) p2)) p) pos) C.env) Q s := by
  refine Subscript_ (Name_ok H hx fun v hv => wpAny_Slice ?_)
  obtain ⟨t, rfl⟩ := hv
  refine wpAny_pure (wpAny_pure (ev_ok (p := .int (-1)) 2 H rfl fun v1 s₁ hv1 H₁ => ?_))
  obtain ⟨u, rfl⟩ := hv1
  obtain ⟨m, news, F, N, back⟩ := H₁.bridge
  refine wpAny_with_toks (n := s₁.toks) (Nat.le_refl s₁.toks) (slice_strK_nn (k := -1) F N (by decide) (fun h' t' c F' N' htk => ?_) (by rfl) (by intro _; rfl) (by rw [line_is]; omega))
  rw [rev_slice]
  exact h _ _ (.mk (.str _) t') (back h' c [] [] htk F' N' .nil (fun p hp => (nomatch hp)) .nil)
/-- a sign of a written str -/
theorem blank_ev {x : Str} {xp p1 p2 p3 pos : Pos} {k1 k2 : Nat} {k : Nat} {Q : Value → Shared → Prop} (H : St C ks lm l s) (hx : nm ks lm x = some (.int k)) (h : ∀ v s', VS v (.str (blank k)) → St C ks lm l s' → Q v s') :
    C.X (eval (.Subscript (.Constant (.str " \t\r\n") k1 p1) (.BinOp (.Name x xp) .Mod (.Constant (.int 4) k2 p2) p3) pos) C.env) Q s := by
  refine Subscript_ (ev_ok (p := .str blanks) 1 H rfl fun v s₁ hv H₁ => ev_ok (p := .int ((k % 4 : Nat) : Int)) 2 H₁ ?_ fun v1 s₂ hv1 H₂ => ?_)
  · show ((nm ks lm x).bind fun a => (some (PV.int 4)).bind fun b => bin .Mod a b) = _
    rw [hx]
    show (if (4 : Int) ≠ 0 then some (PV.int (Int.fmod k 4)) else none) = _
    rw [if_pos (by decide), show Int.fmod (k : Int) 4 = ((k % 4 : Nat) : Int) from fmod_nat k 4 (by decide)]
  · obtain ⟨t, rfl⟩ := hv
    obtain ⟨u, rfl⟩ := hv1
    have hlt := Nat.mod_lt k (show 0 < 4 by decide)
    have hz : blanks.length = 4 := by decide +kernel
    have hz2 : blanks.cps.size = 4 := hz
    have hc : (seqIndex? ((k % 4 : Nat) : Int) blanks.length).bind (blanks.cps[·]?) = some (blanks.cps.getD (k % 4) 0) := by
      rw [hz, seqI hlt]
      show blanks.cps[k % 4]? = _
      rw [Array.getElem?_eq_getElem (by rw [hz2]; exact hlt), Array.getD_eq_getD_getElem?, Array.getElem?_eq_getElem (by rw [hz2]; exact hlt)]
      rfl
    refine tail_any (typeIs_str _ _ _) PyProof.Rows.slot_str_getitem.lookup (PyProof.Rows.getItem_str (c := blanks.cps.getD (k % 4) 0) ?_ hc ?_) (by rfl)
    · have h1 : ¬ ((k % 4 : Nat) : Int) < -(2 ^ 63) := by omega
      have h2 : ¬ ((k % 4 : Nat) : Int) ≥ 2 ^ 63 := by omega
      rw [decide_eq_false h1, decide_eq_false h2]; rfl
    · exact h _ _ (.mk (.str (blank k)) _) (H₂.toks _)
/-- sum of a list of ones -/
theorem sum_ones {a : Addr} {ao : AO} {n : Nat} {vs : List Value} {Q : Value → Shared → Prop} (H : St C ks lm l s) (hh : C.A.handled = none) (hv : VSs vs [.ref a]) (hl : Has a ao l) (hao : ∀ o, ao o → aLs ((List.replicate n (1 : Int)).map .int) o) (hn : n ≤ 100000)
    (h : ∀ v s', VS v (.int n) → St C ks lm l s' → Q v s') : C.X (call (.builtin "sum") vs) Q s := by
  cases hv with
  | cons h1 hv =>
  cases hv
  obtain ⟨_, rfl⟩ := h1
  obtain ⟨vs, hL, r⟩ := H.ints hl hao
  have hi := intsOf r
  obtain ⟨xs, e⟩ := hi.allInts.items
  have hns : List.replicate n (1 : Int) = xs.toList.map (·.1) := by
    rw [← hi.numsOf, ← nums_intItems, ← e]
  have hz : xs.size = n := by
    have := congrArg List.length hns
    rw [List.length_replicate, List.length_map, Array.length_toList] at this
    exact this.symm
  have hp : ∀ j, j ≤ n → preSum (numAt xs) j = j := fun j hj => by
    rw [preSum_eq, ← hns, List.take_replicate, Nat.min_eq_left hj, List.sum_replicate_int]
    omega
  have hv : vs = intItems xs := e
  rw [hv] at hL
  refine wpAny_with_toks (Nat.le_refl s.toks) (sum_intList hh hL (fun j hj => ⟨?_, ?_⟩) fun h' tk t' k htk => ?_)
  · rw [numAt_eq, ← hns]
    unfold InLong
    rw [List.getD_eq_getElem?_getD, List.getElem?_replicate, if_pos (by omega)]
    decide
  · rw [hp (j + 1) (by omega)]
    unfold InLong
    omega
  · rw [hz, hp n (Nat.le_refl _)]
    exact h _ _ (.mk (.int _) _) (H.keeps k htk)
/-! several names at once -/
theorem assign2 {x1 x2 : Str} {p1 p2 tp : Pos} {kk : Nat} {t : Addr} {a b : PV} {Q : Unit → Shared → Prop} (H : St C ks lm l s) (hh : C.A.handled = none) (ht : Has t (aTup [a, b]) l) (h1 : ks.lookup x1 = some .local) (h2 : ks.lookup x2 = some .local)
    (h : ∀ s', St C ks ((x2, b) :: (x1, a) :: lm) l s' → Q () s') : C.X (assign (.Tuple [.Name x1 p1, .Name x2 p2] kk tp) C.env (.ref t)) Q s := by
  obtain ⟨_, ho, vs, n, rfl, r⟩ := H.mem ht
  cases vs with
  | mk vs =>
  cases r with
  | cons q1 r =>
  cases r with
  | cons q2 r =>
  cases r
  rename_i v1 v2
  refine wpAny_assign_Tuple hh ⟨_, ho, rfl, n, rfl⟩ rfl rfl fun h₃ hx₃ => ?_
  have H₁ : St C ks lm l { s with heap := h₃, toks := s.toks } := H.keeps fun b o e => hx₃ b o (Nat.ne_of_lt (Heap.lt_size e)) e
  show C.X (do holding [v2] (assign (.Name x1 p1) C.env v1); do holding [] (assign (.Name x2 p2) C.env v2); pure ()) _ _
  refine wpAny_bind (wpAny_holding (wpAny_assign_Name (storeL H₁ h1 q1 fun s₄ H₄ => ?_)))
  exact wpAny_bind (wpAny_holding (wpAny_assign_Name (storeL H₄ h2 q2 fun s₅ H₅ => wpAny_pure (h s₅ H₅))))
theorem assign3 {x1 x2 x3 : Str} {p1 p2 p3 tp : Pos} {kk : Nat} {t : Addr} {a b c : PV} {Q : Unit → Shared → Prop} (H : St C ks lm l s) (hh : C.A.handled = none) (ht : Has t (aTup [a, b, c]) l) (h1 : ks.lookup x1 = some .local) (h2 : ks.lookup x2 = some .local) (h3 : ks.lookup x3 = some .local)
    (h : ∀ s', St C ks ((x3, c) :: (x2, b) :: (x1, a) :: lm) l s' → Q () s') : C.X (assign (.Tuple [.Name x1 p1, .Name x2 p2, .Name x3 p3] kk tp) C.env (.ref t)) Q s := by
  obtain ⟨_, ho, vs, n, rfl, r⟩ := H.mem ht
  cases vs with
  | mk vs =>
  cases r with
  | cons q1 r =>
  cases r with
  | cons q2 r =>
  cases r with
  | cons q3 r =>
  cases r
  rename_i v1 v2 v3
  refine wpAny_assign_Tuple hh ⟨_, ho, rfl, n, rfl⟩ rfl rfl fun h₃ hx₃ => ?_
  have H₁ : St C ks lm l { s with heap := h₃, toks := s.toks } := H.keeps fun b o e => hx₃ b o (Nat.ne_of_lt (Heap.lt_size e)) e
  show C.X (do holding [v2, v3] (assign (.Name x1 p1) C.env v1); do holding [v3] (assign (.Name x2 p2) C.env v2); do holding [] (assign (.Name x3 p3) C.env v3); pure ()) _ _
  refine wpAny_bind (wpAny_holding (wpAny_assign_Name (storeL H₁ h1 q1 fun s₄ H₄ => ?_)))
  refine wpAny_bind (wpAny_holding (wpAny_assign_Name (storeL H₄ h2 q2 fun s₅ H₅ => ?_)))
  exact wpAny_bind (wpAny_holding (wpAny_assign_Name (storeL H₅ h3 q3 fun s₆ H₆ => wpAny_pure (h s₆ H₆))))
/-- a call of a def of one argument, its argument walked by hand -/
theorem Call_fn1 {x : Str} {xp pos : Pos} {e : Expr} {a : Addr} {params : List Str} {Q : Value → Shared → Prop} (D : Def a params) (H : St C ks lm l s) (hx : nm ks lm x = some (.ref a))
    (h : C.X (eval e C.env) (fun v s' => (∃ lm' l', St C ks lm' l' s') ∧ C.X (call (.ref a) [v]) Q s') s) (he : starEach [e] C.env = [(false, eval e C.env)] := by rfl) : C.X (eval (.Call (.Name x xp) [e] [] pos) C.env) Q s := by
  refine Call_ (Name_ok H hx fun v hv => ?_)
  obtain ⟨_, rfl⟩ := hv
  refine callWith_K (h₀ := C.g) C.G.X (Bool.and_eq_true_iff.mp (D.code _)).2 (wpAny_items_cons (wpAny_mono h (fun v s' hq => wpAny_items_nil ?_) fun _ _ z => z) he) he rfl
  obtain ⟨⟨lm', l', H'⟩, hq⟩ := hq
  exact ⟨C.G.X.keeps H'.keep, hq⟩
end
end Mine
end
section
open PySem PySem.W PyProof.Rows PySem.Calls PySem.Flt PySem.SeqAt
set_option maxHeartbeats 2000000
namespace Mine
section
variable {C : Cx} {ks : Kinds} {lm : Vars} {l m : Led} {s : Shared}
/-- a comprehension over pairs, bound to a name -/
theorem do_pairs {x1 x2 y : Str} {p1 p2 tp py pos sp : Pos} {kk : Nat} {elt iter : Expr} {scope : Scope} {b : Addr} {ts : List Pr} {rs : List Stmt} {Q : Flow → Shared → Prop} (ks' : Kinds) (f : Pr → PV) (H : St C ks lm l s) (hh : C.A.handled = none)
    (hc : cchk scope ks ks' = true) (hy : ks.lookup y = some .local) (hln : (py.line == pos.line) = true) (hn : (scope.names.any fun q => q.1 == y && (q.2 == .local || q.2 == .cell)) = false)
    (hi : C.X (eval iter C.env) (fun v s₁ => VS v (.ref b) ∧ St C ks lm l s₁) s) (hb : Has b (aList (prR ts)) l) (ht : ∀ t ∈ ts, Has t.a (aTup [.int t.i, .int t.m]) l) (hz : ts.length ≤ 100) (h1 : ks'.lookup x1 = some .local) (h2 : ks'.lookup x2 = some .local)
    (turn : ∀ C' t l' s', C'.A = C.A → t ∈ ts → St C' ks' [(x2, .int t.m), (x1, .int t.i)] l' s' → C'.X (eval elt C'.env) (fun v s'' => VS v (f t) ∧ St C' ks' [(x2, .int t.m), (x1, .int t.i)] l' s'') s')
    (fin : ∀ a s', St C ks ((y, .ref a) :: lm) ((a, aList (ts.map f)) :: l) s' → C.B rs Q s')
    (hsi : ∀ x, foldedSetIterable iter C.env x = pure x := by intro _; rfl) : C.B (.Assign [.Name y py] (.ListComp elt [⟨.Tuple [.Name x1 p1, .Name x2 p2] kk tp, iter, [], 0⟩] scope pos) sp :: rs) Q s := by
  obtain ⟨cl, g1, g2, g3⟩ := comp_closure hc H.V
  have hc' := hc
  unfold cchk at hc'
  simp only [Bool.and_eq_true, List.all_eq_true, Bool.or_eq_true, Bool.not_eq_true', beq_iff_eq, beq_eq_false_iff_ne] at hc'
  refine wpAny_execs_cons ?_
  show C.X (exec _ C.env) _ s
  rw [exec_Assign_Name_used _ _ _ _ (swaps_comp H.V hy hln hn)]
  refine wpAny_bind (wpAny_standAt (wpAny_bind ?_))
  show wpAny _ C.A (do let _ ← comprehension (.ListComp elt [⟨.Tuple [.Name x1 p1, .Name x2 p2] kk tp, iter, [], 0⟩] scope pos) scope C.env _ (newList []) false (eval iter C.env) (some (assign (.Name y py) C.env))) _ _ s
  refine wpAny_bind (wpAny_mono (wpAny_comprehension_free (use := some (assign (.Name y py) C.env)) (Q := fun _ s' => C.B rs Q s') rfl hsi g1 hc'.1.1 (fun y hy hl => (hc'.1.2 y hy).1.2.resolve_left fun w => w hl) (wpAny_mono hi (fun v s₁ hq => ?_) fun _ _ e => e)) (fun _ s' hq => wpAny_pure (wpAny_pure hq)) fun _ _ e => e)
  refine iter_list hq.2 hq.1 hb fun it s₂ H₂ => ?_
  refine comp_frame (lm' := []) hc (fun _ _ h => nomatch h) H₂ g2 g3 fun C' acc s' hA H' back => ?_
  have hh' : C'.A.handled = none := hA ▸ hh
  have W := walk_list it b (prR ts)
  have hzr : (prR ts).length = ts.length := by unfold prR; rw [List.length_map]
  have go : codeAny (model C'.prog C'.w) C'.A (.compLoop (.ListComp elt [⟨.Tuple [.Name x1 p1, .Name x2 p2] kk tp, iter, [], 0⟩] scope pos) 0 (.ref it) (.ref acc) C'.env) (compPost (model C.prog C.w) C.A NoE (some (assign (.Name y py) C.env)) (fun _ s' => C.B rs Q s') (.ref acc) C'.env.locals) s' := by
    refine PyProof.Rows.LCp.codeAny_compLoop_pair (fun n s => ∃ k, n = ts.length + 1 - k ∧ k ≤ ts.length ∧ St C' ks' [] ((acc, aList ((ts.take k).map f)) :: (it, aLIter b k) :: l) s) (fun n s hI => ?_) _ ⟨0, rfl, Nat.zero_le _, H'⟩
    obtain ⟨k, rfl, hle, Hk⟩ := hI
    have Hk' := Hk.perm (.swap ..)
    refine noE ?_
    cases e : (prR ts)[k]? with
    | none =>
      have hk : k = ts.length := by have := List.getElem?_eq_none_iff.mp e; omega
      refine W.fin hh' (.tail _ hb) Hk' e fun s₃ H₃ => ?_
      subst hk
      rw [List.take_length] at H₃
      refine wpAny_assign_Name (storeL (back _ _ _ H₃) hy (.raw _) fun s₅ H₅ => ?_)
      obtain ⟨m, hm, hbk⟩ := H₅.frm
      exact ⟨m, hm, fun h' hs' => fin _ _ (hbk h' hs')⟩
    | some p =>
      have hlt : k < ts.length := by have := (List.getElem?_eq_some_iff.mp e).1; omega
      obtain ⟨t, hts, rfl⟩ : ∃ t, ts[k]? = some t ∧ p = .ref t.a := by
        unfold prR at e
        rw [List.getElem?_map] at e
        obtain ⟨t, h, e⟩ := Option.map_eq_some_iff.mp e
        exact ⟨t, h, e.symm⟩
      have htm := List.mem_of_getElem? hts
      refine W.item (.tail _ hb) Hk' e fun v s₃ hv H₃ => ?_
      obtain ⟨_, rfl⟩ := hv
      obtain ⟨oi, hoi, ri⟩ := H₃.at (i := 0) rfl
      refine noE (wpAny_letOwnedTupleGo_listiter (l := b) (i := k + 1) ⟨oi, hoi, ri⟩ (noE (assign2 (H₃.perm (.swap ..)) hh' (.tail _ (.tail _ (ht t htm))) h1 h2 fun s₄ H₄ => noE (wpAny_mono (turn C' t _ s₄ hA htm H₄) (fun v s₅ hq => ?_) fun _ _ z => z))))
      refine noE (append_ok (i := 0) hq.2 rfl hq.1 (by rw [List.length_map, List.length_take]; omega) fun s₆ H₆ => ⟨ts.length + 1 - (k + 1), by omega, k + 1, rfl, hlt, ?_⟩)
      have ef : (ts.take (k + 1)).map f = (ts.take k).map f ++ [f t] := by rw [List.take_add_one, hts, List.map_append]; rfl
      rw [ef]
      exact H₆.norm trivial
  exact codeAny_compStart_list go (noE (W.self (H'.perm (.swap ..)) go))
end
end Mine
end
section
open PySem PySem.W PyProof.Rows PySem.Calls PySem.Flt PySem.SeqAt
set_option maxHeartbeats 2000000
namespace Mine
/-! ascii -/
def okC (p : PV) : Bool := match p with
  | .str y => y.cps.all (· < 128)
  | _ => false
theorem ascii_of {x : Str} (h : ∀ p ∈ chars x, okC p = true) : x.cps.all (· < 128) = true := by
  rw [← Array.all_toList, List.all_eq_true]
  intro c hc
  have this : (#[c] : Array Nat).all (· < 128) = true := h (.str ⟨#[c]⟩) (List.mem_map_of_mem hc)
  rw [← Array.all_toList, List.all_eq_true] at this
  exact this c (.head _)
theorem ascii_sgn {x y : Str} (h : x.cps.all (· < 128) = true) (hy : y ∈ sgn x) : okC (.str y) = true := by
  unfold sgn at hy
  obtain ⟨c, hc, rfl⟩ := List.mem_map.mp hy
  rw [← Array.all_toList, List.all_eq_true] at h
  show (#[c] : Array Nat).all (· < 128) = true
  rw [← Array.all_toList, List.all_eq_true]
  intro d hd
  rw [List.mem_singleton.mp hd]
  exact h c hc
theorem ascii_text {ts : List Pr} (hl : ts.length = 12) (h : ∀ t ∈ ts, t.i < 48 ∧ t.m < 4) : ∀ p ∈ text (wsOf ts), okC p = true := by
  intro p hp
  obtain ⟨d, hd, hp⟩ := List.mem_flatMap.mp hp
  unfold wsOf at hd
  obtain ⟨k, hk, rfl⟩ := List.mem_map.mp hd
  obtain ⟨-, hi, -⟩ := pr_at hl h (List.mem_range.mp hk)
  have hb : okC (.str bsl) = true := by decide +kernel
  have hq : okC (.str qtl) = true := by decide +kernel
  have he : ∀ p ∈ enc (decide ((ts.getD k pr0).m % 2 = 1)) (sgn (sign (ts.getD k pr0).i)), okC p = true := fun p hp => by
    unfold enc at hp
    obtain ⟨y, hy, hp⟩ := List.mem_flatMap.mp hp
    have hs := ascii_sgn (sign_ok hi).ascii hy
    split at hp
    · rcases List.mem_cons.mp hp with rfl | hp
      · exact hb
      · rw [List.mem_singleton.mp hp]; exact hs
    · rw [List.mem_singleton.mp hp]; exact hs
  unfold Wd.txt dress wdOf at hp
  dsimp only at hp
  split at hp
  · rcases List.mem_cons.mp hp with rfl | hp
    · exact hq
    · rcases List.mem_append.mp hp with hp | hp
      · exact he p hp
      · rw [List.mem_singleton.mp hp]; exact hq
  · rcases List.mem_append.mp hp with hp | hp
    · exact he p hp
    · rw [List.mem_singleton.mp hp]; exact (blank_ok k).2.2.2.2
theorem wrs_at {ts : List Pr} {k : Nat} (hk : k < 12) : (wrsOf ts)[k]? = some (wrOf k (ts.getD k pr0)) := by
  unfold wrsOf
  rw [List.getElem?_map, List.getElem?_range hk]
  rfl
theorem wrs_len (ts : List Pr) : (wrsOf ts).length = 12 := by unfold wrsOf; rw [List.length_map, List.length_range]
theorem wr_len {k : Nat} {t : Pr} (hi : t.i < 48) : (wrOf k t).length ≤ 8 := by
  rw [← chars_len, chars_wr]
  exact wd_len hi
theorem wrs_sum {ts : List Pr} (hl : ts.length = 12) (h : ∀ t ∈ ts, t.i < 48 ∧ t.m < 4) (p : Nat) : (((wrsOf ts).drop p).map (·.length)).sum ≤ 100 := by
  have key : ∀ l : List Str, (∀ y ∈ l, y.length ≤ 8) → (l.map (·.length)).sum ≤ 8 * l.length := fun l hl => by
    induction l with
    | nil => exact Nat.le_refl _
    | cons y r ih =>
      have h1 := ih fun z hz => hl z (.tail _ hz)
      have h2 := hl y (.head _)
      rw [List.map_cons, List.sum_cons, List.length_cons]
      omega
  have := key ((wrsOf ts).drop p) fun y hy => by
    have hy := List.mem_of_mem_drop hy
    unfold wrsOf at hy
    obtain ⟨k, hk, rfl⟩ := List.mem_map.mp hy
    exact wr_len (pr_at hl h (List.mem_range.mp hk)).2.1
  rw [List.length_drop, wrs_len] at this
  omega
section
variable {C : Cx} {ks : Kinds} {lm : Vars} {l m : Led} {s : Shared}
theorem swaps_cell {elt : Expr} {gens : List Comprehension} {scope : Scope} {pos py : Pos} {y : Str} {n : Nat} {env : Env} (V : Env0 env ks) (hy : ks.lookup y = some .cell) :
    swapsWith (.ListComp elt gens scope pos) (some (.Name y py)) n env = pure false := by
  have hk := V.kd _ _ hy
  unfold swapsWith
  show (pure (env.blockKind == .function && env.kindOf y == some .local && py.line == (Expr.ListComp elt gens scope pos).pos.line && !(scope.names.any fun (n, k) => n == y && (k == .local || k == .cell))) : Sem Bool) = pure false
  rw [hk]
  have : (some NameKind.cell == some NameKind.local) = false := by decide
  rw [this, Bool.and_false, Bool.false_and, Bool.false_and]
/-- `row[k][j]` -/
theorem pair_ev {x z : Str} {p1 p2 p3 p4 p5 : Pos} {kk : Nat} {b : Addr} {ts : List Pr} {t : Pr} {k : Nat} {j : Int} {jn : Nat} {p : PV} {Q : Value → Shared → Prop} (H : St C ks lm l s) (hx : nm ks lm x = some (.ref b)) (hz : nm ks lm z = some (.int k)) (hb : Has b (aList (prR ts)) l) (hl : ts.length ≤ 100) (hk : ts[k]? = some t) (ht : Has t.a (aTup [.int t.i, .int t.m]) l)
    (hj : seqIndex? j 2 = some jn) (hp : [PV.int t.i, PV.int t.m][jn]? = some p) (h : ∀ v s', VS v p → St C ks lm l s' → Q v s') :
    C.X (eval (.Subscript (.Subscript (.Name x p1) (.Name z p2) p3) (.Constant (.int j) kk p4) p5) C.env) Q s := by
  have hlt := (List.getElem?_eq_some_iff.mp hk).1
  have hzr : (prR ts).length = ts.length := by unfold prR; rw [List.length_map]
  refine Subscript_ (SubL 1 H hx hb (k := k) (j := k) (p := .ref t.a) (by show nm ks lm z = _; exact hz) (seqI (by rw [hzr]; exact hlt)) (by unfold prR; rw [List.getElem?_map, hk]; rfl) (fun v s₁ hv H₁ => ?_) (by rw [hzr]; omega))
  obtain ⟨_, rfl⟩ := hv
  refine ev_ok 1 H₁ (p := .int j) rfl fun v2 s₂ hv2 H₂ => ?_
  obtain ⟨u, rfl⟩ := hv2
  exact tail_t H₂ (a := t.a) ht hj hp (fun v hv => h v s₂ hv H₂) (show 2 ≤ 1000000 by decide)
theorem upto_at {n k : Nat} {p : PV} (h : (upto n)[k]? = some p) : k < n ∧ p = .int k := by
  unfold upto at h
  rw [List.getElem?_map] at h
  obtain ⟨j, hj, rfl⟩ := Option.map_eq_some_iff.mp h
  obtain ⟨hlt, rfl⟩ := List.getElem?_eq_some_iff.mp hj
  rw [List.length_range] at hlt
  rw [List.getElem_range]
  exact ⟨hlt, rfl⟩
noncomputable def k175 : Kinds := [("script", .local), ("row", .cell), ("letters", .local), ("written", .cell), ("text", .local), ("signs", .local), ("lexer", .local), ("numbers", .local), ("left", .local), ("due", .local), ("cuts", .local), ("known", .local), ("strips", .local), ("picture", .local),
  ("_law_drawn", .globalImplicit), ("_law_heaps", .globalImplicit), ("range", .globalImplicit), ("_netrclex", .globalImplicit), ("_law_feed", .globalImplicit), ("_law_packed", .globalImplicit), ("_law_cut", .globalImplicit), ("sum", .globalImplicit), ("_law_unpacked", .globalImplicit), ("_law_octets", .globalImplicit), ("_law_painted", .globalImplicit)]
theorem d175 : Def 175 ["script"] := ⟨fun P => by kernel_rfl, fun P => by kernel_rfl, by kernel_rfl, fun a => by kernel_rfl, by kernel_rfl, by kernel_rfl, by kernel_rfl, by kernel_rfl⟩
/-- `written = [_law_written(..) for k in range(12)]` -/
theorem law_written {b : Addr} {ts : List Pr} {Q : Flow → Shared → Prop} (hA : Ok C.A 5) (hf : C.env.func.isSome = true) (H : St C k175 lm l s) (hx : lm.lookup (Str.ofString "row") = some (.ref b)) (hl : ts.length = 12) (hts : ∀ t ∈ ts, t.i < 48 ∧ t.m < 4) (hb : Has b (aList (prR ts)) l) (ht : ∀ t ∈ ts, Has t.a (aTup [.int t.i, .int t.m]) l)
    (h : ∀ a s', St C k175 (("written", .ref a) :: lm) ((a, aList ((wrsOf ts).map .str)) :: l) s' → C.B ((bodyOf 175).drop 3) Q s') : C.B ((bodyOf 175).drop 2) Q s := by
  refine seq_assign (list_compG [("k", .local), ("_law_written", .globalImplicit), ("_law_signs", .globalImplicit), ("row", .cell)] [("row", .ref b)] H.V hA.h (by kernel_rfl) ?_ rfl rfl (Call_ty 1 H (ps := [.int 12]) rfl rfl fun vs s₁ hvs H₁ => iter_range (n := 12) H₁ hvs (by decide) fun it s₂ H₂ => ⟨it, aRIter 12, l, upto 12, fun _ => True, fun k ys l' => l' = l ∧ ys = ((wrsOf ts).take k).map .str, rfl, walk_range it 12, H₂, ⟨rfl, rfl⟩, ?_, by decide, ?_, ?_⟩)) (swaps_cell H.V rfl)
  · intro x p hx'
    obtain ⟨rfl, rfl⟩ := one_lookup hx'
    exact ⟨hx, rfl⟩
  · rintro k ys l' ⟨-, rfl⟩
    exact ⟨trivial, by rw [List.length_map, List.length_take]; omega⟩
  · rintro C₂ acc k p ys l' s₃ hA₂ hp ⟨rfl, rfl⟩ H₃
    obtain ⟨hk, rfl⟩ := upto_at hp
    obtain ⟨hkt, hi, hm⟩ := pr_at hl hts hk
    generalize htk : ts.getD k pr0 = t at hkt hi hm
    have htm := ht t (List.mem_of_getElem? hkt)
    have hA2 : Ok C₂.A 5 := hA₂ ▸ hA
    have S := sign_ok hi
    refine tests_nil ?_
    rw [if_pos rfl]
    refine Call_ (Name_ok H₃ (p := .ref 127) rfl fun v hv => ?_)
    obtain ⟨_, rfl⟩ := hv
    refine callWith_K (h₀ := C₂.g) C₂.G.X (Bool.and_eq_true_iff.mp (d127.code _)).2 ?_ rfl rfl
    refine wpAny_items_cons (Call_fn1 d115 H₃ rfl (pair_ev (j := 0) (jn := 0) H₃ rfl rfl (.tail _ (.tail _ hb)) (by omega) hkt (.tail _ (.tail _ htm)) rfl rfl fun v1 s₄ hv1 H₄ => ⟨⟨_, _, H₄⟩, signs_ok H₄ (hA2.less (by decide)) (.cons hv1 .nil) (sign_at hi) fun v2 s₅ hv2 H₅ => ?_⟩)) rfl
    refine wpAny_items_cons (pair_ev (j := 1) (jn := 1) H₅ rfl rfl (.tail _ (.tail _ hb)) (by omega) hkt (.tail _ (.tail _ htm)) rfl rfl fun v3 s₆ hv3 H₆ => ?_) rfl
    refine wpAny_items_cons (blank_ev (k := k) H₆ rfl fun v4 s₇ hv4 H₇ => ?_) rfl
    refine wpAny_items_nil ⟨C₂.G.X.keeps H₇.keep, written_ok H₇ (hA2.less (by decide)) (.cons hv2 (.cons hv3 (.cons hv4 .nil))) S.ascii (by have := S.len; omega) (by rw [(blank_ok k).2.2.2.1]; decide) fun v5 s₈ hv5 H₈ => ⟨_, _, hv5, ⟨rfl, ?_⟩, H₈⟩⟩
    rw [List.take_add_one, wrs_at hk, List.map_append, htk]
    rfl
  · rintro a ys l' ⟨rfl, rfl⟩ s₃ H₃
    have e : ((wrsOf ts).take (upto 12).length).map PV.str = (wrsOf ts).map .str := by
      rw [show (upto 12).length = (wrsOf ts).length from (wrs_len ts).symm, List.take_length]
    rw [e] at H₃
    exact storeC H₃ rfl hf (.raw _) fun s₄ H₄ => h a s₄ H₄
end
end Mine
end
section
open PySem PySem.W PyProof.Rows PySem.Calls PySem.Flt PySem.SeqAt
set_option maxHeartbeats 2000000
namespace Mine
section
variable {C : Cx} {ks : Kinds} {lm : Vars} {l m : Led} {s : Shared}
noncomputable def txtOf (ts : List Pr) : Str := Str.join (Str.ofString "") (wrsOf ts)
theorem txt_chars (ts : List Pr) : chars (txtOf ts) = text (wsOf ts) := by
  have := text_of ts 0
  rw [List.drop_zero, List.drop_zero] at this
  exact this
theorem txt_len {ts : List Pr} (hl : ts.length = 12) (h : ∀ t ∈ ts, t.i < 48 ∧ t.m < 4) : (txtOf ts).length ≤ 1000 := by
  rw [← chars_len, txt_chars]
  exact (ws_ok hl h).2.1
theorem txt_ascii {ts : List Pr} (hl : ts.length = 12) (h : ∀ t ∈ ts, t.i < 48 ∧ t.m < 4) : (txtOf ts).cps.all (· < 128) = true := ascii_of fun p hp => ascii_text hl h p (txt_chars ts ▸ hp)
theorem rev_ascii {y : Str} (h : y.cps.all (· < 128) = true) : (revS y).cps.all (· < 128) = true := by
  rw [← Array.all_toList, List.all_eq_true] at h ⊢
  intro c hc
  exact h c (List.mem_reverse.mp hc)
/-- `text = ''.join(written)` -/
theorem law_text {wa : Addr} {ts : List Pr} {Q : Flow → Shared → Prop} (H : St C k175 lm l s) (hx : lm.lookup (Str.ofString "written") = some (.ref wa)) (hl : ts.length = 12) (hts : ∀ t ∈ ts, t.i < 48 ∧ t.m < 4) (hw : Has wa (aList ((wrsOf ts).map .str)) l)
    (h : ∀ s', St C k175 (("text", .str (txtOf ts)) :: lm) l s' → C.B ((bodyOf 175).drop 4) Q s') : C.B ((bodyOf 175).drop 3) Q s := by
  refine seq_assign (MethodCall_ (ev_ok 1 H (p := .str (Str.ofString "")) rfl fun v s₁ hv H₁ => ?_))
  obtain ⟨t, rfl⟩ := hv
  refine GM.join (callB (wpAny_items_cons (Name_ok H₁ (p := .ref wa) hx fun v hv => wpAny_items_nil ?_) rfl))
  obtain ⟨_, rfl⟩ := hv
  have := wrs_sum hl hts 0
  rw [List.drop_zero] at this
  exact join_ok H₁ hw (fun _ h => aList.ls h) (by omega) fun v s₂ hv H₂ => storeL H₂ rfl hv h
/-- `signs = [sign for sign in text[::-1]]` -/
theorem law_signs {y : Str} {Q : Flow → Shared → Prop} (hA : Ok C.A 3) (H : St C k175 lm l s) (hx : lm.lookup (Str.ofString "text") = some (.str y)) (hz : y.length ≤ 1000) (ha : y.cps.all (· < 128) = true)
    (h : ∀ a s', St C k175 (("signs", .ref a) :: lm) ((a, aList (chars y).reverse) :: l) s' → C.B ((bodyOf 175).drop 5) Q s') : C.B ((bodyOf 175).drop 4) Q s := by
  refine do_compG [("sign", .local)] [] H.V hA.h (by kernel_rfl) (fun _ _ h => nomatch h) rfl (by decide) (by kernel_rfl) rfl rfl (rev_ev H (x := "text") hx (by omega) fun v s₁ hv H₁ => iter_str H₁ hv (rev_ascii ha) fun it s₂ H₂ => ⟨it, aSIter (revS y), l, chars (revS y), fun _ => True, fun k ys l' => l' = l ∧ ys = (chars (revS y)).take k, rfl, walk_str it (revS y), H₂, ⟨rfl, rfl⟩, ?_, ?_, ?_, ?_⟩)
  · rintro k ys l' ⟨-, rfl⟩
    exact ⟨trivial, by rw [List.length_take]; omega⟩
  · rw [revS_chars, List.length_reverse, chars_len]; exact hz
  · rintro C₂ acc k p ys l' s₃ hA₂ hp ⟨rfl, rfl⟩ H₃
    refine tests_nil ?_
    rw [if_pos rfl]
    refine Name_ok H₃ (p := p) rfl fun v hv => ⟨p, _, hv, ⟨rfl, ?_⟩, H₃⟩
    rw [List.take_add_one, hp]
    rfl
  · rintro a ys l' ⟨rfl, rfl⟩ s₃ H₃
    rw [List.take_length, revS_chars] at H₃
    exact h a s₃ H₃
/-- a class's call, its argument walked by hand -/
theorem Call_cls1 {x : Str} {xp pos : Pos} {e : Expr} {Q : Value → Shared → Prop} (H : St C ks lm l s) (hx : nm ks lm x = some (.ref 97))
    (h : C.X (eval e C.env) (fun v s' => (∃ lm' l', St C ks lm' l' s') ∧ C.X (call (.ref 97) [v]) Q s') s) (he : starEach [e] C.env = [(false, eval e C.env)] := by rfl) : C.X (eval (.Call (.Name x xp) [e] [] pos) C.env) Q s := by
  refine Call_ (Name_ok H hx fun v hv => ?_)
  obtain ⟨_, rfl⟩ := hv
  refine callWith_K (h₀ := C.g) C.G.X (keep97 _) (wpAny_items_cons (wpAny_mono h (fun v s' hq => wpAny_items_nil ?_) fun _ _ z => z) he) he rfl
  obtain ⟨⟨lm', l', H'⟩, hq⟩ := hq
  exact ⟨C.G.X.keeps H'.keep, hq⟩
theorem set_last {X : Led} {e e' : Addr × AO} : (X ++ [e]).set X.length e' = X ++ [e'] := by
  rw [List.set_append_right _ _ (Nat.le_refl _), Nat.sub_self]
  rfl
/-- the objects of the lexer in the order of its ledger -/
theorem lex_perm {α : Type} {p' x' d' c fn cr p x d : α} {sg : α} {r1 r2 : List α} : (p' :: x' :: d' :: c :: fn :: cr :: p :: x :: d :: (r1 ++ sg :: r2)).Perm (c :: d' :: p' :: sg :: x' :: x :: d :: fn :: cr :: (p :: (r1 ++ r2))) := by
  have h1 : (p' :: x' :: d' :: c :: fn :: cr :: p :: x :: d :: (r1 ++ sg :: r2)).Perm (p' :: x' :: d' :: c :: fn :: cr :: p :: x :: d :: sg :: (r1 ++ r2)) :=
    List.Perm.append_left [p', x', d', c, fn, cr, p, x, d] List.perm_middle
  refine h1.trans ?_
  have hi : ([0, 1, 2, 3, 4, 5, 6, 7, 8, 9] : List Nat).Perm [3, 2, 0, 9, 1, 7, 8, 4, 5, 6] := by decide
  have h2 := hi.map fun i => [p', x', d', c, fn, cr, p, x, d, sg].getD i p'
  have h3 : [p', x', d', c, fn, cr, p, x, d, sg].Perm [c, d', p', sg, x', x, d, fn, cr, p] := h2
  exact h3.append_right (r1 ++ r2)
/-- `lexer = _netrclex(_law_feed(signs))` -/
theorem law_lexer {sg : Addr} {cs : List PV} {X : Led} {Q : Flow → Shared → Prop} (hA : Ok C.A 5) (H : St C k175 lm (X ++ [(129, aTab #[])]) s) (hx : lm.lookup (Str.ofString "signs") = some (.ref sg)) (hsg : Has sg (aList cs.reverse) X)
    (h : ∀ a ps Y s', a.sg = sg → Sub (X.filter fun e => e.1 ≠ sg) Y → Has 129 (aTab ps) Y → St C k175 (("lexer", .ref a.x) :: lm) (lexL a 1 [] cs Y) s' → C.B ((bodyOf 175).drop 6) Q s') : C.B ((bodyOf 175).drop 5) Q s := by
  refine seq_assign (Call_cls1 H rfl (Call_fn (ps := [.ref sg]) 1 d134 H rfl (by show (nm k175 lm _).bind _ = _; rw [show nm k175 lm (Str.ofString "signs") = some (.ref sg) from hx]; rfl) fun vs s₁ hvs H₁ => feed_ok (i := X.length) H₁ (hA.less (by decide)) hvs (by rw [List.getElem?_append_right (Nat.le_refl _), Nat.sub_self]; rfl) fun x dx pb fn cr c ps s₂ H₂ => ⟨⟨_, _, H₂⟩, ?_⟩))
  rw [set_last] at H₂
  refine lex_make H₂ (hA.less (by decide)) (p := .ref x) (.raw _) fun x' dx' pb' s₃ H₃ => storeL H₃ rfl (.raw _) fun s₄ H₄ => ?_
  obtain ⟨r1, r2, e⟩ := List.append_of_mem hsg
  have eX : X ++ [(129, aTab ps)] = r1 ++ (sg, aList cs.reverse) :: (r2 ++ [(129, aTab ps)]) := by rw [e, List.append_assoc]; rfl
  rw [eX] at H₄
  refine h ⟨x', dx', pb', x, dx, fn, cr, c, sg, pb⟩ ps ((pb, aList []) :: (r1 ++ (r2 ++ [(129, aTab ps)]))) s₄ rfl (fun q hq => ?_) (.tail _ (List.mem_append_right _ (List.mem_append_right _ (.head _)))) (H₄.perm lex_perm)
  obtain ⟨hq, hne⟩ := List.mem_filter.mp hq
  rw [e] at hq
  rcases List.mem_append.mp hq with hq | hq
  · exact .tail _ (List.mem_append_left _ hq)
  · rcases List.mem_cons.mp hq with rfl | hq
    · exact absurd rfl (of_decide_eq_true hne)
    · exact .tail _ (List.mem_append_right _ (List.mem_append_left _ hq))
end
end Mine
end
section
open PySem PySem.W PyProof.Rows PySem.Calls PySem.Flt PySem.SeqAt
set_option maxHeartbeats 2000000
namespace Mine
section
variable {C : Cx} {ks : Kinds} {lm : Vars} {l m Y : Led} {s : Shared} {rs : List Stmt} {Q : Flow → Shared → Prop}
theorem do_unpack2 {x1 x2 : Str} {p1 p2 tp pos : Pos} {kk : Nat} {e : Expr} (hh : C.A.handled = none) (h1 : ks.lookup x1 = some .local) (h2 : ks.lookup x2 = some .local)
    (h : C.X (eval e C.env) (fun v s' => ∃ t a b lm' l', v = .ref t ∧ St C ks lm' l' s' ∧ Has t (aTup [a, b]) l' ∧ ∀ s'', St C ks ((x2, b) :: (x1, a) :: lm') l' s'' → C.B rs Q s'') s)
    (hs : swapsWithSole [.Tuple [.Name x1 p1, .Name x2 p2] kk tp] e pos.line C.env = pure false := by rfl)
    (hw : swappedStores [.Tuple [.Name x1 p1, .Name x2 p2] kk tp] e C.env = pure none := by rfl) : C.B (.Assign [.Tuple [.Name x1 p1, .Name x2 p2] kk tp] e pos :: rs) Q s := by
  refine wpAny_execs_cons (Assign_Tuple (wpAny_mono h (fun v s' hq => ?_) fun _ _ z => z) hs hw)
  obtain ⟨t, a, b, lm', l', rfl, H, ht, k⟩ := hq
  exact assign2 H hh ht h1 h2 k
theorem do_unpack3 {x1 x2 x3 : Str} {p1 p2 p3 tp pos : Pos} {kk : Nat} {e : Expr} (hh : C.A.handled = none) (h1 : ks.lookup x1 = some .local) (h2 : ks.lookup x2 = some .local) (h3 : ks.lookup x3 = some .local)
    (h : C.X (eval e C.env) (fun v s' => ∃ t a b c lm' l', v = .ref t ∧ St C ks lm' l' s' ∧ Has t (aTup [a, b, c]) l' ∧ ∀ s'', St C ks ((x3, c) :: (x2, b) :: (x1, a) :: lm') l' s'' → C.B rs Q s'') s)
    (hs : swapsWithSole [.Tuple [.Name x1 p1, .Name x2 p2, .Name x3 p3] kk tp] e pos.line C.env = pure false := by rfl)
    (hw : swappedStores [.Tuple [.Name x1 p1, .Name x2 p2, .Name x3 p3] kk tp] e C.env = pure none := by rfl) : C.B (.Assign [.Tuple [.Name x1 p1, .Name x2 p2, .Name x3 p3] kk tp] e pos :: rs) Q s := by
  refine wpAny_execs_cons (Assign_Tuple (wpAny_mono h (fun v s' hq => ?_) fun _ _ z => z) hs hw)
  obtain ⟨t, a, b, c, lm', l', rfl, H, ht, k⟩ := hq
  exact assign3 H hh ht h1 h2 h3 k
/-- `numbers, left = _law_packed(lexer, signs)` -/
theorem law_packed {a : LexA} {ws : List Wd} {num : Nat → Nat} (hA : Ok C.A 6) (H : St C k175 lm (lexL a 1 [] (text ws) Y) s) (e1 : lm.lookup (Str.ofString "lexer") = some (.ref a.x)) (e2 : lm.lookup (Str.ofString "signs") = some (.ref a.sg)) (hok : ∀ d ∈ ws, d.Ok) (hl : (text ws).length ≤ 1000) (hlen : ws.length ≤ 100) (hne : 0 < ws.length) (hW : ∀ c, c < ws.length → ∃ i, i < 48 ∧ wrd ws c = sign i ∧ num c = i + 7 ∧ wrd ws c ≠ Str.ofString "")
    (h : ∀ N F ns cs ps l' s', Sub Y l' → Packed (wrd ws) num ns cs ps ws.length → Has N (aNat ns) l' → Has F (aList (lefts ws cs)) l' → Has a.x (aInst 97 a.dx) l' → Has a.dx (aNs (lexQ a (1 + lines ws))) l' → St C k175 (("left", .ref F) :: ("numbers", .ref N) :: lm) l' s' → C.B ((bodyOf 175).drop 7) Q s') : C.B ((bodyOf 175).drop 6) Q s := by
  refine do_unpack2 hA.h rfl rfl (Call_fn (ps := [.ref a.x, .ref a.sg]) 1 d141 H rfl ?_ fun vs s₁ hvs H₁ => packed_ok H₁ hA hvs hok hl hlen hne hW fun t N F ns cs ps pool s₂ hs hP H₂ => ⟨t, .ref N, .ref F, _, _, rfl, H₂, .head _, fun s₃ H₃ => ?_⟩)
  · show (nm k175 lm (Str.ofString "lexer")).bind (fun p => ((nm k175 lm (Str.ofString "signs")).bind fun q => some [q]).bind fun ps => some (p :: ps)) = _
    rw [show nm k175 lm (Str.ofString "lexer") = _ from e1, show nm k175 lm (Str.ofString "signs") = _ from e2]
    rfl
  · exact h N F ns cs ps _ s₃ (fun _ he => .tail _ (inLex (.tail _ (.tail _ (hs.subset he))))) hP (.tail _ (inLex (.head _))) (.tail _ (inLex (.tail _ (.head _)))) (.tail _ (.tail _ (.tail _ (.tail _ (.tail _ (.head _)))))) (.tail _ (.tail _ (.head _))) H₃
/-- `due, cuts, known = _law_cut(letters)` -/
theorem law_cut {La : Addr} {L : List Nat} (hA : Ok C.A 4) (H : St C k175 lm l s) (e1 : lm.lookup (Str.ofString "letters") = some (.ref La)) (hLa : Has La (aNat L) l) (hLl : L.length ≤ 100)
    (h : ∀ D U K k kn l' s', Sub l l' → (cIter L k).c = L.length → kn.map (·.2) = (cIter L k).kn → (∀ q ∈ kn, Has q.1 (aNat q.2) l') → Has D (aNat (cIter L k).ns) l' → Has U (aNat (cIter L k).cs) l' → Has K (aList (rwR kn)) l' → St C k175 (("known", .ref K) :: ("cuts", .ref U) :: ("due", .ref D) :: lm) l' s' → C.B ((bodyOf 175).drop 8) Q s') : C.B ((bodyOf 175).drop 7) Q s := by
  refine do_unpack3 hA.h rfl rfl rfl (Call_fn (ps := [.ref La]) 1 d146 H rfl ?_ fun vs s₁ hvs H₁ => cut_ok H₁ hA hvs hLa hLl fun t N U K k kn m s₂ hs hc hk hq H₂ => ⟨t, .ref N, .ref U, .ref K, _, _, rfl, H₂, .head _, fun s₃ H₃ => ?_⟩)
  · show (nm k175 lm (Str.ofString "letters")).bind (fun p => some [p]) = _
    rw [show nm k175 lm (Str.ofString "letters") = _ from e1]
    rfl
  · exact h N U K k kn _ s₃ (fun _ he => .tail _ (.tail _ (.tail _ (.tail _ (hs.subset he))))) hc hk (fun q hq' => .tail _ (.tail _ (.tail _ (.tail _ (hq q hq'))))) (.tail _ (.head _)) (.tail _ (.tail _ (.head _))) (.tail _ (.tail _ (.tail _ (.head _)))) H₃
theorem pick_drop (ps : List PV) (a : Nat) : pickP ps (some a) none = ps.drop a := by
  rcases Nat.le_total a ps.length with h | h
  · exact pick_from ps a h
  · unfold pickP
    have e : sliceBounds (some (a : Int)) none none ps.length = ((ps.length : Int), ((ps.length : Nat) : Int), 1) := by
      simp only [sliceBounds, Option.getD_none]
      have h1 : ¬ ((a : Int) < 0) := by omega
      simp only [h1, if_false, show (1 : Int) > 0 by decide, if_true]
      congr 1
      omega
    rw [e]
    simp only [sliceRange_one]
    have := pick_run ps.toArray ps.length (ps.length - ps.length)
    simp only [List.getElem?_toArray] at this
    rw [this, List.drop_of_length_le h]
    simp
/-- `len(''.join(written[cut + 1:]))` -/
theorem left_ev {f x z : Str} {p1 p2 p3 p4 p5 p6 p7 p8 p9 p10 p11 : Pos} {k1 k2 : Nat} {wa : Addr} {ys : List Str} {c : Nat} {Q : Value → Shared → Prop} (H : St C ks lm l s) (hf : nm ks lm f = some (.raw (.builtin "len"))) (hx : nm ks lm x = some (.ref wa)) (hz : nm ks lm z = some (.int c)) (hw : Has wa (aList (ys.map .str)) l) (hyl : ys.length ≤ 100) (hsum : ((ys.drop (c + 1)).map (·.length)).sum ≤ 100)
    (h : ∀ v s', VS v (.int (Str.join (Str.ofString "") (ys.drop (c + 1))).length) → St C ks lm l s' → Q v s')
    (hm : eval (.Call (.Attribute (.Constant (.str "") k1 p2) "join" p3) [.Subscript (.Name x p4) (.Slice (some (.BinOp (.Name z p5) .Add (.Constant (.int 1) k2 p6) p7)) none none p8) p9] [] p10) C.env = (do
      let ov ← eval (.Constant (.str "") k1 p2) C.env
      standAt p3.atName
      let (f, first) ← holding [ov] (getMethod ov "join" (do return (← importBound (.Constant (.str "") k1 p2) C.env).getD true))
      callWith p10 f first (backTo p10 (starEach [.Subscript (.Name x p4) (.Slice (some (.BinOp (.Name z p5) .Add (.Constant (.int 1) k2 p6) p7)) none none p8) p9] C.env)) []) := by rfl)
    (hp : (backTo p11 (starEach [] C.env)).any (·.1) = false := by rfl) :
    C.X (eval (.Call (.Name f p1) [.Call (.Attribute (.Constant (.str "") k1 p2) "join" p3) [.Subscript (.Name x p4) (.Slice (some (.BinOp (.Name z p5) .Add (.Constant (.int 1) k2 p6) p7)) none none p8) p9] [] p10] [] p11) C.env) Q s := by
  refine Call_ (Name_ok H hf fun v hv => ?_)
  obtain ⟨_, rfl⟩ := hv
  refine PyProof.Rows.callWith_builtin1 (wpAny_items_cons (MethodCall_ (ev_ok 1 H (p := .str (Str.ofString "")) rfl fun v s₁ hv H₁ => ?_) hm) rfl) rfl hp
  obtain ⟨t, rfl⟩ := hv
  have ez : ((c : Int) + 1) = ((c + 1 : Nat) : Int) := by push_cast; rfl
  refine GM.join (callB (wpAny_items_cons (Slice_ev (lo := some ((c + 1 : Nat) : Int)) (hi := none) 2 H₁ hx hw (fun _ h => aList.ls h) (by rw [List.length_map]; omega) ?_ rfl fun b s₂ H₂ => wpAny_items_nil ?_) rfl) rfl)
  · show ((nm ks lm z).bind fun a => (some (PV.int 1)).bind fun b => bin .Add a b).bind _ = _
    rw [hz]
    show some (some ((c : Int) + 1)) = _
    rw [ez]
  · rw [pick_drop, ← List.map_drop] at H₂
    refine join_ok H₂ (a := b) (.head _) (fun _ h => aList.ls h) (by omega) fun v s₃ hv H₃ => wpAny_items_nil ?_
    obtain ⟨t2, rfl⟩ := hv
    have hlen : (Str.join (Str.ofString "") (ys.drop (c + 1))).length ≤ 100 := by
      refine Nat.le_trans (StrLaws.join_length_le _ _) ?_
      show _ + _ * 0 ≤ 100
      omega
    exact PyProof.Rows.len_str (by omega) (h _ _ (.mk (.int _) _) (H₃.drop1.toks _))
end
end Mine
end
section
open PySem PySem.W PyProof.Rows PySem.Calls PySem.Flt PySem.SeqAt
set_option maxHeartbeats 2000000
namespace Mine
section
variable {C : Cx} {ks : Kinds} {lm : Vars} {l m Y : Led} {s : Shared} {rs : List Stmt} {Q : Flow → Shared → Prop}
theorem lefts_eq (ws : List Wd) (cs : List Nat) : lefts ws cs = (cs.map fun j => (((text (ws.drop (j + 1))).length : Nat) : Int)).map .int := by unfold lefts; rw [List.map_map]; rfl
theorem lefts_ls {ws : List Wd} {cs : List Nat} {o : Obj} (h : aList (lefts ws cs) o) : aLs ((cs.map fun j => (((text (ws.drop (j + 1))).length : Nat) : Int)).map .int) o := by rw [← lefts_eq]; exact aList.ls h
/-- the first question: the numbers, what is left -/
theorem law_if1 {N D F U wa : Addr} {ns cs : List Nat} {ws : List Wd} {ys : List Str} (hA : Ok C.A 4) (H : St C k175 lm l s) (e1 : lm.lookup (Str.ofString "numbers") = some (.ref N)) (e2 : lm.lookup (Str.ofString "due") = some (.ref D)) (e3 : lm.lookup (Str.ofString "left") = some (.ref F)) (e4 : lm.lookup (Str.ofString "cuts") = some (.ref U)) (e5 : lm.lookup (Str.ofString "written") = some (.ref wa))
    (hN : Has N (aNat ns) l) (hD : Has D (aNat ns) l) (hF : Has F (aList (lefts ws cs)) l) (hU : Has U (aNat cs) l) (hw : Has wa (aList (ys.map .str)) l) (hcs : cs.length ≤ 100) (hyl : ys.length ≤ 100) (hsum : ∀ p, ((ys.drop p).map (·.length)).sum ≤ 100) (hch : ∀ p, chars (Str.join (Str.ofString "") (ys.drop p)) = text (ws.drop p))
    (h : ∀ l' s', Sub l l' → St C k175 lm l' s' → C.B ((bodyOf 175).drop 9) Q s') : C.B ((bodyOf 175).drop 8) Q s := by
  have hu := (hA.less (k := 0) (by decide)).units
  refine seq_if (isTrue_or (wpAny_isTrue_Compare1 (Name_ok H e1 fun v hv => Name_ok H e2 fun v2 hv2 => ?_)))
  obtain ⟨_, rfl⟩ := hv
  obtain ⟨_, rfl⟩ := hv2
  refine ne_ints H hu hN (fun _ h => aNat.ls h) hD (fun _ h => aNat.ls h) (wpAny_truthy_bool ?_)
  rw [decide_eq_false (fun w => w rfl)]
  show C.X (isTrue _ C.env _) _ s
  refine isTrue_or (wpAny_isTrue_Compare1 (Name_ok H e3 fun v hv => ?_))
  obtain ⟨_, rfl⟩ := hv
  have hiz : (intsN cs).length = cs.length := by unfold intsN; rw [List.length_map]
  refine list_compG [("cut", .local), ("len", .globalImplicit), ("written", .cell)] [("written", .ref wa)] H.V hA.h (by kernel_rfl) ?_ rfl rfl (Name_ok H e4 fun v hv => iter_list H hv hU fun it s₁ H₁ => ⟨it, aLIter U, l, _, Has U (aNat cs), fun k ys' l' => l' = l ∧ ys' = lefts ws (cs.take k), rfl, walk_list it U (intsN cs), H₁, ⟨rfl, rfl⟩, ?_, ?_, ?_, ?_⟩)
  · intro x p hx'
    obtain ⟨rfl, rfl⟩ := one_lookup hx'
    exact ⟨e5, rfl⟩
  · rintro k ys' l' ⟨rfl, rfl⟩
    exact ⟨hU, by unfold lefts; rw [List.length_map, List.length_take]; omega⟩
  · rw [hiz]; omega
  · rintro C₂ acc k p ys' l' s₂ hA₂ hp ⟨rfl, rfl⟩ H₂
    unfold intsN at hp
    rw [List.getElem?_map] at hp
    obtain ⟨c, hc, rfl⟩ := Option.map_eq_some_iff.mp hp
    refine tests_nil ?_
    rw [if_pos rfl]
    refine left_ev H₂ rfl rfl rfl (.tail _ (.tail _ hw)) hyl (hsum _) fun v s₃ hv H₃ => ⟨_, _, hv, ⟨rfl, ?_⟩, H₃⟩
    rw [List.take_add_one, hc, ← chars_len, hch]
    unfold lefts
    rw [List.map_append]
    rfl
  · rintro a ys' l' ⟨rfl, rfl⟩ s₂ H₂
    rw [hiz, List.take_length] at H₂
    refine ne_ints H₂ hu (.tail _ hF) (fun _ h => lefts_ls h) (.head _) (fun _ h => lefts_ls h) (wpAny_truthy_bool ?_)
    rw [decide_eq_false (fun w => w rfl)]
    show C.X (isTrue _ C.env _) _ _
    exact isTrue_or_nil ⟨fun e => (nomatch e), fun _ => then_next (h _ _ (fun _ he => .tail _ he) H₂)⟩
/-- the second question: the lines -/
theorem law_if2 {a : LexA} {ws : List Wd} {y : Str} (hA : Ok C.A 4) (H : St C k175 lm l s) (e1 : lm.lookup (Str.ofString "lexer") = some (.ref a.x)) (e2 : lm.lookup (Str.ofString "text") = some (.str y)) (hi : Has a.x (aInst 97 a.dx) l) (hd : Has a.dx (aNs (lexQ a (1 + lines ws))) l) (hy : chars y = text ws) (hok : ∀ d ∈ ws, d.Ok) (hz : y.length ≤ 1000) (ha : y.cps.all (· < 128) = true)
    (h : ∀ l' s', Sub l l' → St C k175 lm l' s' → C.B ((bodyOf 175).drop 10) Q s') : C.B ((bodyOf 175).drop 9) Q s := by
  obtain ⟨i, hi⟩ := List.getElem?_of_mem hi
  obtain ⟨j, hj⟩ := List.getElem?_of_mem hd
  refine seq_if (wpAny_isTrue_Compare1 (Attr_ev (i := i) (j := j) H e1 hi hj (p := .int (1 + lines ws)) rfl (fun P => own P (by decide)) (fun _ => rfl) fun v s₁ hv H₁ => ?_))
  refine wpAny_BinOp (ev_ok 1 H₁ (p := .int 1) rfl fun v1 s₂ hv1 H₂ => Call_ (Name_ok H₂ (p := .raw (.builtin "sum")) rfl fun v2 hv2 => ?_))
  obtain ⟨_, rfl⟩ := hv2
  refine PyProof.Rows.callWith_builtin1 (wpAny_items_cons ?_ rfl) rfl rfl
  refine list_compG [("sign", .local)] [] H₂.V hA.h (by kernel_rfl) (fun _ _ h => nomatch h) rfl rfl (Name_ok H₂ e2 fun v3 hv3 => iter_str H₂ hv3 ha fun it s₃ H₃ => ⟨it, aSIter y, l, chars y, fun _ => True, fun k ys l' => l' = l ∧ ys = List.replicate (((chars y).take k).countP isNl) (PV.int 1), rfl, walk_str it y, H₃, ⟨rfl, rfl⟩, ?_, ?_, ?_, ?_⟩)
  · rintro k ys l' ⟨-, rfl⟩
    refine ⟨trivial, ?_⟩
    rw [List.length_replicate]
    refine Nat.le_trans List.countP_le_length ?_
    rw [List.length_take]; omega
  · rw [chars_len]; exact hz
  · rintro C₂ acc k p ys l' s₄ hA₂ hp ⟨rfl, rfl⟩ H₄
    obtain ⟨z, hz', rfl⟩ : ∃ z, z ∈ sgn y ∧ p = .str z := by
      have hm := List.mem_of_getElem? hp
      rw [chars_sgn] at hm
      obtain ⟨z, h1, rfl⟩ := List.mem_map.mp hm
      exact ⟨z, h1, rfl⟩
    have et : ((chars y).take (k + 1)).countP isNl = ((chars y).take k).countP isNl + (if z = nlc then 1 else 0) := by
      rw [List.take_add_one, hp, List.countP_append]
      show _ + List.countP isNl [PV.str z] = _
      rw [List.countP_singleton]
      show _ + (if decide (z = nlc) = true then 1 else 0) = _
      by_cases e : z = nlc
      · rw [if_pos (decide_eq_true e), if_pos e]
      · rw [if_neg (by simp [e]), if_neg e]
    refine tests_one (test_ok 2 H₄ (p := .bool (decide (z = nlc))) (b := decide (z = nlc)) rfl rfl fun s₅ H₅ => ?_)
    by_cases e : z = nlc
    · rw [if_pos (decide_eq_true e)]
      refine ev_ok 1 H₅ (p := .int 1) rfl fun v4 s₆ hv4 H₆ => ⟨_, _, hv4, ⟨rfl, ?_⟩, H₆⟩
      rw [et, if_pos e, List.replicate_succ']
    · rw [if_neg (by simp [e])]
      exact ⟨⟨rfl, by rw [et, if_neg e, Nat.add_zero]⟩, H₅⟩
  · rintro a2 ys l' ⟨rfl, rfl⟩ s₄ H₄
    rw [List.take_length] at H₄
    have hn : ((chars y).countP isNl : Nat) ≤ 1000 := Nat.le_trans List.countP_le_length (by rw [chars_len]; exact hz)
    have er : List.replicate ((chars y).countP isNl) (PV.int 1) = (List.replicate ((chars y).countP isNl) (1 : Int)).map .int := by rw [List.map_replicate]
    rw [er] at H₄
    refine wpAny_items_nil (sum_ones H₄ hA.h (.cons (.raw _) .nil) (.head _) (fun _ h => aList.ls h) (by omega) fun v4 s₅ hv4 H₅ => ?_)
    rw [hy, nl_text hok] at hv4
    obtain ⟨t, rfl⟩ := hv
    obtain ⟨t1, rfl⟩ := hv1
    obtain ⟨t4, rfl⟩ := hv4
    refine (bin_ok (op := .Add) (a := .int 1) (b := .int (lines ws)) (c := .int (1 + lines ws)) rfl).ok _ _ _ _ _ _ _ _ H₅.tk fun t5 tk5 q5 => ?_
    refine (cmp_ok (op := .NotEq) (a := .int (1 + lines ws)) (b := .int (1 + lines ws)) (c := decide ((1 + lines ws) ≠ (1 + lines ws))) rfl).ok _ _ _ _ _ _ _ _ (wpAny_truthy_bool ?_)
    rw [decide_eq_false (fun w => w rfl)]
    exact ⟨fun e => (nomatch e), fun _ => then_next (h _ _ (fun _ he => .tail _ he) (H₅.toks tk5 q5))⟩
/-- `strips, picture = _law_unpacked(_law_octets(numbers))` -/
theorem law_unp {N : Addr} {ns : List Nat} (hA : Ok C.A 6) (H : St C k175 lm l s) (e1 : lm.lookup (Str.ofString "numbers") = some (.ref N)) (hN : Has N (aNat ns) l) (hn : Nums ns)
    (h : ∀ S P rows (pic : List (Addr × Int)) l' s', Sub l l' → rows.map rowI = (uAll ns).strips → pic.map (·.2) = (uAll ns).picture → (∀ r ∈ rows, RowIn l' r.1 r.2) → (∀ c ∈ pic, CR l' c) → Has S (aList (rowR rows)) l' → Has P (aList (colR pic)) l' → St C k175 (("picture", .ref P) :: ("strips", .ref S) :: lm) l' s' → C.B ((bodyOf 175).drop 11) Q s') : C.B ((bodyOf 175).drop 10) Q s := by
  refine do_unpack2 hA.h rfl rfl (Call_fn1 d165 H rfl (Call_fn (ps := [.ref N]) 1 d153 H rfl ?_ fun vs s₁ hvs H₁ => octets_ok H₁ (hA.less (by decide)) hvs hN (by have := hn.len; omega) fun oa s₂ H₂ => ⟨⟨_, _, H₂⟩, unpacked_ok H₂ hA (.cons (.raw _) .nil) (.head _) hn fun t S P rows pic m s₃ hs h1 h2 h3 h4 H₃ => ⟨t, .ref S, .ref P, _, _, rfl, H₃, .head _, fun s₄ H₄ => ?_⟩⟩))
  · show (nm k175 lm (Str.ofString "numbers")).bind (fun p => some [p]) = _
    rw [show nm k175 lm (Str.ofString "numbers") = _ from e1]
    rfl
  · have up : Sub m ((t, aTup [.ref S, .ref P]) :: (S, aList (rowR rows)) :: (P, aList (colR pic)) :: m) := fun _ he => .tail _ (.tail _ (.tail _ he))
    exact h S P rows pic _ s₄ (fun _ he => up _ (hs.subset (.tail _ he))) h1 h2 (fun r hr => (h3 r hr).mono up) (fun c hc => (h4 c hc).mono up) (.tail _ (.head _)) (.tail _ (.tail _ (.head _))) H₄
end
end Mine
end
section
open PySem PySem.W PyProof.Rows PySem.Calls PySem.Flt PySem.SeqAt
set_option maxHeartbeats 2000000
namespace Mine
theorem self_eq : ((List.range 33).all fun j => Float64.cmp (quot (j : Int) 32) (quot (j : Int) 32) == some .eq) = true := by decide +kernel
theorem chan_self (t c : Int) : (Float64.cmp (chan t c) (chan t c) == some .eq) = true := by
  obtain ⟨j, hj, e⟩ := lev_in t c
  unfold chan
  rw [e]
  exact List.all_eq_true.mp self_eq j (List.mem_range.mpr hj)
theorem rows_mem {L : List Nat} (k : Nat) : ∀ r ∈ (cIter L k).kn, ∀ n ∈ r, n ∈ L := by
  induction k with
  | zero => exact fun r hr => (nomatch hr)
  | succ k ih =>
    show ∀ r ∈ (cStep L (cIter L k)).kn, _
    generalize cIter L k = s at *
    unfold cStep
    by_cases h : s.c < L.length
    · rw [if_pos h]
      intro r hr n hn
      have hr : r ∈ (if s.c + sizeC L s.kn s.c < L.length then s.kn ++ [subL L s.c (sizeC L s.kn s.c + 1)] else s.kn) := hr
      split at hr
      · rcases List.mem_append.mp hr with hr | hr
        · exact ih r hr n hn
        · rw [List.mem_singleton.mp hr] at hn
          exact List.mem_of_mem_drop (List.mem_of_mem_take hn)
      · exact ih r hr n hn
    · rw [if_neg h]; exact ih
theorem intz_bound {r : List Nat} (h : ∀ n ∈ r, n < 100) (hl : r.length ≤ 100) (k : Nat) : (((intz r).take k).sum).natAbs ≤ 1000000 := by
  have key : ∀ (l : List Nat), (∀ n ∈ l, n < 100) → 0 ≤ (intz l).sum ∧ (intz l).sum ≤ 100 * l.length := fun l hl => by
    induction l with
    | nil => exact ⟨Int.le_refl _, Int.le_refl _⟩
    | cons n r ih =>
      obtain ⟨h1, h2⟩ := ih fun m hm => hl m (.tail _ hm)
      have h3 := hl n (.head _)
      unfold intz at h1 h2 ⊢
      rw [List.map_cons, List.sum_cons, List.length_cons]
      constructor
      · omega
      · push_cast; omega
  have e : (intz r).take k = intz (r.take k) := by unfold intz; rw [List.map_take]
  rw [e]
  obtain ⟨h1, h2⟩ := key (r.take k) fun n hn => h n (List.mem_of_mem_take hn)
  have : (r.take k).length ≤ 100 := by rw [List.length_take]; omega
  omega
theorem all_true (n : Nat) : (List.range n).all (fun _ => true) = true := by rw [List.all_eq_true]; exact fun _ _ => rfl
section
variable {C : Cx} {ks : Kinds} {lm : Vars} {l m Y : Led} {s : Shared} {rs : List Stmt} {A : Around}
theorem St.nobook (H : St C ks lm l s) : NoneBooked s.heap := by
  obtain ⟨p, lo, me, mg, mb, T⟩ := C.G.T
  obtain ⟨mc, hn, -⟩ := T.nodigits
  exact ⟨mc, hn.keeps H.keep, ns_none_of C.G.X hn (by kernel_rfl)⟩
theorem isSame_flt {x : UInt64} {t u : Tok} {M : Model} {E : Value → Shared → Prop} {Q : Bool → Shared → Prop} (ht : 0 < t) (hu : 0 < u) (hb : NoneBooked s.heap) (hq : ∀ b, Q b s) : wpAny M A (isSame (.float x t) (.float x u)) Q E s := by
  have h0 : (t == 0 || u == 0) = false := by
    rw [beq_eq_false_iff_ne.mpr (Nat.ne_of_gt ht), beq_eq_false_iff_ne.mpr (Nat.ne_of_gt hu)]; rfl
  show wpAny M A (isSame.created (x == x && !Float64.isNaN x) t u) Q E s
  unfold isSame.created
  refine wpAny_ite ?_
  split
  · rename_i h; rw [h0] at h; exact absurd h Bool.false_ne_true
  refine wpAny_ite ?_
  split
  · exact wpAny_pure (hq _)
  refine wpAny_ite ?_
  split
  · exact wpAny_pure (hq _)
  refine wpAny_bind (wpAny_sharingNotTold_none hb ?_)
  rw [if_neg Bool.false_ne_true]
  refine wpAny_bind (wpAny_sharingNotTold_none hb ?_)
  rw [if_neg Bool.false_ne_true]
  exact wpAny_bind (wpAny_rule (wpAny_bind (wpAny_askSetting (wpAny_pure (hq _)))))
theorem eqAt_flt {x : UInt64} {v w : Value} (hb : NoneBooked s.heap) (hx : (Float64.cmp x x == some .eq) = true) (h : VS v (.flt x)) (k : VS w (.flt x)) : EqAt A s v w true := fun prog w' E Q hq => by
  obtain ⟨t, ht, rfl⟩ := VS.unflt h
  obtain ⟨u, hu, rfl⟩ := VS.unflt k
  unfold eqBool
  refine wpAny_holding ?_
  refine wpAny_ite_split (fun _ => wpAny_bind (wpAny_rule (wpAny_pure hq))) (fun _ => ?_)
  refine wpAny_bind (isSame_flt ht hu hb fun b => ?_)
  cases b with
  | true => exact wpAny_pure hq
  | false =>
    rw [if_neg Bool.false_ne_true]
    refine wpAny_bind ?_
    exact AutoFloatOps.eq_0 (prog := prog) (w := w') (A := A) (s := s) (E := E) (a := x) (b := x) (t := t) (u := u) (by rw [hx]; exact wpAny_truthy_bool hq)
theorem tup_at (H : St C ks lm l s) {a : Addr} {ps : List PV} (h : Has a (aTup ps) l) : ∃ vs, s.heap.IsTuple a vs ∧ VSs vs.toList ps := by
  obtain ⟨_, ho, vs, n, rfl, r⟩ := H.mem h
  exact ⟨vs, ⟨_, ho, rfl, n, rfl⟩, r⟩
theorem eqAt_col (H : St C ks lm l s) (hu : A.units < cLine) {c d : Addr × Int} (hc : CR l c) (hd : CR l d) (e : c.2 = d.2) : EqAt A s (.ref c.1) (.ref d.1) true := by
  by_cases hq : c.1 = d.1
  · rw [hq]; exact .same _
  refine .of_refs hq ?_
  obtain ⟨vs, h1, r1⟩ := tup_at H hc
  obtain ⟨us, h2, r2⟩ := tup_at H hd
  rw [← e] at r2
  cases vs with
  | mk vs =>
  cases us with
  | mk us =>
  cases r1 with
  | cons a1 r1 =>
  cases r1 with
  | cons a2 r1 =>
  cases r1 with
  | cons a3 r1 =>
  cases r1
  cases r2 with
  | cons b1 r2 =>
  cases r2 with
  | cons b2 r2 =>
  cases r2 with
  | cons b3 r2 =>
  cases r2
  have := RcAt.tuples (A := A) (e := fun _ => true) h1 h2 hu fun j h1 h2 => by
    match j, h1, h2 with
    | 0, _, _ => exact eqAt_flt H.nobook (chan_self _ _) a1 b1
    | 1, _, _ => exact eqAt_flt H.nobook (chan_self _ _) a2 b2
    | 2, _, _ => exact eqAt_flt H.nobook (chan_self _ _) a3 b3
    | j + 3, h1, _ => exact absurd h1 (by simp)
  rw [all_true] at this
  exact this
theorem refs_at {vs : Array Value} {cs : List (Addr × Int)} (r : VSs vs.toList (colR cs)) {j : Nat} (h : j < vs.size) : ∃ c, cs[j]? = some c ∧ vs[j] = .ref c.1 := by
  have hz : vs.size = cs.length := by have := r.length; unfold colR at this; rw [List.length_map] at this; exact this
  obtain ⟨v, hv, t, q⟩ := Paired.get r (i := j) (b := .ref (cs[j]'(hz ▸ h)).1) (by unfold colR; rw [List.getElem?_map, List.getElem?_eq_getElem (hz ▸ h)]; rfl)
  rw [Array.getElem?_toList, Array.getElem?_eq_getElem h] at hv
  exact ⟨_, List.getElem?_eq_getElem (hz ▸ h), (Option.some.inj hv).trans q⟩
theorem rc_row (H : St C ks lm l s) (hu : A.units < cLine) (hu2 : A.in1.units < cLine) {a b : Addr} {cs ds : List (Addr × Int)} (ha : RowIn l a cs) (hb : RowIn l b ds) (e : cs.map (·.2) = ds.map (·.2)) : RcAt A s (.ref a) (.ref b) true := by
  obtain ⟨vs, h1, r1⟩ := H.isLs ha.has (fun _ h => aList.ls h)
  obtain ⟨us, h2, r2⟩ := H.isLs hb.has (fun _ h => aList.ls h)
  have l1 : vs.size = cs.length := by have := r1.length; unfold colR at this; rw [List.length_map] at this; exact this
  have l2 : us.size = ds.length := by have := r2.length; unfold colR at this; rw [List.length_map] at this; exact this
  have hl : cs.length = ds.length := by have := congrArg List.length e; rw [List.length_map, List.length_map] at this; exact this
  have := RcAt.lists (A := A) (e := fun _ => true) h1 h2 (by omega) hu fun j g1 g2 => by
    obtain ⟨c, hc, ec⟩ := refs_at r1 g1
    obtain ⟨d, hd, ed⟩ := refs_at r2 g2
    rw [ec, ed]
    refine eqAt_col H hu2 (ha.col c (List.mem_of_getElem? hc)) (hb.col d (List.mem_of_getElem? hd)) ?_
    have := congrArg (fun x => x[j]?) e
    simp only [List.getElem?_map, hc, hd, Option.map_some, Option.some.injEq] at this
    exact this
  rw [all_true] at this
  exact this
theorem eqAt_row (H : St C ks lm l s) (hu : A.units < cLine) (hu2 : A.in1.units < cLine) {a b : Addr} {cs ds : List (Addr × Int)} (ha : RowIn l a cs) (hb : RowIn l b ds) (e : cs.map (·.2) = ds.map (·.2)) : EqAt A s (.ref a) (.ref b) true := by
  by_cases hq : a = b
  · rw [hq]; exact .same _
  · exact .of_refs hq (rc_row H hu hu2 ha hb e)
theorem rows_at {vs : Array Value} {rows : List Strip} (r : VSs vs.toList (rowR rows)) {j : Nat} (h : j < vs.size) : ∃ c, rows[j]? = some c ∧ vs[j] = .ref c.1 := by
  have hz : vs.size = rows.length := by have := r.length; unfold rowR at this; rw [List.length_map] at this; exact this
  obtain ⟨v, hv, t, q⟩ := Paired.get r (i := j) (b := .ref (rows[j]'(hz ▸ h)).1) (by unfold rowR; rw [List.getElem?_map, List.getElem?_eq_getElem (hz ▸ h)]; rfl)
  rw [Array.getElem?_toList, Array.getElem?_eq_getElem h] at hv
  exact ⟨_, List.getElem?_eq_getElem (hz ▸ h), (Option.some.inj hv).trans q⟩
theorem eq_strips {S T : Addr} {r1 r2 : List Strip} {Q : Value → Shared → Prop} (H : St C ks lm l s) (hA : Ok C.A 2) (hS : Has S (aList (rowR r1)) l) (hT : Has T (aList (rowR r2)) l) (h1 : ∀ r ∈ r1, RowIn l r.1 r.2) (h2 : ∀ r ∈ r2, RowIn l r.1 r.2) (e : r1.map rowI = r2.map rowI) (h : Q (.bool true) s) : C.X (compareOp .Eq (.ref S) (.ref T)) Q s := by
  obtain ⟨vs, g1, q1⟩ := H.isLs hS (fun _ h => aList.ls h)
  obtain ⟨us, g2, q2⟩ := H.isLs hT (fun _ h => aList.ls h)
  have l1 : vs.size = r1.length := by have := q1.length; unfold rowR at this; rw [List.length_map] at this; exact this
  have l2 : us.size = r2.length := by have := q2.length; unfold rowR at this; rw [List.length_map] at this; exact this
  have hl : r1.length = r2.length := by have := congrArg List.length e; rw [List.length_map, List.length_map] at this; exact this
  have a1 : Ok C.A.in1 1 := hA.in1 (n := 1)
  have a2 : Ok C.A.in1.in1 0 := a1.in1 (n := 0)
  have := RcAt.lists (A := C.A) (e := fun _ => true) g1 g2 (by omega) (hA.less (k := 0) (by decide)).units fun j j1 j2 => by
    obtain ⟨c, hc, ec⟩ := rows_at q1 j1
    obtain ⟨d, hd, ed⟩ := rows_at q2 j2
    rw [ec, ed]
    refine eqAt_row H (a1.less (k := 0) (by decide)).units a2.units (h1 c (List.mem_of_getElem? hc)) (h2 d (List.mem_of_getElem? hd)) ?_
    have := congrArg (fun x => x[j]?) e
    simp only [List.getElem?_map, hc, hd, Option.map_some, Option.some.injEq] at this
    exact this
  rw [all_true] at this
  exact this _ _ _ _ h
theorem eq_pic {a b : Addr} {cs ds : List (Addr × Int)} {Q : Value → Shared → Prop} (H : St C ks lm l s) (hA : Ok C.A 1) (ha : RowIn l a cs) (hb : RowIn l b ds) (e : cs.map (·.2) = ds.map (·.2)) (h : Q (.bool true) s) : C.X (compareOp .Eq (.ref a) (.ref b)) Q s :=
  rc_row H (hA.less (k := 0) (by decide)).units (hA.in1 (n := 0)).units ha hb e _ _ _ _ h
/-- `_law_painted(x)` -/
theorem paint_ev {f x : Str} {p1 p2 p3 : Pos} {a : Addr} {r : List Nat} {Q : Value → Shared → Prop} (H : St C ks lm l s) (hA : Ok C.A 3) (hf : nm ks lm f = some (.ref 170)) (hx : nm ks lm x = some (.ref a)) (ha : Has a (aNat r) l) (hr : ∀ n ∈ r, n < 100) (hl : r.length ≤ 100)
    (h : ∀ b (ts : List (Addr × Int)) s', ts.map (·.2) = psN r → RowIn ((b, aList (colR ts)) :: (colL ts ++ l)) b ts → St C ks lm ((b, aList (colR ts)) :: (colL ts ++ l)) s' → Q (.ref b) s')
    (hp : (backTo p3 (starEach [] C.env)).any (·.1) = false := by rfl) : C.X (eval (.Call (.Name f p1) [.Name x p2] [] p3) C.env) Q s := by
  refine Call_fn (ps := [.ref a]) 1 d170 H hf (by show (nm ks lm x).bind (fun p => some [p]) = _; rw [hx]; rfl) (fun vs s₁ hvs H₁ => ?_) hp
  refine painted_ok (ns := intz r) H₁ hA hvs (by rw [show (intz r).map PV.int = intsN r from (intsN_eq r).symm]; exact ha) (by unfold intz; rw [List.length_map]; exact hl) (intz_bound hr hl) fun b ts s₂ e H₂ => ?_
  refine h b ts s₂ e ⟨.head _, fun q hq => .tail _ (List.mem_append_left _ ?_)⟩ H₂
  unfold colL
  exact List.mem_map.mpr ⟨q, List.mem_reverse.mpr hq, rfl⟩
/-- the last row of the law -/
theorem law_end {S P K La : Addr} {rows : List Strip} {pic : List (Addr × Int)} {kn : List Rw} {L : List Nat} {Q : Flow → Shared → Prop} (hA : Ok C.A 4) (H : St C k175 lm l s) (e1 : lm.lookup (Str.ofString "strips") = some (.ref S)) (e2 : lm.lookup (Str.ofString "picture") = some (.ref P)) (e3 : lm.lookup (Str.ofString "known") = some (.ref K)) (e4 : lm.lookup (Str.ofString "letters") = some (.ref La))
    (hS : Has S (aList (rowR rows)) l) (hP : RowIn l P pic) (hK : Has K (aList (rwR kn)) l) (hLa : Has La (aNat L) l) (hr : ∀ r ∈ rows, RowIn l r.1 r.2) (hk : ∀ q ∈ kn, Has q.1 (aNat q.2) l) (hkl : kn.length ≤ 100) (hkb : ∀ q ∈ kn, (∀ n ∈ q.2, n < 100) ∧ q.2.length ≤ 100) (hLb : (∀ n ∈ L, n < 100) ∧ L.length ≤ 100)
    (er : rows.map rowI = kn.map fun q => psN q.2) (ep : pic.map (·.2) = psN L) (h : ∀ l' s', Sub l l' → St C k175 lm l' s' → Q (.ret (.bool true)) s') : C.B ((bodyOf 175).drop 11) Q s := by
  have hkz : (rwR kn).length = kn.length := by unfold rwR; rw [List.length_map]
  refine seq_return (BoolOp_and (wpAny_Compare1 (Name_ok H e1 fun v hv => ?_)))
  obtain ⟨_, rfl⟩ := hv
  refine list_compG [("one", .local), ("_law_painted", .globalImplicit)] [] H.V hA.h (by kernel_rfl) (fun _ _ h => nomatch h) rfl rfl (Name_ok H e3 fun v hv => iter_list H hv hK fun it s₁ H₁ => ⟨it, aLIter K, l, _, Has K (aList (rwR kn)), fun k ys l' => ∃ r2 : List Strip, Sub l l' ∧ ys = rowR r2 ∧ r2.map rowI = (kn.take k).map (fun q => psN q.2) ∧ ∀ r ∈ r2, RowIn l' r.1 r.2, rfl, walk_list it K (rwR kn), H₁, ⟨[], .refl _, rfl, rfl, fun r hr => (nomatch hr)⟩, ?_, ?_, ?_, ?_⟩)
  · rintro k ys l' ⟨r2, g1, rfl, g3, g4⟩
    refine ⟨g1 _ hK, ?_⟩
    have := congrArg List.length g3
    rw [List.length_map, List.length_map, List.length_take] at this
    unfold rowR
    rw [List.length_map]
    omega
  · rw [hkz]; omega
  · rintro C₂ acc k p ys l' s₂ hA₂ hp ⟨r2, g1, rfl, g3, g4⟩ H₂
    obtain ⟨q, hq, rfl⟩ : ∃ q, kn[k]? = some q ∧ p = .ref q.1 := by
      unfold rwR at hp
      rw [List.getElem?_map] at hp
      obtain ⟨q, hq, e⟩ := Option.map_eq_some_iff.mp hp
      exact ⟨q, hq, e.symm⟩
    have hqm := List.mem_of_getElem? hq
    obtain ⟨b1, b2⟩ := hkb q hqm
    refine tests_nil ?_
    rw [if_pos rfl]
    refine paint_ev H₂ (by rw [hA₂]; exact hA.less (by decide)) rfl rfl (.tail _ (.tail _ (g1 _ (hk q hqm)))) b1 b2 fun b ts s₃ et hrow H₃ => ⟨.ref b, (b, aList (colR ts)) :: (colL ts ++ l'), .raw _, ⟨r2 ++ [(b, ts)], fun _ he => .tail _ (List.mem_append_right _ (g1 _ he)), ?_, ?_, fun r hr => ?_⟩, ?_⟩
    · unfold rowR; rw [List.map_append]; rfl
    · rw [List.map_append, g3, List.take_add_one, hq, List.map_append]
      show _ ++ [ts.map (·.2)] = _
      rw [et]
      rfl
    · rcases List.mem_append.mp hr with hr | hr
      · exact (g4 r hr).mono fun _ he => .tail _ (List.mem_append_right _ he)
      · rw [List.mem_singleton.mp hr]
        refine ⟨.head _, fun c hc => .tail _ (List.mem_append_left _ ?_)⟩
        unfold colL
        exact List.mem_map.mpr ⟨c, List.mem_reverse.mpr hc, rfl⟩
    · exact H₃.perm (List.perm_append_comm_assoc ((b, aList (colR ts)) :: colL ts) [_, _] l')
  · rintro T ys l' ⟨r2, g1, rfl, g3, g4⟩ s₂ H₂
    rw [hkz, List.take_length] at g3
    refine eq_strips H₂ (hA.less (by decide)) (.tail _ (g1 _ hS)) (.head _) (fun r hr' => ((hr r hr').mono g1).mono (Sub.cons _ _)) (fun r hr' => (g4 r hr').mono (Sub.cons _ _)) (er.trans g3.symm) (wpAny_truthy_bool ?_)
    rw [if_pos rfl]
    refine BoolOp_one (wpAny_Compare1 (Name_ok H₂ e2 fun v hv => ?_))
    obtain ⟨_, rfl⟩ := hv
    refine paint_ev H₂ (hA.less (by decide)) rfl e4 (.tail _ (g1 _ hLa)) hLb.1 hLb.2 fun b ts s₃ et hrow H₃ => ?_
    refine eq_pic H₃ (hA.less (by decide)) ((hP.mono g1).mono fun _ he => .tail _ (List.mem_append_right _ (.tail _ he))) hrow (ep.trans et.symm) ?_
    exact h _ _ (fun _ he => .tail _ (List.mem_append_right _ (.tail _ (g1 _ he)))) H₃
end
end Mine
end
section
open PySem PySem.W PyProof.Rows PySem.Calls PySem.Flt PySem.SeqAt
set_option maxHeartbeats 2000000
namespace Mine
section
variable {C : Cx} {ks : Kinds} {lm : Vars} {l m Y : Led} {s : Shared}
theorem prL_mem {ts : List Pr} {t : Pr} (h : t ∈ ts) : (t.a, aTup [.int t.i, .int t.m]) ∈ prL ts := by
  unfold prL
  exact List.mem_map.mpr ⟨t, List.mem_reverse.mpr h, rfl⟩
theorem letters_R (ts : List Pr) : ts.map (fun t => PV.int ((t.i + 7 : Nat) : Int)) = intsN (lettersOf ts) := by unfold intsN lettersOf; rw [List.map_map]; rfl
/-- behind the packer -/
theorem law_tail {a : LexA} {ts : List Pr} {y : Str} {b sg La wa sc : Addr} {ps : Array Value} {Q : Flow → Shared → Prop} (hA : Ok C.A 6) (hl : ts.length = 12) (hts : ∀ t ∈ ts, t.i < 48 ∧ t.m < 4) (hy : chars y = text (wsOf ts)) (hyz : y.length ≤ 1000) (hya : y.cps.all (· < 128) = true) (hsg : a.sg = sg)
    (H : St C k175 [("lexer", .ref a.x), ("signs", .ref sg), ("text", .str y), ("written", .ref wa), ("letters", .ref La), ("row", .ref b), ("script", .ref sc)] (lexL a 1 [] (text (wsOf ts)) Y) s) (hLa : Has La (aNat (lettersOf ts)) Y) (hwa : Has wa (aList ((wrsOf ts).map .str)) Y) (htab : Has 129 (aTab ps) Y)
    (h : ∀ lm l' s', Has 129 (aTab ps) l' → St C k175 lm l' s' → Q (.ret (.bool true)) s') : C.B ((bodyOf 175).drop 6) Q s := by
  obtain ⟨w1, w2, w3⟩ := ws_ok hl hts
  have hLl := letters_len hl
  have hLi := letters_in hts
  have T := wrds_ok hl hts
  refine law_packed (num := fun p => (lettersOf ts).getD p 0) hA H rfl (by rw [hsg]; rfl) w1 w2 (by omega) (by omega) (fun c hc => ?_) fun N F ns cs ps2 l1 s1 u1 hP hN hF hi hd H1 => ?_
  · rw [w3] at hc
    obtain ⟨-, p2, -⟩ := pr_at hl hts hc
    exact ⟨(ts.getD c pr0).i, p2, wrd_at hl hts hc, letter_at hl hc, by rw [wrd_at hl hts hc]; exact (sign_ok p2).non⟩
  refine law_cut (hA.less (by decide)) H1 rfl (u1 _ hLa) (by omega) fun D U K k kn l2 s2 u2 hk ek hkn hD hU hK H2 => ?_
  rw [w3, ← hLl] at hP
  obtain ⟨e1, e2⟩ := lzw_cut T hP hk
  subst e1 e2
  have I := cIn (lettersOf ts) k
  have i1 := I.ns
  have i2 := I.c
  have i3 := I.cs
  have i4 := I.kn
  refine law_if1 (ws := wsOf ts) (ys := wrsOf ts) (hA.less (by decide)) H2 rfl rfl rfl rfl rfl (u2 _ hN) hD (u2 _ hF) hU (u2 _ (u1 _ hwa)) (by omega) (by rw [wrs_len]; decide) (wrs_sum hl hts) (text_of ts) fun l3 s3 u3 H3 => ?_
  refine law_if2 (a := a) (ws := wsOf ts) (hA.less (by decide)) H3 rfl rfl (u3 _ (u2 _ hi)) (u3 _ (u2 _ hd)) hy w1 hyz hya fun l4 s4 u4 H4 => ?_
  have hnums := cut_nums (L := lettersOf ts) (fun t ht => by have := hLi t ht; omega) (by omega) k
  refine law_unp hA H4 rfl (u4 _ (u3 _ (u2 _ hN))) hnums fun S P rows pic l5 s5 u5 er ep hr hp hS hPc H5 => ?_
  obtain ⟨q1, q2⟩ := unpack_law (L := lettersOf ts) (fun t ht => by have := hLi t ht; omega) (fun w => by rw [w] at hLl; cases hLl) hk
  have up : Sub l2 l5 := fun _ he => u5 _ (u4 _ (u3 _ he))
  refine law_end (La := La) (L := lettersOf ts) (hA.less (by decide)) H5 rfl rfl rfl rfl hS ⟨hPc, hp⟩ (up _ hK) (up _ (u2 _ (u1 _ hLa))) hr (fun q hq => up _ (hkn q hq)) ?_ (fun q hq => ?_) ⟨fun n hn => by have := hLi n hn; omega, by omega⟩ ?_ (ep.trans q2) fun l6 s6 u6 H6 => h _ l6 s6 (u6 _ (up _ (u2 _ (u1 _ htab)))) H6
  · rw [← List.length_map (f := fun q : Rw => q.2) (as := kn), ek]; omega
  · have hq' : q.2 ∈ (cIter (lettersOf ts) k).kn := ek ▸ List.mem_map_of_mem hq
    exact ⟨fun n hn => by have := hLi n (rows_mem k q.2 hq' n hn); omega, by have := I.rows q.2 hq'; omega⟩
  · rw [er, q1, ← ek, List.map_map]
    rfl
theorem law_ok {sc : Addr} {ns : List Int} {Q : Flow → Shared → Prop} (hA : Ok C.A 6) (hf : C.env.func.isSome = true) (H : St C k175 [("script", .ref sc)] [(129, aTab #[])] s) (hsc : ∃ vs, C.g.IsList sc vs ∧ VSs vs.toList (ns.map .int)) (hz : ns.length ≤ 1000)
    (h : ∀ ps lm l' s', Has 129 (aTab ps) l' → St C k175 lm l' s' → Q (.ret (.bool true)) s') : C.B (bodyOf 175) Q s := by
  refine seq_assign (Call_fn1 d122 H rfl (Call_fn (ps := [.ref sc]) 1 d108 H rfl rfl fun vs s₁ hvs H₁ => heaps_ok H₁ (hA.less (by decide)) hvs hsc hz fun b0 w x y z s₂ H₂ => ⟨⟨_, _, H₂⟩, drawn_ok H₂ (hA.less (by decide)) (.cons (.raw _) .nil) (.head _) fun b ts s₃ hl hts H₃ => storeC H₃ rfl hf (.raw _) fun s₄ H₄ => ?_⟩))
  refine do_pairs (ts := ts) (b := b) [("index", .local), ("manner", .local)] (fun t => .int ((t.i + 7 : Nat) : Int)) H₄ hA.h (by kernel_rfl) rfl (by decide) (by kernel_rfl) (Name_ok H₄ (p := .ref b) rfl fun v hv => ⟨hv, H₄⟩) (.head _) (fun t ht => .tail _ (List.mem_append_left _ (prL_mem ht))) (by omega) rfl rfl (fun C' t l' s' _ ht H' => ?_) fun La s₅ H₅ => ?_
  · exact ev_ok 2 H' (p := .int ((t.i + 7 : Nat) : Int)) (by show some (PV.int ((t.i : Int) + 7)) = _; push_cast; rfl) fun v s'' hv H'' => ⟨hv, H''⟩
  rw [letters_R] at H₅
  refine law_written (b := b) (ts := ts) (hA.less (by decide)) hf H₅ rfl hl hts (.tail _ (.head _)) (fun t ht => .tail _ (.tail _ (List.mem_append_left _ (prL_mem ht)))) fun wa s₆ H₆ => ?_
  refine law_text (ts := ts) H₆ rfl hl hts (.head _) fun s₇ H₇ => ?_
  have hy := txt_chars ts
  have hyz := txt_len hl hts
  have hya := txt_ascii hl hts
  generalize txtOf ts = yt at hy hyz hya H₇
  refine law_signs (y := yt) (hA.less (by decide)) H₇ rfl hyz hya fun sg s₈ H₈ => ?_
  rw [hy] at H₈
  have eX : (sg, aList (text (wsOf ts)).reverse) :: (wa, aList ((wrsOf ts).map .str)) :: (La, aList (intsN (lettersOf ts))) :: (b, aList (prR ts)) :: (prL ts ++ [(b0, aLs [.int w, .int x, .int y, .int z]), (129, aTab #[])]) =
      ((sg, aList (text (wsOf ts)).reverse) :: (wa, aList ((wrsOf ts).map .str)) :: (La, aList (intsN (lettersOf ts))) :: (b, aList (prR ts)) :: (prL ts ++ [(b0, aLs [.int w, .int x, .int y, .int z])])) ++ [(129, aTab #[])] := by
    simp only [List.cons_append, List.append_assoc, List.nil_append]
  have n1 : La ≠ sg := H₈.apart (i := 0) rfl (.tail _ (.head _))
  have n2 : wa ≠ sg := H₈.apart (i := 0) rfl (.head _)
  rw [eX] at H₈
  refine law_lexer (hA.less (by decide)) H₈ rfl (.head _) fun a ps Y s₉ hsg hY htab H₉ => ?_
  refine law_tail hA hl hts hy hyz hya hsg H₉ (hY _ (List.mem_filter.mpr ⟨.tail _ (.tail _ (.head _)), decide_eq_true n1⟩)) (hY _ (List.mem_filter.mpr ⟨.tail _ (.head _), decide_eq_true n2⟩)) htab (fun lm l' s' ht H' => h ps lm l' s' ht H')
end
end Mine
end
section
open PySem PySem.W PyProof.Rows PySem.Calls PySem.Flt PySem.SeqAt
set_option maxHeartbeats 2000000
namespace Mine
theorem vsInts {vs : List Value} {ns : List Int} (h : IntsAre vs ns) : VSs vs (ns.map .int) := by
  induction h with
  | nil => exact .nil
  | cons n t _ ih => exact .cons (.mk (.int n) t) ih
theorem law_at (P : Params) : nsIn (KH P) mainGlobals lawD.name = some (some (.ref 175)) := by kernel_rfl
theorem no_tabs (P : Params) : noTabs (KH P) = true := by kernel_rfl
theorem caller_ok : Ok callerA 7 := ⟨rfl, by decide, by decide⟩
theorem law_walk : WalkO vw ls (XL vw []) (Hook.says HK) hr.toRowW lawD [] fun f vs => PySem.call f vs := by
  intro w s₀ s₁ mg mb G Y fa o pm cd doc dV kV ho hd hcd hD hmg hg args vals as hpre hlay hrd hwl hlo
  wrow_args hpre hlay hrd hwl hlo
  rename_i ns x1 x2 x3 x4 x5 x6 x7 sc us x8 hL x9 x10 x11 hI x12 hlen x13
  have KX : (KH w.params).In s₁.heap := km_in_of Y
  have T8 := km_tabs_of Y
  have T9 : TabsAt [(133, 129)] s₁.heap := fun q hq => by
    rw [List.mem_singleton.mp hq]
    exact ⟨codeHd_of_K KX (hd129 _), T8 129 (.head _)⟩
  have hfa : fa = 175 := by
    have := mg_of KX G.T.g (law_at _)
    rw [hmg] at this
    cases this
    rfl
  subst hfa
  refine enter_call (kn_post T9 (fun _ _ => rfl) ?_)
  have B : Base0 w s₁ [(129, aTab #[])] s₁ := ⟨fun p hp => by
    rw [List.mem_singleton.mp hp]
    exact ⟨_, T8 129 (.head _), rfl⟩, List.nodup_cons.mpr ⟨List.not_mem_nil, .nil⟩, rfl, rfl, ghost_K T9 KX (no_tabs _), _, _, _, _, _, ghost_top T9 G.T⟩
  refine codeAny_mono (R := Ret fun v s' => v = .bool true ∧ (∃ L m, Fr (ghostOf s₁.heap [(133, 129)]) L s'.heap m) ∧ s'.gens = #[] ∧ s'.os = s₁.os ∧ GrownAll [(133, 129)] s'.heap) (enterP 6 d175 k175 (fun n => by kernel_rfl) (by decide) B (.inr ⟨_, rfl, rfl⟩) caller_ok (ps := [.ref sc]) (.cons (.raw _) .nil) rfl fun C' s' e1 e2 h0 hgr hA' he H' => ?_) fun r s' hr => ?_
  · refine law_ok (ns := ns) (sc := sc) hA' (by rw [he]; rfl) H' ⟨us.toArray, by rw [hgr]; exact ghost_list T9 hL, vsInts hI⟩ (by omega) fun ps lm l' s'' ht H'' => ?_
    refine ⟨rfl, ⟨_, _, hgr ▸ H''.fr⟩, ?_, ?_, ?_⟩
    · rw [H''.gens, h0]; exact hg
    · rw [H''.os, h0]
    · obtain ⟨o, ho, r⟩ := H''.mem ht
      exact ⟨⟨ps, by rw [ho, r]⟩, trivial⟩
  · rcases r with e | f
    · exact hr.elim
    · cases f with
      | ret v =>
        obtain ⟨rfl, ⟨L, m, F⟩, q1, q2, q3⟩ := hr
        exact ⟨goodW_bool F q1 (fun _ => rfl) (by first | rfl | wrow_post) q2, q3⟩
      | _ => exact hr.elim
theorem law_holds : PySem.Challenge.rw_uq0009_01.Holds := holds_of law_walk
end Mine
end
theorem PySem.Challenge.cw_uq0009_01_holds : PySem.Challenge.rw_uq0009_01.Holds := by
  exact Mine.law_holds
