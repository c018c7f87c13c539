import PyProof.Rows.All
import Wide.All
import OpenK.AllK
import Wide.FinOn
import PySem.Challenge.RW_mq0389_01
open PySem PySem.W PySem.Calls PyProof.Rows
set_option Elab.async false
set_option maxRecDepth 100000
set_option linter.all false
set_option rowWalk.seconds 0
namespace Mine
/-- what the law's places say of the module: the statements of the program that stay (read out of the row's program by their places) -/
@[reducible] noncomputable def mkV {a0 a1 a3 a5 a7 a8 a10 a12 a13 a14 a16 a17 a18 a20 a21 a22 a23 a24 a26 a28 a30 a31 a32 a33 a34 a35 a36 : Stmt} (h0 : PySem.Challenge.pw_mq0389_01.main.body[0]? = some a0) (h1 : PySem.Challenge.pw_mq0389_01.main.body[1]? = some a1) (h3 : PySem.Challenge.pw_mq0389_01.main.body[3]? = some a3) (h5 : PySem.Challenge.pw_mq0389_01.main.body[5]? = some a5) (h7 : PySem.Challenge.pw_mq0389_01.main.body[7]? = some a7) (h8 : PySem.Challenge.pw_mq0389_01.main.body[8]? = some a8) (h10 : PySem.Challenge.pw_mq0389_01.main.body[10]? = some a10) (h12 : PySem.Challenge.pw_mq0389_01.main.body[12]? = some a12) (h13 : PySem.Challenge.pw_mq0389_01.main.body[13]? = some a13) (h14 : PySem.Challenge.pw_mq0389_01.main.body[14]? = some a14) (h16 : PySem.Challenge.pw_mq0389_01.main.body[16]? = some a16) (h17 : PySem.Challenge.pw_mq0389_01.main.body[17]? = some a17) (h18 : PySem.Challenge.pw_mq0389_01.main.body[18]? = some a18) (h20 : PySem.Challenge.pw_mq0389_01.main.body[20]? = some a20) (h21 : PySem.Challenge.pw_mq0389_01.main.body[21]? = some a21) (h22 : PySem.Challenge.pw_mq0389_01.main.body[22]? = some a22) (h23 : PySem.Challenge.pw_mq0389_01.main.body[23]? = some a23) (h24 : PySem.Challenge.pw_mq0389_01.main.body[24]? = some a24) (h26 : PySem.Challenge.pw_mq0389_01.main.body[26]? = some a26) (h28 : PySem.Challenge.pw_mq0389_01.main.body[28]? = some a28) (h30 : PySem.Challenge.pw_mq0389_01.main.body[30]? = some a30) (h31 : PySem.Challenge.pw_mq0389_01.main.body[31]? = some a31) (h32 : PySem.Challenge.pw_mq0389_01.main.body[32]? = some a32) (h33 : PySem.Challenge.pw_mq0389_01.main.body[33]? = some a33) (h34 : PySem.Challenge.pw_mq0389_01.main.body[34]? = some a34) (h35 : PySem.Challenge.pw_mq0389_01.main.body[35]? = some a35) (h36 : PySem.Challenge.pw_mq0389_01.main.body[36]? = some a36) : Program :=
  { PySem.Challenge.pw_mq0389_01 with main := { PySem.Challenge.pw_mq0389_01.main with body := [a0, a1, a3, a5, a7, a8, a10, a12, a13, a14, a16, a17, a18, a20, a21, a22, a23, a24, a26, a28, a30, a31, a32, a33, a34, a35, a36] } }
noncomputable def tp.view_39 : Program := mkV rfl rfl rfl rfl rfl rfl rfl rfl rfl rfl rfl rfl rfl rfl rfl rfl rfl rfl rfl rfl rfl rfl rfl rfl rfl rfl rfl
@[reducible] noncomputable def docOf {n : Str} {p : Arguments} {d : Str} {k : Nat} {p1 p2 : Pos} {b : List Stmt} {ds : List Expr} {rt : Option Expr} {tps : List TypeParam} {sc : Scope} {tsc : Option Scope} {bn : Str} {ps : Pos} (i : Nat)
    (_h : PySem.Challenge.pw_mq0389_01.main.body[i]? = some (.FunctionDef n p (.Expr (.Constant (.str d) k p1) p2 :: b) ds rt tps sc tsc bn ps)) : Str := d
@[reducible] noncomputable def fnO {n : Str} {p : Arguments} {b : List Stmt} {ds : List Expr} {rt : Option Expr} {tps : List TypeParam} {sc : Scope} {tsc : Option Scope} {bn : Str} {ps : Pos} (i : Nat)
    (_h : PySem.Challenge.pw_mq0389_01.main.body[i]? = some (.FunctionDef n p b ds rt tps sc tsc bn ps)) (doc dflt md code : Value) : Obj :=
  { cls := .type "function", data := .func { name := n, qualname := n, params := p, body := .stmts b, scope := sc, globals := 3, closure := [], defaults := dflt, kwdefaults := .none, doc := doc, pyModule := md, code := code } }
/-- the loader as the boot lays it among the globals -/
noncomputable def loaderV (P : Params) : Value := match (boot_o_3 P).data with
  | .dict es _ => ((es[3]?).map (·.val)).getD .none
  | _ => .none
noncomputable def tp.heap_39 : Params → Frag := fun P =>
  (nat_lit 2, { cls := .none, data := .dict #[] }) ::
  (nat_lit 3, { cls := .type "dict", data := .dict #[{ hash := PyData.keyHash P (Str.ofString "__name__"), key := .str (Str.ofString "__name__") 165, val := .str (Str.ofString "law_mq0389_01") 497 }, { hash := PyData.keyHash P (Str.ofString "__doc__"), key := .str (Str.ofString "__doc__") 166, val := .none }, { hash := PyData.keyHash P (Str.ofString "__package__"), key := .str (Str.ofString "__package__") 167, val := .none }, { hash := PyData.keyHash P (Str.ofString "__loader__"), key := .str (Str.ofString "__loader__") 168, val := loaderV P }, { hash := PyData.keyHash P (Str.ofString "__spec__"), key := .str (Str.ofString "__spec__") 169, val := .none }, { hash := PyData.keyHash P (Str.ofString "__annotations__"), key := .str (Str.ofString "__annotations__") 170, val := .ref 6 }, { hash := PyData.keyHash P (Str.ofString "__builtins__"), key := .str (Str.ofString "__builtins__") 171, val := .ref 4 }, { hash := PyData.keyHash P (Str.ofString "__file__"), key := .str (Str.ofString "__file__") 173, val := .str (Str.ofString "/claim/cut.py") 172 }, { hash := PyData.keyHash P (Str.ofString "__cached__"), key := .str (Str.ofString "__cached__") 174, val := .none }, { hash := PyData.keyHash P (Str.ofString "_wall"), key := .str (Str.ofString "_wall") 193, val := .ref 21 }, { hash := PyData.keyHash P (Str.ofString "_pe_doc"), key := .str (Str.ofString "_pe_doc") 202, val := .ref 28 }, { hash := PyData.keyHash P (Str.ofString "_plain_name"), key := .str (Str.ofString "_plain_name") 213, val := .ref 35 }, { hash := PyData.keyHash P (Str.ofString "ABCMeta"), key := .str (Str.ofString "ABCMeta") 239, val := .ref 52 }, { hash := PyData.keyHash P (Str.ofString "_ABCLike"), key := .str (Str.ofString "_ABCLike") 282, val := .ref 85 }, { hash := PyData.keyHash P (Str.ofString "_abc_plain_meta"), key := .str (Str.ofString "_abc_plain_meta") 289, val := .ref 94 }, { hash := PyData.keyHash P (Str.ofString "fspath"), key := .str (Str.ofString "fspath") 301, val := .ref 101 }, { hash := PyData.keyHash P (Str.ofString "commonprefix"), key := .str (Str.ofString "commonprefix") 315, val := .ref 108 }, { hash := PyData.keyHash P (Str.ofString "_splitext"), key := .str (Str.ofString "_splitext") 330, val := .ref 115 }, { hash := PyData.keyHash P (Str.ofString "_check_arg_types"), key := .str (Str.ofString "_check_arg_types") 341, val := .ref 122 }, { hash := PyData.keyHash P (Str.ofString "_get_sep"), key := .str (Str.ofString "_get_sep") 350, val := .ref 129 }, { hash := PyData.keyHash P (Str.ofString "join"), key := .str (Str.ofString "join") 362, val := .ref 136 }, { hash := PyData.keyHash P (Str.ofString "splitext"), key := .str (Str.ofString "splitext") 371, val := .ref 143 }, { hash := PyData.keyHash P (Str.ofString "splitroot"), key := .str (Str.ofString "splitroot") 414, val := .ref 153 }, { hash := PyData.keyHash P (Str.ofString "basename"), key := .str (Str.ofString "basename") 424, val := .ref 160 }, { hash := PyData.keyHash P (Str.ofString "dirname"), key := .str (Str.ofString "dirname") 435, val := .ref 167 }, { hash := PyData.keyHash P (Str.ofString "normpath"), key := .str (Str.ofString "normpath") 451, val := .ref 174 }, { hash := PyData.keyHash P (Str.ofString "abspath"), key := .str (Str.ofString "abspath") 459, val := .ref 181 }, { hash := PyData.keyHash P (Str.ofString "relpath"), key := .str (Str.ofString "relpath") 477, val := .ref 189 }, { hash := PyData.keyHash P (Str.ofString "commonpath"), key := .str (Str.ofString "commonpath") 484, val := .ref 194 }, { hash := PyData.keyHash P (Str.ofString "get_line_col"), key := .str (Str.ofString "get_line_col") 496, val := .ref 201 }, { hash := PyData.keyHash P (Str.ofString "_law_places"), key := .str (Str.ofString "_law_places") 504, val := .ref 206 }, { hash := PyData.keyHash P (Str.ofString "_law_alike"), key := .str (Str.ofString "_law_alike") 513, val := .ref 213 }, { hash := PyData.keyHash P (Str.ofString "_law_route"), key := .str (Str.ofString "_law_route") 522, val := .ref 220 }, { hash := PyData.keyHash P (Str.ofString "_law_chain"), key := .str (Str.ofString "_law_chain") 533, val := .ref 227 }, { hash := PyData.keyHash P (Str.ofString "_law_crooked"), key := .str (Str.ofString "_law_crooked") 541, val := .ref 234 }, { hash := PyData.keyHash P (Str.ofString "_law_read_back"), key := .str (Str.ofString "_law_read_back") 553, val := .ref 241 }, { hash := PyData.keyHash P (Str.ofString "law"), key := .str (Str.ofString "law") 559, val := .ref 246 }] 37 }) ::
  (nat_lit 95, { cls := .type "tuple", data := .seq #[] }) ::
  (nat_lit 97, { cls := .type "tuple", data := .seq #[.str (Str.ofString "path") 295, .str (Str.ofString "kind") 296, .str (Str.ofString "hook") 297, .str (Str.ofString "given") 298] }) ::
  (nat_lit 98, { cls := .type "tuple", data := .seq #[] }) ::
  (nat_lit 100, { cls := .type "code", data := .fields #[.str (Str.ofString "fspath") 292, .str (Str.ofString "fspath") 293, .str (Str.ofString "/claim/cut.py") 294, .int 43 0, .int 1 0, .int 0 0, .int 0 0, .int 3 0, .ref 95, .bool true, .int 181 0, .ref 96, .none, .ref 97, .ref 98, .ref 99, .int 299 0, .int 43 0, .str (Str.ofString "/claim/cut.py") 300] }) ::
  (nat_lit 101, fnO 10 rfl .none (Value.none) (Value.str (Str.ofString "os") 290) (Value.ref 100)) ::
  (nat_lit 102, { cls := .type "tuple", data := .seq #[] }) ::
  (nat_lit 104, { cls := .type "tuple", data := .seq #[.str (Str.ofString "m") 307, .str (Str.ofString "s1") 308, .str (Str.ofString "s2") 309, .str (Str.ofString "i") 310, .str (Str.ofString "c") 311] }) ::
  (nat_lit 105, { cls := .type "tuple", data := .seq #[] }) ::
  (nat_lit 107, { cls := .type "code", data := .fields #[.str (Str.ofString "commonprefix") 304, .str (Str.ofString "commonprefix") 305, .str (Str.ofString "/claim/cut.py") 306, .int 60 0, .int 1 0, .int 0 0, .int 0 0, .int 3 0, .ref 102, .bool true, .int 181 0, .ref 103, .none, .ref 104, .ref 105, .ref 106, .int 312 0, .int 60 0, .str (Str.ofString "/claim/cut.py") 313] }) ::
  (nat_lit 108, fnO 12 rfl (.str (docOf 12 rfl) 314) (Value.none) (Value.str (Str.ofString "cpy313.genericpath") 302) (Value.ref 107)) ::
  (nat_lit 109, { cls := .type "tuple", data := .seq #[] }) ::
  (nat_lit 111, { cls := .type "tuple", data := .seq #[.str (Str.ofString "p") 319, .str (Str.ofString "sep") 320, .str (Str.ofString "altsep") 321, .str (Str.ofString "extsep") 322, .str (Str.ofString "sepIndex") 323, .str (Str.ofString "altsepIndex") 324, .str (Str.ofString "dotIndex") 325, .str (Str.ofString "filenameIndex") 326] }) ::
  (nat_lit 112, { cls := .type "tuple", data := .seq #[] }) ::
  (nat_lit 114, { cls := .type "code", data := .fields #[.str (Str.ofString "_splitext") 316, .str (Str.ofString "_splitext") 317, .str (Str.ofString "/claim/cut.py") 318, .int 72 0, .int 4 0, .int 0 0, .int 0 0, .int 3 0, .ref 109, .bool true, .int 181 0, .ref 110, .none, .ref 111, .ref 112, .ref 113, .int 327 0, .int 72 0, .str (Str.ofString "/claim/cut.py") 328] }) ::
  (nat_lit 115, fnO 13 rfl (.str (docOf 13 rfl) 329) (Value.none) (Value.str (Str.ofString "cpy313.genericpath") 302) (Value.ref 114)) ::
  (nat_lit 116, { cls := .type "tuple", data := .seq #[] }) ::
  (nat_lit 118, { cls := .type "tuple", data := .seq #[.str (Str.ofString "funcname") 334, .str (Str.ofString "args") 335, .str (Str.ofString "hasstr") 336, .str (Str.ofString "hasbytes") 337, .str (Str.ofString "s") 338] }) ::
  (nat_lit 119, { cls := .type "tuple", data := .seq #[] }) ::
  (nat_lit 121, { cls := .type "code", data := .fields #[.str (Str.ofString "_check_arg_types") 331, .str (Str.ofString "_check_arg_types") 332, .str (Str.ofString "/claim/cut.py") 333, .int 89 0, .int 1 0, .int 0 0, .int 0 0, .int 7 0, .ref 116, .bool true, .int 181 0, .ref 117, .none, .ref 118, .ref 119, .ref 120, .int 339 0, .int 89 0, .str (Str.ofString "/claim/cut.py") 340] }) ::
  (nat_lit 122, fnO 14 rfl .none (Value.none) (Value.str (Str.ofString "cpy313.genericpath") 302) (Value.ref 121)) ::
  (nat_lit 123, { cls := .type "tuple", data := .seq #[] }) ::
  (nat_lit 125, { cls := .type "tuple", data := .seq #[.str (Str.ofString "path") 347] }) ::
  (nat_lit 126, { cls := .type "tuple", data := .seq #[] }) ::
  (nat_lit 128, { cls := .type "code", data := .fields #[.str (Str.ofString "_get_sep") 344, .str (Str.ofString "_get_sep") 345, .str (Str.ofString "/claim/cut.py") 346, .int 101 0, .int 1 0, .int 0 0, .int 0 0, .int 3 0, .ref 123, .bool true, .int 181 0, .ref 124, .none, .ref 125, .ref 126, .ref 127, .int 348 0, .int 101 0, .str (Str.ofString "/claim/cut.py") 349] }) ::
  (nat_lit 129, fnO 16 rfl .none (Value.none) (Value.str (Str.ofString "cpy313.posixpath") 342) (Value.ref 128)) ::
  (nat_lit 130, { cls := .type "tuple", data := .seq #[] }) ::
  (nat_lit 132, { cls := .type "tuple", data := .seq #[.str (Str.ofString "a") 354, .str (Str.ofString "p") 355, .str (Str.ofString "sep") 356, .str (Str.ofString "path") 357, .str (Str.ofString "b") 358] }) ::
  (nat_lit 133, { cls := .type "tuple", data := .seq #[] }) ::
  (nat_lit 135, { cls := .type "code", data := .fields #[.str (Str.ofString "join") 351, .str (Str.ofString "join") 352, .str (Str.ofString "/claim/cut.py") 353, .int 106 0, .int 1 0, .int 0 0, .int 0 0, .int 7 0, .ref 130, .bool true, .int 181 0, .ref 131, .none, .ref 132, .ref 133, .ref 134, .int 359 0, .int 106 0, .str (Str.ofString "/claim/cut.py") 360] }) ::
  (nat_lit 136, fnO 17 rfl (.str (docOf 17 rfl) 361) (Value.none) (Value.str (Str.ofString "cpy313.posixpath") 342) (Value.ref 135)) ::
  (nat_lit 137, { cls := .type "tuple", data := .seq #[] }) ::
  (nat_lit 139, { cls := .type "tuple", data := .seq #[.str (Str.ofString "p") 366, .str (Str.ofString "sep") 367, .str (Str.ofString "extsep") 368] }) ::
  (nat_lit 140, { cls := .type "tuple", data := .seq #[] }) ::
  (nat_lit 142, { cls := .type "code", data := .fields #[.str (Str.ofString "splitext") 363, .str (Str.ofString "splitext") 364, .str (Str.ofString "/claim/cut.py") 365, .int 127 0, .int 1 0, .int 0 0, .int 0 0, .int 3 0, .ref 137, .bool true, .int 181 0, .ref 138, .none, .ref 139, .ref 140, .ref 141, .int 369 0, .int 127 0, .str (Str.ofString "/claim/cut.py") 370] }) ::
  (nat_lit 143, fnO 18 rfl (.str (docOf 13 rfl) 329) (Value.none) (Value.str (Str.ofString "cpy313.posixpath") 342) (Value.ref 142)) ::
  (nat_lit 147, { cls := .type "tuple", data := .seq #[] }) ::
  (nat_lit 149, { cls := .type "tuple", data := .seq #[.str (Str.ofString "p") 408, .str (Str.ofString "sep") 409, .str (Str.ofString "empty") 410] }) ::
  (nat_lit 150, { cls := .type "tuple", data := .seq #[] }) ::
  (nat_lit 152, { cls := .type "code", data := .fields #[.str (Str.ofString "splitroot") 405, .str (Str.ofString "splitroot") 406, .str (Str.ofString "/claim/cut.py") 407, .int 137 0, .int 1 0, .int 0 0, .int 0 0, .int 3 0, .ref 147, .bool true, .int 181 0, .ref 148, .none, .ref 149, .ref 150, .ref 151, .int 411 0, .int 137 0, .str (Str.ofString "/claim/cut.py") 412] }) ::
  (nat_lit 153, fnO 20 rfl (.str (docOf 20 rfl) 413) (Value.none) (Value.str (Str.ofString "cpy313.posixpath") 342) (Value.ref 152)) ::
  (nat_lit 154, { cls := .type "tuple", data := .seq #[] }) ::
  (nat_lit 156, { cls := .type "tuple", data := .seq #[.str (Str.ofString "p") 418, .str (Str.ofString "sep") 419, .str (Str.ofString "i") 420] }) ::
  (nat_lit 157, { cls := .type "tuple", data := .seq #[] }) ::
  (nat_lit 159, { cls := .type "code", data := .fields #[.str (Str.ofString "basename") 415, .str (Str.ofString "basename") 416, .str (Str.ofString "/claim/cut.py") 417, .int 154 0, .int 1 0, .int 0 0, .int 0 0, .int 3 0, .ref 154, .bool true, .int 181 0, .ref 155, .none, .ref 156, .ref 157, .ref 158, .int 421 0, .int 154 0, .str (Str.ofString "/claim/cut.py") 422] }) ::
  (nat_lit 160, fnO 21 rfl (.str (docOf 21 rfl) 423) (Value.none) (Value.str (Str.ofString "cpy313.posixpath") 342) (Value.ref 159)) ::
  (nat_lit 161, { cls := .type "tuple", data := .seq #[] }) ::
  (nat_lit 163, { cls := .type "tuple", data := .seq #[.str (Str.ofString "p") 428, .str (Str.ofString "sep") 429, .str (Str.ofString "i") 430, .str (Str.ofString "head") 431] }) ::
  (nat_lit 164, { cls := .type "tuple", data := .seq #[] }) ::
  (nat_lit 166, { cls := .type "code", data := .fields #[.str (Str.ofString "dirname") 425, .str (Str.ofString "dirname") 426, .str (Str.ofString "/claim/cut.py") 427, .int 160 0, .int 1 0, .int 0 0, .int 0 0, .int 3 0, .ref 161, .bool true, .int 181 0, .ref 162, .none, .ref 163, .ref 164, .ref 165, .int 432 0, .int 160 0, .str (Str.ofString "/claim/cut.py") 433] }) ::
  (nat_lit 167, fnO 22 rfl (.str (docOf 22 rfl) 434) (Value.none) (Value.str (Str.ofString "cpy313.posixpath") 342) (Value.ref 166)) ::
  (nat_lit 168, { cls := .type "tuple", data := .seq #[] }) ::
  (nat_lit 170, { cls := .type "tuple", data := .seq #[.str (Str.ofString "path") 439, .str (Str.ofString "sep") 440, .str (Str.ofString "dot") 441, .str (Str.ofString "dotdot") 442, .str (Str.ofString "_") 443, .str (Str.ofString "initial_slashes") 444, .str (Str.ofString "comps") 445, .str (Str.ofString "new_comps") 446, .str (Str.ofString "comp") 447] }) ::
  (nat_lit 171, { cls := .type "tuple", data := .seq #[] }) ::
  (nat_lit 173, { cls := .type "code", data := .fields #[.str (Str.ofString "normpath") 436, .str (Str.ofString "normpath") 437, .str (Str.ofString "/claim/cut.py") 438, .int 169 0, .int 1 0, .int 0 0, .int 0 0, .int 3 0, .ref 168, .bool true, .int 181 0, .ref 169, .none, .ref 170, .ref 171, .ref 172, .int 448 0, .int 169 0, .str (Str.ofString "/claim/cut.py") 449] }) ::
  (nat_lit 174, fnO 23 rfl (.str (docOf 23 rfl) 450) (Value.none) (Value.str (Str.ofString "cpy313.posixpath") 342) (Value.ref 173)) ::
  (nat_lit 175, { cls := .type "tuple", data := .seq #[] }) ::
  (nat_lit 177, { cls := .type "tuple", data := .seq #[.str (Str.ofString "path") 455] }) ::
  (nat_lit 178, { cls := .type "tuple", data := .seq #[] }) ::
  (nat_lit 180, { cls := .type "code", data := .fields #[.str (Str.ofString "abspath") 452, .str (Str.ofString "abspath") 453, .str (Str.ofString "/claim/cut.py") 454, .int 195 0, .int 1 0, .int 0 0, .int 0 0, .int 3 0, .ref 175, .bool true, .int 181 0, .ref 176, .none, .ref 177, .ref 178, .ref 179, .int 456 0, .int 195 0, .str (Str.ofString "/claim/cut.py") 457] }) ::
  (nat_lit 181, fnO 24 rfl (.str (docOf 24 rfl) 458) (Value.none) (Value.str (Str.ofString "cpy313.posixpath") 342) (Value.ref 180)) ::
  (nat_lit 182, { cls := .type "tuple", data := .seq #[.none] }) ::
  (nat_lit 183, { cls := .type "tuple", data := .seq #[] }) ::
  (nat_lit 185, { cls := .type "tuple", data := .seq #[.str (Str.ofString "path") 463, .str (Str.ofString "start") 464, .str (Str.ofString "curdir") 465, .str (Str.ofString "sep") 466, .str (Str.ofString "pardir") 467, .str (Str.ofString "start_tail") 468, .str (Str.ofString "path_tail") 469, .str (Str.ofString "start_list") 470, .str (Str.ofString "path_list") 471, .str (Str.ofString "i") 472, .str (Str.ofString "rel_list") 473] }) ::
  (nat_lit 186, { cls := .type "tuple", data := .seq #[] }) ::
  (nat_lit 188, { cls := .type "code", data := .fields #[.str (Str.ofString "relpath") 460, .str (Str.ofString "relpath") 461, .str (Str.ofString "/claim/cut.py") 462, .int 204 0, .int 2 0, .int 0 0, .int 0 0, .int 3 0, .ref 183, .bool true, .int 181 0, .ref 184, .none, .ref 185, .ref 186, .ref 187, .int 474 0, .int 204 0, .str (Str.ofString "/claim/cut.py") 475] }) ::
  (nat_lit 189, fnO 25 rfl (.str (docOf 25 rfl) 476) (Value.ref 182) (Value.str (Str.ofString "cpy313.posixpath") 342) (Value.ref 188)) ::
  (nat_lit 190, { cls := .type "tuple", data := .seq #[] }) ::
  (nat_lit 193, { cls := .type "code", data := .fields #[.str (Str.ofString "commonpath") 478, .str (Str.ofString "commonpath") 479, .str (Str.ofString "/claim/cut.py") 480, .int 234 0, .int 1 0, .int 0 0, .int 0 0, .int 3 0, .ref 190, .bool true, .int 181 0, .ref 191, .none, .none, .none, .ref 192, .int 481 0, .int 234 0, .str (Str.ofString "/claim/cut.py") 482] }) ::
  (nat_lit 194, fnO 26 rfl (.str (docOf 26 rfl) 483) (Value.none) (Value.str (Str.ofString "cpy313.posixpath") 342) (Value.ref 193)) ::
  (nat_lit 195, { cls := .type "tuple", data := .seq #[] }) ::
  (nat_lit 197, { cls := .type "tuple", data := .seq #[.str (Str.ofString "index") 490, .str (Str.ofString "line") 491, .str (Str.ofString "col") 492] }) ::
  (nat_lit 198, { cls := .type "tuple", data := .seq #[] }) ::
  (nat_lit 200, { cls := .type "code", data := .fields #[.str (Str.ofString "get_line_col") 487, .str (Str.ofString "get_line_col") 488, .str (Str.ofString "/claim/cut.py") 489, .int 265 0, .int 1 0, .int 0 0, .int 0 0, .int 3 0, .ref 195, .bool true, .int 181 0, .ref 196, .none, .ref 197, .ref 198, .ref 199, .int 493 0, .int 265 0, .str (Str.ofString "/claim/cut.py") 494] }) ::
  (nat_lit 201, fnO 28 rfl (.str (docOf 28 rfl) 495) (Value.none) (Value.str (Str.ofString "cpy313.idlelib.searchengine") 485) (Value.ref 200)) ::
  (nat_lit 202, { cls := .type "tuple", data := .seq #[] }) ::
  (nat_lit 205, { cls := .type "code", data := .fields #[.str (Str.ofString "_law_places") 499, .str (Str.ofString "_law_places") 500, .str (Str.ofString "/claim/cut.py") 501, .int 270 0, .int 1 0, .int 0 0, .int 0 0, .int 3 0, .ref 202, .bool true, .int 181 0, .ref 203, .none, .none, .none, .ref 204, .int 502 0, .int 270 0, .str (Str.ofString "/claim/cut.py") 503] }) ::
  (nat_lit 206, fnO 30 rfl .none (Value.none) (Value.str (Str.ofString "law_mq0389_01") 497) (Value.ref 205)) ::
  (nat_lit 207, { cls := .type "tuple", data := .seq #[] }) ::
  (nat_lit 209, { cls := .type "tuple", data := .seq #[.str (Str.ofString "one") 508, .str (Str.ofString "two") 509, .str (Str.ofString "count") 510] }) ::
  (nat_lit 210, { cls := .type "tuple", data := .seq #[] }) ::
  (nat_lit 212, { cls := .type "code", data := .fields #[.str (Str.ofString "_law_alike") 505, .str (Str.ofString "_law_alike") 506, .str (Str.ofString "/claim/cut.py") 507, .int 280 0, .int 2 0, .int 0 0, .int 0 0, .int 3 0, .ref 207, .bool true, .int 181 0, .ref 208, .none, .ref 209, .ref 210, .ref 211, .int 511 0, .int 280 0, .str (Str.ofString "/claim/cut.py") 512] }) ::
  (nat_lit 213, fnO 31 rfl .none (Value.none) (Value.str (Str.ofString "law_mq0389_01") 497) (Value.ref 212)) ::
  (nat_lit 214, { cls := .type "tuple", data := .seq #[] }) ::
  (nat_lit 216, { cls := .type "tuple", data := .seq #[.str (Str.ofString "start") 517, .str (Str.ofString "full") 518, .str (Str.ofString "same") 519] }) ::
  (nat_lit 217, { cls := .type "tuple", data := .seq #[] }) ::
  (nat_lit 219, { cls := .type "code", data := .fields #[.str (Str.ofString "_law_route") 514, .str (Str.ofString "_law_route") 515, .str (Str.ofString "/claim/cut.py") 516, .int 285 0, .int 2 0, .int 0 0, .int 0 0, .int 3 0, .ref 214, .bool true, .int 181 0, .ref 215, .none, .ref 216, .ref 217, .ref 218, .int 520 0, .int 285 0, .str (Str.ofString "/claim/cut.py") 521] }) ::
  (nat_lit 220, fnO 32 rfl .none (Value.none) (Value.str (Str.ofString "law_mq0389_01") 497) (Value.ref 219)) ::
  (nat_lit 221, { cls := .type "tuple", data := .seq #[] }) ::
  (nat_lit 223, { cls := .type "tuple", data := .seq #[.str (Str.ofString "here") 526, .str (Str.ofString "paths") 527, .str (Str.ofString "chain") 528, .str (Str.ofString "folder") 529, .str (Str.ofString "path") 530] }) ::
  (nat_lit 224, { cls := .type "tuple", data := .seq #[] }) ::
  (nat_lit 226, { cls := .type "code", data := .fields #[.str (Str.ofString "_law_chain") 523, .str (Str.ofString "_law_chain") 524, .str (Str.ofString "/claim/cut.py") 525, .int 288 0, .int 2 0, .int 0 0, .int 0 0, .int 3 0, .ref 221, .bool true, .int 181 0, .ref 222, .none, .ref 223, .ref 224, .ref 225, .int 531 0, .int 288 0, .str (Str.ofString "/claim/cut.py") 532] }) ::
  (nat_lit 227, fnO 33 rfl .none (Value.none) (Value.str (Str.ofString "law_mq0389_01") 497) (Value.ref 226)) ::
  (nat_lit 228, { cls := .type "tuple", data := .seq #[] }) ::
  (nat_lit 230, { cls := .type "tuple", data := .seq #[.str (Str.ofString "row") 537, .str (Str.ofString "bend") 538] }) ::
  (nat_lit 231, { cls := .type "tuple", data := .seq #[] }) ::
  (nat_lit 233, { cls := .type "code", data := .fields #[.str (Str.ofString "_law_crooked") 534, .str (Str.ofString "_law_crooked") 535, .str (Str.ofString "/claim/cut.py") 536, .int 295 0, .int 2 0, .int 0 0, .int 0 0, .int 3 0, .ref 228, .bool true, .int 181 0, .ref 229, .none, .ref 230, .ref 231, .ref 232, .int 539 0, .int 295 0, .str (Str.ofString "/claim/cut.py") 540] }) ::
  (nat_lit 234, fnO 34 rfl .none (Value.none) (Value.str (Str.ofString "law_mq0389_01") 497) (Value.ref 233)) ::
  (nat_lit 235, { cls := .type "tuple", data := .seq #[] }) ::
  (nat_lit 237, { cls := .type "tuple", data := .seq #[.str (Str.ofString "here") 545, .str (Str.ofString "chain") 546, .str (Str.ofString "read") 547, .str (Str.ofString "folder") 548, .str (Str.ofString "row") 549, .str (Str.ofString "path") 550] }) ::
  (nat_lit 238, { cls := .type "tuple", data := .seq #[] }) ::
  (nat_lit 240, { cls := .type "code", data := .fields #[.str (Str.ofString "_law_read_back") 542, .str (Str.ofString "_law_read_back") 543, .str (Str.ofString "/claim/cut.py") 544, .int 297 0, .int 2 0, .int 0 0, .int 0 0, .int 3 0, .ref 235, .bool true, .int 181 0, .ref 236, .none, .ref 237, .ref 238, .ref 239, .int 551 0, .int 297 0, .str (Str.ofString "/claim/cut.py") 552] }) ::
  (nat_lit 241, fnO 35 rfl .none (Value.none) (Value.str (Str.ofString "law_mq0389_01") 497) (Value.ref 240)) ::
  (nat_lit 242, { cls := .type "tuple", data := .seq #[] }) ::
  (nat_lit 245, { cls := .type "code", data := .fields #[.str (Str.ofString "law") 554, .str (Str.ofString "law") 555, .str (Str.ofString "/claim/cut.py") 556, .int 305 0, .int 1 0, .int 0 0, .int 0 0, .int 3 0, .ref 242, .bool true, .int 181 0, .ref 243, .none, .none, .none, .ref 244, .int 557 0, .int 305 0, .str (Str.ofString "/claim/cut.py") 558] }) ::
  (nat_lit 246, fnO 36 rfl .none (Value.none) (Value.str (Str.ofString "law_mq0389_01") 497) (Value.ref 245)) :: []
noncomputable def theAs : List Addr := [2, 3, 95, 97, 98, 100, 101, 102, 104, 105, 107, 108, 109, 111, 112, 114, 115, 116, 118, 119, 121, 122, 123, 125, 126, 128, 129, 130, 132, 133, 135, 136, 137, 139, 140, 142, 143, 147, 149, 150, 152, 153, 154, 156, 157, 159, 160, 161, 163, 164, 166, 167, 168, 170, 171, 173, 174, 175, 177, 178, 180, 181, 182, 183, 185, 186, 188, 189, 190, 193, 194, 195, 197, 198, 200, 201, 202, 205, 206, 207, 209, 210, 212, 213, 214, 216, 217, 219, 220, 221, 223, 224, 226, 227, 228, 230, 231, 233, 234, 235, 237, 238, 240, 241, 242, 245, 246]
noncomputable def lookT (p q : Program) (loose : List Str) (Xt : Shared → Bool) (as : List Addr) (w : World) (os : OsState) :=
  (topRun treeTable p w 11 (some (.ref 6)) 2000 ⟨boot_heap w.params, Array.mk [], boot_drawn, boot_toks, os⟩ (topStub p)).map fun s₁ =>
    (staticsOk (importedModules p.main.body) (boot_heap w.params) s₁.heap && namesBound p s₁.heap && gensDone s₁ && laidKept (boot_heap w.params) s₁.heap, openSeen q loose (importedModules p.main.body) Xt true s₁, as.map s₁.heap.get?)
noncomputable def goodT (q : Program) (loose : List Str) (K : Params → Frag) (w : World) := some (true, openGood q loose, (K w.params).map fun p => some p.2)
theorem primeA : (fun (_ : type_of% lookT) => true) lookT = true := by k_qdec
theorem primeB : (fun (_ : type_of% goodT) => true) goodT = true := by k_qdec
noncomputable abbrev theXt (s : Shared) : Bool := xlAt tp.view_39 [] s && recOk (RowW.records (PySem.Challenge.rw_mq0389_01.row.toRowW)) s
theorem opn : ∀ w : World, (fencedOpening treeTable PySem.Challenge.pw_mq0389_01 w 2000).map (fun s => (s.heap, s.gens, s.drawn, s.toks)) = some (boot_heap w.params, Array.mk [], boot_drawn, boot_toks) :=
  boot_open (by kernel_rfl) (by decide) (fun s => by kernel_rfl)
theorem siz : ∀ w : World, ((boot_heap w.params).isNs mainGlobals && (Array.mk ([] : List GenState)).size == 0, (boot_heap w.params).objs.size, (boot_heap w.params).nsMap mainGlobals "__annotations__") = (true, 11, some (.ref 6)) :=
  fun w => by kernel_rfl
theorem end_of {p : Program} {w : World} {os : OsState} {s₁ : Shared}
    (r : topRun treeTable p w 11 (some (.ref 6)) 2000 ⟨boot_heap w.params, Array.mk [], boot_drawn, boot_toks, os⟩ (topStub p) = some s₁)
    (g : (staticsOk (importedModules p.main.body) (boot_heap w.params) s₁.heap && namesBound p s₁.heap && gensDone s₁ && laidKept (boot_heap w.params) s₁.heap) = true) :
    topFrom treeTable p w 2000 ⟨boot_heap w.params, Array.mk [], boot_drawn, boot_toks, os⟩ = some s₁ := by
  have z := siz w
  simp only [Prod.mk.injEq] at z
  simp only [topFrom, z.1, z.2.1, z.2.2, r, Option.bind_some]
  simp only [g]
theorem left_of {p q : Program} {loose : List Str} {Xt : Shared → Bool} {as : List Addr} {K : Params → Frag}
    (open_ : ∀ w : World, (fencedOpening treeTable p w 2000).map (fun s => (s.heap, s.gens, s.drawn, s.toks)) = some (boot_heap w.params, Array.mk [], boot_drawn, boot_toks))
    (run : ∀ w : World, (fun os => lookT p q loose Xt as w os) = fun _ => goodT q loose K w) :
    LeftO p q loose Xt (fun s => as.map s.heap.get?) (fun w => (K w.params).map fun p => some p.2) 2000 := by
  intro w
  have o := open_ w
  rw [openEnds]
  cases hf : fencedOpening treeTable p w 2000 with
  | none => rw [hf] at o; cases o
  | some s₀ =>
    rw [hf] at o
    cases s₀ with
    | mk hp gs d k os =>
      simp only [Option.map_some, Option.some.injEq, Prod.mk.injEq] at o
      obtain ⟨rfl, rfl, rfl, rfl⟩ := o
      have l := congrFun (run w) os
      rw [lookT, goodT] at l
      cases ht : topRun treeTable p w 11 (some (.ref 6)) 2000 ⟨boot_heap w.params, Array.mk [], boot_drawn, boot_toks, os⟩ (topStub p) with
      | none => rw [ht] at l; cases l
      | some s₁ =>
        rw [ht] at l
        simp only [Option.map_some, Option.some.injEq, Prod.mk.injEq] at l
        rw [Option.bind_some, end_of ht l.1, Option.map_some, l.2.1]
        exact congrArg (fun x => some (openGood q loose, x)) l.2.2
theorem law_said : PySem.Challenge.rw_mq0389_01.wellSaid = true := by
  refine (congrFun PySem.W.Fast.te9446332074065402090 _).trans ?_
  delta PySem.W.Fast.tw9446332074065402090
  delta PySem.W.Fast.tw17960256430627541270 PySem.W.Fast.tw2436336058641802641 PySem.W.Fast.tw12908688711261696721
  repeat' with_reducible refine look_both ?_ ?_
  all_goals decide +kernel
theorem chkF : ∀ w : World, (fun os => PySem.W.Fast.tw16432311211671700021 PySem.Challenge.pw_mq0389_01 tp.view_39 [Str.ofString "relpath"] theXt theAs (w.withFollow "special-get-raises" false) os) = fun _ => PySem.W.Fast.tw15373350099974320332 tp.view_39 [Str.ofString "relpath"] tp.heap_39 (w.withFollow "special-get-raises" false) :=
  fun w => by kernel_rfl
theorem chkT : ∀ w : World, (fun os => PySem.W.Fast.tw16432311211671700021 PySem.Challenge.pw_mq0389_01 tp.view_39 [Str.ofString "relpath"] theXt theAs (w.withFollow "special-get-raises" true) os) = fun _ => PySem.W.Fast.tw15373350099974320332 tp.view_39 [Str.ofString "relpath"] tp.heap_39 (w.withFollow "special-get-raises" true) :=
  fun w => by kernel_rfl
theorem chk : ∀ w : World, (fun os => lookT PySem.Challenge.pw_mq0389_01 tp.view_39 [Str.ofString "relpath"] theXt theAs w os) = fun _ => goodT tp.view_39 [Str.ofString "relpath"] tp.heap_39 w := by
  rw [PySem.W.Fast.te16432311211671700021, PySem.W.Fast.te15373350099974320332]
  exact byRow2 "special-get-raises" (P := fun w => (fun os => PySem.W.Fast.tw16432311211671700021 PySem.Challenge.pw_mq0389_01 tp.view_39 [Str.ofString "relpath"] theXt theAs w os) = fun _ => PySem.W.Fast.tw15373350099974320332 tp.view_39 [Str.ofString "relpath"] tp.heap_39 w) chkF chkT
noncomputable def theH : Hook := kHook tp.heap_39 theAs (fun _ => by kernel_rfl)
theorem left : LeftO PySem.Challenge.pw_mq0389_01 tp.view_39 [Str.ofString "relpath"] theXt theH.obs theH.val 2000 := left_of opn chk
theorem tp {d : DefRec} {kwd : List (Str × Expr)} (hdef : defOf tp.view_39 (Str.ofString "law") = some (d, kwd)) (hp : PySem.Challenge.pw_mq0389_01.theDef (Str.ofString "law") = some (d.params, d.body, d.scope))
    (hk : kwWritten? d.params.kwonlyargs d.params.kw_defaults = some kwd) (hw : PySem.Challenge.rw_mq0389_01.row.toRowW.promised)
    (h : WalkO tp.view_39 [Str.ofString "relpath"] (XL tp.view_39 []) (kHook tp.heap_39 theAs (fun _ => by kernel_rfl)).says PySem.Challenge.rw_mq0389_01.row.toRowW d kwd fun f vs => call f vs) : PySem.Challenge.rw_mq0389_01.Holds :=
  holds_law law_said fun said => holds_open (r := PySem.Challenge.rw_mq0389_01.row) (q := tp.view_39) (loose := [Str.ofString "relpath"]) (Xt := theXt) (XP := XL tp.view_39 []) (Yf := theH.obs) (Ya := theH.val) (YP := theH.says) (N := 2000)
    left theH.of theH.keeps (fun s e => xl_of s (Bool.and_eq_true_iff.mp e).1) XL.keeps hdef hp hk (fun s e => recFacts_of (Bool.and_eq_true_iff.mp e).2) (by rfl) said (by decide +kernel) ⟨rfl, rfl, rfl, rfl, rfl, by decide +kernel⟩ hw h
example : (PySem.Challenge.rw_mq0389_01 = PySem.Challenge.rw_mq0389_01 ∧ tp.heap_39 = tp.heap_39) := by
  k_fill
  exact ⟨rfl, rfl⟩
set_option compiler.extract_closed false
section
theorem sub_str : isSubtype (.type "str") (.type "str") = pure true := by rw [isSubtype_type]; kernel_rfl
theorem issub_nested_str {prog : Program} {w : World} {A : Around} {E : Value → Shared → Prop} {s : Shared} {dep : Int} {tk : Tok} {Q : Fin → Shared → Prop}
    (hq : Q (.done (.ret (.bool true))) s) :
    wpAny (model prog w) A (Builtin.«issubclass.nested» ⟨[.type "str", .type "str", .int dep tk], []⟩) Q E s := by
  have hself := sub_str
  repeat (any_goals (first | assumption | (rw [hself]) | wp_step))
theorem args_issub_3 (a b c : Value) : argsOk "issubclass.nested" ⟨[a, b, c], []⟩ := by unfold argsOk; kernel_rfl
theorem kind_issub : builtinKind "issubclass.nested" = none := by decide +kernel
theorem plain_issub : plainId "issubclass.nested" = true := by decide +kernel
theorem issub_tuple {prog : Program} {w : World} {A : Around} {E : Value → Shared → Prop} {s : Shared} {a : Addr} {tk : Tok} {Q : Fin → Shared → Prop}
    (ht : IsTup s.heap a #[.type "str", .type "bytes"]) (hq : Q (.done (.ret (.bool true))) s) :
    wpAny (model prog w) A (Builtin.«issubclass.nested» ⟨[.type "str", .ref a, .int 0 tk], []⟩) Q E s := by
  obtain ⟨o, ho, hc, n, hd⟩ := ht
  have hT2 : s.TypeIs (.ref a) "tuple" := ⟨_, ho, hc⟩
  have f1 := F.isi_sub_tuple
  repeat (any_goals (first | assumption | wp_step))
  rw [hd]
  refine wpAny_pure ?_
  simp only [Option.getD_some]
  rw [show (#[Value.type "str", Value.type "bytes"] : Array Value) = [Value.type "str", Value.type "bytes"].toArray from rfl, ← Array.forIn_toList]
  simp only [List.forIn_cons]
  refine wpAny_bind (wpAny_bind (wpAny_bind (call_function_meets kind_issub plain_issub F.entry_issubclass_nested (args_issub_3 _ _ _) (S := fun _ R s => R (.ok (.ret (.bool true))) s) (fun _ _ _ _ _ hs => issub_nested_str hs) ?_)))
  show wpAny _ _ (truthy (.bool true) >>= _) _ _ _
  refine wpAny_bind (m := truthy (.bool true)) (wpAny_pure ?_)
  exact wpAny_bind (wpAny_pure (wpAny_pure (wpAny_pure (wpAny_pure hq))))
theorem issub_call {prog : Program} {w : World} {A : Around} {E : Value → Shared → Prop} {s : Shared} {a : Addr} {Q : Value → Shared → Prop}
    (ht : IsTup s.heap a #[.type "str", .type "bytes"]) (hq : Q (.bool true) s) :
    wpAny (model prog w) A (call (.builtin "issubclass") [.type "str", .ref a]) Q E s :=
  call_issubclass (S := fun _ R s => IsTup s.heap a #[.type "str", .type "bytes"] ∧ R (.ok (.ret (.bool true))) s)
    (fun _ _ _ _ _ hs => issubclass_outer (issub_tuple hs.1 hs.2)) ⟨ht, hq⟩
/-- the place where a call of a def of the text is made: nothing is handled there -/
abbrev AA (dp un : Nat) (fr : Option (List Env)) (gd : Option (List Code)) : Around := { handled := none, depth := dp, frames := fr, guards := gd, units := un }
structure Rm (dp un d : Nat) : Prop where
  hd : dp + d < 600
  hu : un + 3 * d < 9000
theorem Rm.deeper {dp un d : Nat} (r : Rm dp un (d + 1)) : Rm (dp + 1) (un + 3) d := ⟨by have := r.hd; omega, by have := r.hu; omega⟩
theorem Rm.less {dp un d e : Nat} (r : Rm dp un d) (h : e ≤ d) : Rm dp un e := ⟨by have := r.hd; omega, by have := r.hu; omega⟩
theorem Rm.room {dp un d : Nat} (r : Rm dp un d) : dp < recursionLimit := by have := r.hd; show _ < 1000; omega
theorem Rm.line {dp un d : Nat} (r : Rm dp un d) : un < cLine := by have := r.hu; show _ < 9900; omega
theorem enter {prog : Program} {w : World} {dp un : Nat} {fr : Option (List Env)} {gd : Option (List Code)} {K : Frag} {R : Result → Shared → Prop} {s : Shared} {p : Program} {loose : List Str} {mean : ExcName → Option Value} {mg mb : Str → Option Value}
    {name qual : Str} {params : Arguments} {body : List Stmt} {scope : Scope} {dV kV doc pm cdv ct oc : Value} {an od : Option Addr} {osl : Array (Option Value)} {f : Addr} {args : Args} (binds : List (Str × Value))
    (X : K.In s.heap) (T : Top p loose mean mg mb s.heap)
    (ho : K.lookup f = some ⟨oc, od, .func (fnOf name qual params body scope dV kV doc pm an cdv ct), osl⟩) (hcd : codeIn K cdv qual = true) (hroom : dp < recursionLimit)
    (hbind : BindsTo s (fnOf name qual params body scope dV kV doc pm an cdv ct) args binds) (hloc : ∀ y ∈ binds, scope.names.lookup y.1 = some .local)
    (h : ∀ L' h₁, Fr s.heap L' h₁ (fun y => binds.reverse.lookup y) →
      wpAny (model prog w) (AA (dp + 1) (un + 3) (fr.map (envOf qual scope L' f cdv :: ·)) gd) (execs body (envOf qual scope L' f cdv))
        (fun fl s' => R (.ok (.ret (match fl with | .ret v => v | _ => .none))) s') (fun _ _ => False)
        { s with heap := h₁, toks := s.toks + binds.length })
    (hco : scope.isCoroutine = false) (hgen : scope.isGenerator = false) (hk : scope.kind = .function)
    (hcell : ∀ x ∈ scope.names, x.2 ≠ .cell) : codeAny (model prog w) (AA dp un fr gd) (.call (.ref f) args) R s := by
  refine codeAny_call_def (fd := fnOf name qual params body scope dV kV doc pm an cdv ct) (body := body) (binds := binds) hroom (X _ _ ho) rfl T.nolimit (codeRec_of X hcd) rfl hbind hcell hloc (fun h₁ hns hk₁ => ?_) hco hgen hk
  exact wpAny_mono (h _ h₁ ⟨hns, hk₁, Nat.le_refl _⟩) (fun _ _ x => x) (fun _ _ x => x.elim)
theorem fr_stays {h₀ h h' : Heap} {L : Addr} {m : Str → Option Value} (F : Fr h₀ L h m) (st : h.StaysIn h') : Fr h₀ L h' m := by
  obtain ⟨oL, es, ep, hL, r⟩ := F.ns
  exact ⟨⟨oL, es, ep, st _ _ hL, r⟩, fun b o e => st _ _ (F.keep b o e), F.above⟩
theorem news_stays {h₀ h h' : Heap} {L : Addr} {news : List (Addr × Obj)} (N : News h₀ L h news) (st : h.StaysIn h') : News h₀ L h' news :=
  fun p hp => ⟨st _ _ (N p hp).1, (N p hp).2⟩
theorem news_new {h₀ h h' : Heap} {L D : Addr} {o : Obj} {m : Str → Option Value} {news : List (Addr × Obj)} (F : Fr h₀ L h m) (N : News h₀ L h news) (st : h.StaysIn h') (hD : h'.get? D = some o) (hn : h.get? D = none) :
    News h₀ L h' ((D, o) :: news) := by
  intro p hp
  rcases List.mem_cons.mp hp with rfl | hp
  · refine ⟨hD, ?_, ?_⟩
    · rintro rfl
      obtain ⟨oL, _, _, hL, _⟩ := F.ns
      rw [hL] at hn; cases hn
    · cases q : h₀.get? D with
      | none => rfl
      | some o' => rw [F.keep _ _ q] at hn; cases hn
  · exact news_stays N st p hp
theorem nil_of {h₀ h : Heap} {L : Addr} {m : Str → Option Value} (_F : Fr h₀ L h m) : News h₀ L h [] := News.nil
theorem stays_refl {h : Heap} : h.StaysIn h := fun _ _ e => e
theorem stays_trans {h h' h'' : Heap} (a : h.StaysIn h') (b : h'.StaysIn h'') : h.StaysIn h'' := fun _ _ e => b _ _ (a _ _ e)
local macro_rules | `(tactic| walk_at "mine_go") => `(tactic| repeat' (first | (k_unfold; (try dsimp only)) | walk1 | (dsimp only; walk1)))
local macro_rules | `(tactic| walk_at "mine_in") => `(tactic| (
  w_top off
  (case k6 => k_is); (case k7 => k_is); (case k8 => exact Rm.room (by assumption)); (case k9 => first | exact BindsTo.of_eq rfl | exact binds_K (by k_in) rfl (by k_is) rfl rfl rfl); (case kB => exact locs rfl)
  (case c2 => exact rfl); (case c3 => exact rfl); (case c4 => exact rfl); (case c5 => decide)
  k_whole; intro L' h' F'; have N' := nil_of F'; (try dsimp only); (try k_fold)))
local macro_rules | `(tactic| walk_at "call builtin:issubclass") => `(tactic| (k_here; refine' issub_call ?ti ?_; (case ti => exact News.isTup (by k_asm) (by k_mem))))
local macro_rules | `(tactic| walk_at "mine_top") => `(tactic| first | assumption | exact Top.keeps (by k_asm) (Fr.keep (by k_asm)))
local macro_rules | `(tactic| walk_at "mine_len") => `(tactic| first | assumption | omega)
local macro_rules | `(tactic| walk_at "mine_xtr") => `(tactic| ((case X => k_in); (case T => walk_at "mine_top"); (case r => walk_at "mine_rm")))
local macro_rules | `(tactic| walk_at "mine_post") => `(tactic| ((with_reducible rename Heap.StaysIn _ _ => st'); (have F' := fr_stays (by assumption) st'); (have N' := news_stays (by assumption) st'); (try clear st'); (try k_sweep); (try dsimp only)))
local macro_rules | `(tactic| walk_at "mine_rm") => `(tactic| first | assumption | exact Rm.less (Rm.deeper (by assumption)) (by decide) | exact Rm.less (by assumption) (by decide))
end
section
local macro_rules | `(tactic| walk_at "mine_go") => `(tactic| repeat' (first | (k_unfold; (try dsimp only)) | walk1 | (dsimp only; walk1)))
local macro_rules | `(tactic| walk_at "mine_in") => `(tactic| (
  w_top off
  (case k6 => k_is); (case k7 => k_is); (case k8 => exact Rm.room (by assumption)); (case k9 => first | exact BindsTo.of_eq rfl | exact binds_K (by k_in) rfl (by k_is) rfl rfl rfl); (case kB => exact locs rfl)
  (case c2 => exact rfl); (case c3 => exact rfl); (case c4 => exact rfl); (case c5 => decide)
  k_whole; intro L' h' F'; have N' := nil_of F'; (try dsimp only); (try k_fold)))
local macro_rules | `(tactic| walk_at "call builtin:issubclass") => `(tactic| (k_here; refine' issub_call ?ti ?_; (case ti => exact News.isTup (by k_asm) (by k_mem))))
local macro_rules | `(tactic| walk_at "mine_top") => `(tactic| first | assumption | exact Top.keeps (by k_asm) (Fr.keep (by k_asm)))
local macro_rules | `(tactic| walk_at "mine_len") => `(tactic| first | assumption | omega)
local macro_rules | `(tactic| walk_at "mine_xtr") => `(tactic| ((case X => k_in); (case T => walk_at "mine_top"); (case r => walk_at "mine_rm")))
local macro_rules | `(tactic| walk_at "mine_post") => `(tactic| ((with_reducible rename Heap.StaysIn _ _ => st'); (have F' := fr_stays (by assumption) st'); (have N' := news_stays (by assumption) st'); (try clear st'); (try k_sweep); (try dsimp only)))
local macro_rules | `(tactic| walk_at "mine_rm") => `(tactic| first | assumption | exact Rm.less (Rm.deeper (by assumption)) (by decide) | exact Rm.less (by assumption) (by decide))
section
theorem c_fspath {prog : Program} {w : World} {dp un : Nat} {fr : Option (List Env)} {gd : Option (List Code)} {R : Result → Shared → Prop} {s : Shared} {mean : ExcName → Option Value} {mg mb : Str → Option Value} {x : Str} {t : Tok}
    (X : (tp.heap_39 w.params).In s.heap) (T : Top tp.view_39 [Str.ofString "relpath"] mean mg mb s.heap) (r : Rm dp un 1)
    (h : ∀ h' tk', s.heap.StaysIn h' → R (.ok (.ret (.str x t))) { s with heap := h', toks := tk' }) :
    codeAny (model prog w) (AA dp un fr gd) (.call (.ref 101) ⟨[.str x t], []⟩) R s := by
  refine' enter [(Str.ofString "path", .str x t)] X T ?k6 ?k7 ?k8 ?k9 ?kB ?_ ?c2 ?c3 ?c4 ?c5
  walk_at "mine_in"
  walk_at "mine_go"
  exact h _ _ (Fr.keep (by assumption))
local macro_rules | `(tactic| walk_at "call ref") => `(tactic| (k_here; k_dflt (refine' wpAny_call (c_fspath ?X ?T ?r ?_); walk_at "mine_xtr"; k_whole); intro h' tk' st'; walk_at "mine_post"))
theorem c_get_sep {prog : Program} {w : World} {dp un : Nat} {fr : Option (List Env)} {gd : Option (List Code)} {R : Result → Shared → Prop} {s : Shared} {mean : ExcName → Option Value} {mg mb : Str → Option Value} {x : Str} {t : Tok}
    (X : (tp.heap_39 w.params).In s.heap) (T : Top tp.view_39 [Str.ofString "relpath"] mean mg mb s.heap) (r : Rm dp un 1)
    (h : ∀ h' tk tk', s.heap.StaysIn h' → R (.ok (.ret (.str (Str.ofString "/") tk))) { s with heap := h', toks := tk' }) :
    codeAny (model prog w) (AA dp un fr gd) (.call (.ref 129) ⟨[.str x t], []⟩) R s := by
  refine' enter [(Str.ofString "path", .str x t)] X T ?k6 ?k7 ?k8 ?k9 ?kB ?_ ?c2 ?c3 ?c4 ?c5
  walk_at "mine_in"
  walk_at "mine_go"
  exact h _ _ _ (Fr.keep (by assumption))
local macro_rules | `(tactic| walk_at "call ref") => `(tactic| (k_here; k_dflt (refine' wpAny_call (c_get_sep ?X ?T ?r ?_); walk_at "mine_xtr"; k_whole); intro h' tk tk' st'; walk_at "mine_post"))
end
section
theorem Fr.only {h₀ h : Heap} {L : Addr} {m₁ m₀ : Str → Option Value} {x : Str} (F : Fr h₀ L h m₁) (hm : ∀ z, z ≠ x → m₁ z = m₀ z) : Fr h₀ L h (fun y => if y = x then m₁ x else m₀ y) := by
  have e : m₁ = fun y => if y = x then m₁ x else m₀ y := by
    funext y
    by_cases h : y = x
    · simp [h]
    · simp only [if_neg h]; exact hm y h
  rwa [← e]
theorem Fr.only2 {h₀ h : Heap} {L : Addr} {m₁ m₀ : Str → Option Value} {x y : Str} (F : Fr h₀ L h m₁) (hm : ∀ z, z ≠ x → z ≠ y → m₁ z = m₀ z) : Fr h₀ L h (fun z => if z = y then m₁ y else if z = x then m₁ x else m₀ z) := by
  have e : m₁ = fun z => if z = y then m₁ y else if z = x then m₁ x else m₀ z := by
    funext z
    by_cases h : z = y
    · simp [h]
    · by_cases h2 : z = x
      · subst h2; simp [h]
      · simp only [if_neg h, if_neg h2]; exact hm z h2 h
  rwa [← e]
theorem Fr.names2 {h₀ h : Heap} {L : Addr} {m₁ m₀ : Str → Option Value} {x y : Str} {v u : Option Value} (F : Fr h₀ L h (fun z => if z = y then u else if z = x then v else m₁ z)) (hm : ∀ z, z ≠ x → z ≠ y → m₁ z = m₀ z) : Fr h₀ L h (fun z => if z = y then u else if z = x then v else m₀ z) := by
  have e : (fun z => if z = y then u else if z = x then v else m₁ z) = fun z => if z = y then u else if z = x then v else m₀ z := by
    funext z
    by_cases h : z = y
    · simp [h]
    · by_cases h2 : z = x
      · simp [h2]
      · simp only [if_neg h, if_neg h2]; exact hm z h2 h
  rwa [e] at F
theorem Fr.names {h₀ h : Heap} {L : Addr} {m₁ m₀ : Str → Option Value} {x : Str} {v : Option Value} (F : Fr h₀ L h (fun y => if y = x then v else m₁ y)) (hm : ∀ z, z ≠ x → m₁ z = m₀ z) : Fr h₀ L h (fun y => if y = x then v else m₀ y) := by
  have e : (fun y => if y = x then v else m₁ y) = fun y => if y = x then v else m₀ y := by
    funext y
    by_cases h : y = x
    · simp [h]
    · simp only [if_neg h]; exact hm y h
  rwa [e] at F
section
variable {prog : Program} {w : World} {A : Around} {E : Value → Shared → Prop} {s : Shared} {env : Env} {h₀ : Heap} {x : Str} {body : List Stmt} {Q : Flow → Shared → Prop}
/-- a for over a list (of whatever values, made by the call or older) that the loop does not turn; J speaks of the names and of the ledger's part that the loop turns -/
theorem iter_invL {l : Addr} {vs : List Value} {m₀ : Str → Option Value} {news : List (Addr × Obj)} (J : Nat → (Str → Option Value) → List (Addr × Obj) → Prop)
    (hh : A.handled = none) (hls : s.heap.IsList l vs.toArray) (hlL : l ≠ env.locals) (hln : ∀ p ∈ news, p.1 ≠ l) (F : Fr h₀ env.locals s.heap m₀) (N : News h₀ env.locals s.heap news) (hj : J 0 m₀ news)
    (turn : ∀ i v m₁ news₁ h tk own, vs[i]? = some v → news₁.map (·.1) = news.map (·.1) → OwnOff own (news.map (·.1)) → J i m₁ news₁ → Fr h₀ env.locals h (fun y => if y = x then some v else m₁ y) → News h₀ env.locals h (news₁ ++ own) →
      wpAny (model prog w) A (execs body env) (InvPostN h₀ env.locals (J (i + 1)) own (news.map (·.1)) { s with heap := h, toks := tk } Q) E { s with heap := h, toks := tk })
    (done : ∀ m₁ news₁ h tk, J vs.length m₁ news₁ → Fr h₀ env.locals h m₁ → News h₀ env.locals h news₁ → Q .next { s with heap := h, toks := tk }) :
    wpAny (model prog w) A (pyIter (.ref l)) (fun it s₂ => LoopAtV prog w A h₀ env x body Q E it s₂) E s := by
  obtain ⟨ol, hol, _⟩ := id hls
  have hlt : l < s.heap.objs.size := Heap.lt_size hol
  have hne : l ≠ s.heap.objs.size := Nat.ne_of_lt hlt
  refine wpAny_pyIter_list hls ?_
  have W := Walks.list (prog := prog) (w := w) hh s.heap.objs.size l hne vs.toArray
  have hlen : vs.toArray.size = vs.length := by simp
  rw [hlen] at W
  let J' : Nat → (Str → Option Value) → List (Addr × Obj) → Prop := fun i m₁ news₁ => news₁.map (·.1) = news.map (·.1) ∧ J i m₁ news₁
  refine ⟨_, _, _, vs.length, _, _, m₀, news, J', rfl, W, ?_, ?_, ?_, ⟨⟨_, Heap.get?_push_size _ rfl, rfl, rfl⟩, hls.at fun o e => Heap.get?_push_of_some _ e⟩, F.push _, (fun p hp => ⟨Heap.get?_push_of_some _ (N p hp).1, (N p hp).2⟩), ⟨rfl, hj⟩, ?_, ?_⟩
  · intro hm
    rcases List.mem_cons.mp hm with e | hm
    · exact absurd F.ns.lt (e ▸ Nat.lt_irrefl _)
    · exact hlL (List.mem_singleton.mp hm).symm
  · intro b hb
    rw [List.mem_singleton.mp hb]
    exact next_is_new F
  · intro p hp hI
    exact absurd (Heap.lt_size (N p hp).1) ((List.mem_singleton.mp hI) ▸ Nat.lt_irrefl _)
  · rintro i v m₁ news₁ s₁ own ⟨hh', tk', rfl⟩ hin hP ⟨hadr, hJ⟩ hoff hown _ _ _ F₁ N₁
    have hsep : OwnOff own (news.map (·.1)) := by
      intro p hp b hb e
      obtain ⟨q, hq, rfl⟩ := List.mem_map.mp hb
      rcases List.mem_cons.mp (hown p hp) with h1 | h1
      · exact absurd (Heap.lt_size (N q hq).1) (by rw [← e, h1]; exact Nat.lt_irrefl _)
      · have h2 := List.mem_singleton.mp h1
        exact hln q hq (e.symm.trans h2)
    have N₂ : News h₀ env.locals hh' (news₁ ++ own) := fun p hp => N₁ p ((List.mem_append.mp hp).elim (fun h => List.mem_append.mpr (.inr h)) fun h => List.mem_append.mpr (.inl h))
    refine wpAny_mono (turn i v m₁ news₁ hh' tk' own (by simpa using hP) hadr hsep hJ F₁ N₂) (fun f s₂ p => ?_) fun _ _ e => e
    have fin : InvEndN h₀ env.locals (J (i + 1)) own (news.map (·.1)) { s with heap := hh', toks := tk' } s₂ → LoopStepU h₀ env.locals [s.heap.objs.size] own (J' (i + 1)) { s with heap := hh', toks := tk' } .next s₂ := by
      rintro ⟨h', tk, m', news', nx, e, F', N', hn, ho, ha, hm⟩
      refine ⟨rfl, h', tk, m', nx, e, F', fun p hp => N' p ((List.mem_append.mp hp).elim (ho p) (hn p)), fun p hp hq => ?_, ha, hm⟩
      have h1 : p.1 ∈ nx.map (·.1) := List.mem_map.mpr ⟨p, hp, rfl⟩
      rw [ha, ← hadr] at h1
      obtain ⟨q, hq1, hq2⟩ := List.mem_map.mp h1
      exact hoff q hq1 (by rw [hq2]; exact hq)
    cases f with
    | ret v => exact .ret p
    | brk => exact .brk p
    | next => exact .next (fin p)
    | cont => exact .cont (fin p)
  · rintro h' tk m' news' F' N' _ ⟨_, hJ⟩
    exact done m' news' h' tk hJ F' N'
end
def TurnEnd (h₀ : Heap) (L l' : Addr) (J : (Str → Option Value) → Obj → Prop) (own : List (Addr × Obj)) (s₁ : Shared) (Q : Flow → Shared → Prop) (f : Flow) (s₂ : Shared) : Prop :=
  match f with
  | .ret v => Q (.ret v) s₂
  | .brk => Q .next s₂
  | _ => ∃ h' tk m' o' news', s₂ = { s₁ with heap := h', toks := tk } ∧ Fr h₀ L h' m' ∧ News h₀ L h' news' ∧ (l', o') ∈ news' ∧ (∀ p ∈ own, p ∈ news') ∧ J m' o'
section
variable {prog : Program} {w : World} {A : Around} {E : Value → Shared → Prop} {s : Shared} {env : Env} {h₀ : Heap} {x : Str} {body : List Stmt} {Q : Flow → Shared → Prop}
/-- a for over a list, that turns one object (the ledger's first) -/
theorem iter_one {l l' : Addr} {o' : Obj} {vs : List Value} {m₀ : Str → Option Value} {rest : List (Addr × Obj)} (J : Nat → (Str → Option Value) → Obj → Prop)
    (hh : A.handled = none) (hls : s.heap.IsList l vs.toArray) (hlL : l ≠ env.locals) (hne : l' ≠ l) (F : Fr h₀ env.locals s.heap m₀) (N : News h₀ env.locals s.heap ((l', o') :: rest)) (hj : J 0 m₀ o')
    (turn : ∀ i v m₁ o₁ h tk own, vs[i]? = some v → OwnOff own [l'] → J i m₁ o₁ → Fr h₀ env.locals h (fun y => if y = x then some v else m₁ y) → News h₀ env.locals h ((l', o₁) :: own) →
      wpAny (model prog w) A (execs body env) (TurnEnd h₀ env.locals l' (J (i + 1)) own { s with heap := h, toks := tk } Q) E { s with heap := h, toks := tk })
    (done : ∀ m₁ o₁ h tk, J vs.length m₁ o₁ → Fr h₀ env.locals h m₁ → News h₀ env.locals h [(l', o₁)] → Q .next { s with heap := h, toks := tk }) :
    wpAny (model prog w) A (pyIter (.ref l)) (fun it s₂ => LoopAtV prog w A h₀ env x body Q E it s₂) E s := by
  refine iter_invL (news := [(l', o')]) (fun i m nx => ∃ o, nx = [(l', o)] ∧ J i m o) hh hls hlL (fun p hp => by rw [List.mem_singleton.mp hp]; exact hne) F (fun p hp => N p (by rw [List.mem_singleton.mp hp]; exact .head _)) ⟨o', rfl, hj⟩ ?_ ?_
  · rintro i v m₁ nx h tk own hv hadr hoff ⟨o, rfl, hJ⟩ F₁ N₁
    refine wpAny_mono (turn i v m₁ o h tk own hv hoff hJ F₁ N₁) (fun f s₂ p => ?_) fun _ _ e => e
    have fin : (∃ h' tk' m' o' news', s₂ = { ({ s with heap := h, toks := tk } : Shared) with heap := h', toks := tk' } ∧ Fr h₀ env.locals h' m' ∧ News h₀ env.locals h' news' ∧ (l', o') ∈ news' ∧ (∀ p ∈ own, p ∈ news') ∧ J (i + 1) m' o') →
        InvEndN h₀ env.locals (fun m nx => ∃ o, nx = [(l', o)] ∧ J (i + 1) m o) own [l'] { s with heap := h, toks := tk } s₂ := by
      rintro ⟨h', tk', m', o₂, news', e, F', N', hm, ho, hJ'⟩
      exact ⟨h', tk', m', news', [(l', o₂)], e, F', N', fun p hp => by rw [List.mem_singleton.mp hp]; exact hm, ho, rfl, o₂, rfl, hJ'⟩
    cases f with
    | ret v => exact p
    | brk => exact p
    | next => exact fin p
    | cont => exact fin p
  · rintro m₁ nx h tk ⟨o, rfl, hJ⟩ F₁ N₁
    exact done m₁ o h tk hJ F₁ N₁
theorem TurnEnd.next {h₀ h' : Heap} {L l' : Addr} {o' : Obj} {J : (Str → Option Value) → Obj → Prop} {own : List (Addr × Obj)} {s₁ : Shared} {Q : Flow → Shared → Prop} {m' : Str → Option Value} {tk : Nat}
    (F : Fr h₀ L h' m') (N : News h₀ L h' ((l', o') :: own)) (hj : J m' o') : TurnEnd h₀ L l' J own s₁ Q .next { s₁ with heap := h', toks := tk } := ⟨h', tk, m', o', _, rfl, F, N, .head _, fun _ hp => .tail _ hp, hj⟩
theorem TurnEnd.cont {h₀ h' : Heap} {L l' : Addr} {o' : Obj} {J : (Str → Option Value) → Obj → Prop} {own : List (Addr × Obj)} {s₁ : Shared} {Q : Flow → Shared → Prop} {m' : Str → Option Value} {tk : Nat}
    (F : Fr h₀ L h' m') (N : News h₀ L h' ((l', o') :: own)) (hj : J m' o') : TurnEnd h₀ L l' J own s₁ Q .cont { s₁ with heap := h', toks := tk } := ⟨h', tk, m', o', _, rfl, F, N, .head _, fun _ hp => .tail _ hp, hj⟩
end
end
section
theorem sv_len (k : List (Str × Tok)) : (strValues k).length = k.length := by simp [strValues]
theorem sv_ne {k : List (Str × Tok)} (h : (strValues k).isEmpty = false) : k ≠ [] := by rintro rfl; cases h
theorem kl_last_snoc : ∀ (p : List Value) (y : Value), kl_last (p ++ [y]) = some (p, y)
  | [], _ => rfl
  | x :: p, y => by
    show (match kl_last (p ++ [y]) with | some (q, z) => some (x :: q, z) | none => some ([], x)) = some (x :: p, y)
    rw [kl_last_snoc p y]
theorem sv_last {k : List (Str × Tok)} (h : k ≠ []) : strValues k = strValues k.dropLast ++ [.str (k.getLast h).1 (k.getLast h).2] := by
  conv => lhs; rw [← List.dropLast_concat_getLast h]
  simp [strValues]
section
variable {prog : Program} {w : World} {A : Around} {E : Value → Shared → Prop} {s : Shared} {h₀ : Heap} {L D : Addr} {m : Str → Option Value} {news news' : List (Addr × Obj)} {n : Nat}
theorem pop_strs {k : List (Str × Tok)} {Q : Value → Shared → Prop} (F : Fr h₀ L s.heap m) (N : News h₀ L s.heap news) (hk : (strValues k).isEmpty = false) (U : Upd D (listOf (strValues k).toArray n) (listOf (strValues k.dropLast).toArray (n + 1)) news news')
    (hz : k.length ≤ 100000) (h : ∀ h' y t, Fr h₀ L h' m → News h₀ L h' news' → Q (.str y t) { s with heap := h' }) : wpAny (model prog w) A (call (.builtin "list.pop") [.ref D]) Q E s := by
  refine kl_pop F N (p := strValues k.dropLast) (y := .str (k.getLast (sv_ne hk)).1 (k.getLast (sv_ne hk)).2) ?_ U ?_ fun h' F' N' => h h' _ _ F' N'
  · rw [List.toList_toArray, sv_last (sv_ne hk)]; exact kl_last_snoc _ _
  · rw [List.toList_toArray, sv_len, sizeLine_eq]; omega
theorem last_str {k : List (Str × Tok)} {value slice : Expr} {l : Addr} {u : Tok} {Q : Value → Shared → Prop} (hl : s.heap.IsList l (strValues k).toArray) (hk : (strValues k).isEmpty = false) (hz : k.length ≤ 100000)
    (h : ∀ y t, (k.map (·.1)).getLast? = some y → Q (.str y t) s)
    (hs : subscripted slice false (.ref l) (.int (-1) u) = operate [.ref l, .int (-1) u] (getItem (.ref l) (.int (-1) u)) := by with_unfolding_all rfl) (hg : ∀ r, letTemporaryGo value (.ref l) r = pure () := by intro _; with_unfolding_all rfl) :
    wpAny (model prog w) A (subscriptTail value slice (.ref l) (.int (-1) u)) Q E s := by
  have hne := sv_ne hk
  have hpos : 0 < k.length := List.length_pos_iff.mpr hne
  refine tail_any hl.typeIs slot_list_getitem.lookup (wpAny_getItem_list_neg hl (by decide) (by simp [sv_len]; omega) (by decide) (x := .str (k.getLast hne).1 (k.getLast hne).2) ?_ (h _ _ ?_)) hs
  · have e : ((-1 : Int) + ((strValues k).toArray.size : Int)).toNat = k.length - 1 := by
      rw [List.size_toArray, sv_len]; omega
    rw [e]
    simp only [strValues, List.getElem?_toArray, List.getElem?_map]
    rw [← List.getLast?_eq_getElem?, List.getLast?_eq_some_getLast hne]
    rfl
  · rw [List.getLast?_map, List.getLast?_eq_some_getLast hne]; rfl
end
theorem sv_are : ∀ k : List (Str × Tok), StrsAre (strValues k) (k.map (·.1))
  | [] => .nil
  | p :: r => .cons p.1 p.2 (sv_are r)
theorem sum_le {b : Nat} : ∀ {ys : List Str}, (∀ y ∈ ys, y.length ≤ b) → (ys.map (·.length)).sum ≤ ys.length * b
  | [], _ => Nat.zero_le _
  | y :: r, h => by
    have h1 := h y (.head _)
    have h2 := sum_le (ys := r) fun z hz => h z (.tail _ hz)
    simp only [List.map_cons, List.sum_cons, List.length_cons, Nat.succ_mul]
    omega
theorem hok_of {ys : List Str} {sep : Str} (h : ∀ y ∈ ys, y.length ≤ 2000) (hn : ys.length ≤ 5000) (hs : sep.length ≤ 10) : (ys.map (·.length)).sum + ys.length * sep.length ≤ 10050000 := by
  have h1 := sum_le h
  have h2 : ys.length * 2000 ≤ 5000 * 2000 := Nat.mul_le_mul_right _ hn
  have h3 : ys.length * sep.length ≤ 5000 * 10 := Nat.mul_le_mul hn hs
  omega
theorem join_le {ys : List Str} {sep : Str} : (Txt.join sep ys).length ≤ (ys.map (·.length)).sum + ys.length * sep.length := by
  show (PySem.Builtin.Str.glued sep ys).length ≤ _
  rw [StrLaws.glued_eq_join]
  exact StrLaws.join_length_le sep ys
theorem pick_to (vs : List Value) (i : Nat) : slicePick vs.toArray none (some (i : Int)) none = (vs.take i).toArray := slicePick_upto' vs.toArray i
theorem pick_from (vs : List Value) (i : Nat) : slicePick vs.toArray (some (i : Int)) none none = (vs.drop i).toArray := slicePick_from' vs.toArray i
theorem pick_but (vs : List Value) : slicePick vs.toArray none (some (-1)) none = vs.dropLast.toArray := by
  have h := slicePick_butLast vs.toArray 1 (Nat.le_refl _)
  rw [List.dropLast_eq_take]
  simpa using h
theorem slice_any {prog : Program} {w : World} {A : Around} {E : Value → Shared → Prop} {s : Shared} {h₀ : Heap} {L : Addr} {m : Str → Option Value} {news : List (Addr × Obj)} {value slice : Expr} {l : Addr} {vs us : List Value} {vl vu : Value} {lo hi : Option Int} {Q : Value → Shared → Prop}
    (F : Fr h₀ L s.heap m) (N : News h₀ L s.heap news) (hl : s.heap.IsList l vs.toArray) (pl : IsPart vl lo) (pu : IsPart vu hi) (e : slicePick vs.toArray lo hi none = us.toArray)
    (h : ∀ h' a, Fr h₀ L h' m → News h₀ L h' ((a, listOf us.toArray 0) :: news) → (∀ p ∈ news, p.1 < a) → Q (.ref a) { s with heap := h' })
    (hs : subscripted slice false (.ref l) (.ref s.heap.objs.size) = operate [.ref s.heap.objs.size, .ref l] (getItem (.ref l) (.ref s.heap.objs.size)))
    (ht : ∀ r, letTemporaryGo value (.ref l) r = pure ()) (hz : vs.length ≤ 100000) :
    wpAny (model prog w) A (subscriptTail value slice (.ref l) (.ref s.heap.objs.size)) Q E { s with heap := s.heap.push { cls := .type "slice", data := .fields #[vl, vu, .none] } } :=
  slice_list F N hl pl pu (fun h' F' N' => h h' _ F' (by rw [← e]; exact N') fun p hp => Nat.lt_succ_of_lt (Heap.lt_size (N p hp).1)) hs ht (by rw [List.size_toArray, sizeLine_eq]; omega)
theorem len_sl : (Str.ofString "/").length = 1 := by decide +kernel
theorem len_dot : (Str.ofString ".").length = 1 := by decide +kernel
theorem len_nil : (Str.ofString "").length = 0 := by decide +kernel
def LRes (g : Heap) (L : Addr) (m : Str → Option Value) (news : List (Addr × Obj)) (ns : List Str) (s₁ : Shared) (v : Value) (s' : Shared) : Prop :=
  ∃ h' a k tk' c, v = .ref a ∧ s' = { s₁ with heap := h', toks := tk' } ∧ Fr g L h' m ∧ News g L h' ((a, listOf (strValues k).toArray c) :: news) ∧ k.map (·.1) = ns
/-- an expression that hands back a new list of texts on every way: one way behind it -/
theorem cut_list {prog : Program} {w : World} {A : Around} {E : Value → Shared → Prop} {s : Shared} {g : Heap} {L : Addr} {m : Str → Option Value} {news : List (Addr × Obj)} {tree : Sem Value} {Q : Value → Shared → Prop} (ns : List Str)
    (F : Fr g L s.heap m) (N : News g L s.heap news) (h1 : wpAny (model prog w) A tree (LRes g L m news ns s) E s)
    (h2 : ∀ h' a k tk' c, Fr g L h' m → News g L h' ((a, listOf (strValues k).toArray c) :: news) → k.map (·.1) = ns → Q (.ref a) { s with heap := h', toks := tk' }) : wpAny (model prog w) A tree Q E s :=
  let _ := F; let _ := N
  wpAny_mono h1 (fun _ _ ⟨h', a, k, tk', c, e1, e2, F', N', e3⟩ => by subst e1 e2; exact h2 h' a k tk' c F' N' e3) fun _ _ e => e
local macro_rules | `(tactic| walk_at "mine_go_if") => `(tactic| repeat' ((fail_if_success (with_reducible show wpAny _ _ (eval (Expr.IfExp _ _ _ _) _) _ _ _)); (first | (k_unfold; (try dsimp only)) | walk1 | (dsimp only; walk1))))
local macro_rules | `(tactic| walk_at "mine_pick") => `(tactic| first | exact pick_to _ _ | exact pick_from _ _ | exact pick_but _)
local macro_rules | `(tactic| walk_at "subscriptTail Name Slice ref ref") => `(tactic| (k_here; k_dflt (refine' slice_any ?F ?N ?hl ?p ?q ?e ?_ ?hs ?ht ?hz; (case F => k_asm); (case N => k_asm); (case hl => walk_at "mine_list"); (case p => first | exact IsPart.none | exact IsPart.int _ _); (case q => first | exact IsPart.none | exact IsPart.int _ _); (case hs => with_unfolding_all rfl); (case ht => (intro _; with_unfolding_all rfl)); (case e => walk_at "mine_pick"); (case hz => walk_at "mine_fit"); k_whole); intro h' a' F' N' l'; (try k_lt l'); (try k_sweep)))
local macro_rules | `(tactic| walk_at "mine_size") => `(tactic| ((try rw [sizeLine_eq]); (try simp only [Str.length_append, len_sl, len_dot, len_nil]); omega))
local macro_rules | `(tactic| walk_at "binaryOp Add str str") => `(tactic| (k_here; (with_reducible show wpAny _ _ (binaryOp Operator.Add (Value.str _ _) (Value.str _ _)) _ _ _); k_dflt (refine' PyProof.Rows.add_str (hsz := ?hsz) ?_; (case hsz => walk_at "mine_size"); k_whole); intro t' k'))
local macro_rules | `(tactic| walk_at "inplaceOp Add str str") => `(tactic| (k_here; (with_reducible show wpAny _ _ (inplaceOp Operator.Add (Value.str _ _) (Value.str _ _)) _ _ _); k_dflt (refine' PyProof.Rows.iadd_str (hsz := ?hsz) ?_; (case hsz => walk_at "mine_size"); k_whole); intro t' k'))
local macro_rules | `(tactic| walk_at "mine_strs") => `(tactic| first | assumption | exact sv_are _)
local macro_rules | `(tactic| walk_at "call builtin:str.join") => `(tactic| (k_here; (with_reducible show wpAny _ _ (call (Value.builtin "str.join") [Value.str _ _, Value.ref _]) _ _ _); k_dflt (refine' join_list ?hl ?hi ?hok ?_; (case hl => walk_at "mine_list"); (case hi => walk_at "mine_strs"); (case hok => exact Nat.le_trans (by assumption) (by decide : 10050000 ≤ 16777216)); k_whole); intro t' k'))
local macro_rules | `(tactic| walk_at "mine_fit") => `(tactic| ((try simp only [List.size_toArray, sv_len, List.length_map, List.length_append, List.length_cons, List.length_nil, Array.size_push]); omega))
local macro_rules | `(tactic| walk_at "mine_list") => `(tactic| first | (with_reducible assumption) | exact News.isList (by k_asm) (by k_mem) | exact Fr.lst (by k_asm) (by assumption))
local macro_rules | `(tactic| walk_at "truthy ref") => `(tactic| (k_here; (with_reducible show wpAny _ _ (truthy (Value.ref _)) _ _ _); k_dflt (refine' wpAny_truthy_list (items := (List.toArray _)) ?hl ?hf ?_; (case hl => walk_at "mine_list"); (case hf => walk_at "mine_fit"); k_whole); (try simp only [List.isEmpty_toArray, List.isEmpty_cons, List.isEmpty_nil, Bool.not_false, Bool.not_true])))
local macro_rules | `(tactic| walk_at "subscriptTail Name UnaryOp ref int") => `(tactic| (k_here; k_dflt (refine' last_str ?hl ?hk ?hz ?_; (case hl => walk_at "mine_list"); (case hk => assumption); (case hz => walk_at "mine_fit"); k_whole); intro y' t' hy'))
local macro_rules | `(tactic| walk_at "call builtin:list.pop") => `(tactic| (k_here; k_dflt (refine' pop_strs ?F ?N ?hk ?U ?hz ?_; (case F => k_asm); (case N => k_asm); (case U => k_upd); (case hk => assumption); (case hz => walk_at "mine_fit"); k_whole); intro h' y' t' F' N'; (try k_sweep)))
end
section
local macro_rules | `(tactic| walk_at "call ref") => `(tactic| (k_here; k_dflt (refine' wpAny_call (c_fspath ?X ?T ?r ?_); walk_at "mine_xtr"; k_whole); intro h' tk' st'; walk_at "mine_post"))
local macro_rules | `(tactic| walk_at "call ref") => `(tactic| (k_here; k_dflt (refine' wpAny_call (c_get_sep ?X ?T ?r ?_); walk_at "mine_xtr"; k_whole); intro h' tk tk' st'; walk_at "mine_post"))
section
local macro_rules | `(tactic| walk_at "mine_pad") => `(tactic| skip)
def baseS (x : Str) : Str := Txt.slice x (some (Txt.rfind x (Str.ofString "/") + 1)) none
def headS (x : Str) : Str := Txt.slice x none (some (Txt.rfind x (Str.ofString "/") + 1))
def dirS (x : Str) : Str := if ((headS x).length : Int) ≠ 0 ∧ (headS x != Txt.mul (Str.ofString "/") ((headS x).length : Int)) = true then Txt.rstripChars (headS x) (Str.ofString "/") else headS x
theorem c_basename {prog : Program} {w : World} {dp un : Nat} {fr : Option (List Env)} {gd : Option (List Code)} {R : Result → Shared → Prop} {s : Shared} {mean : ExcName → Option Value} {mg mb : Str → Option Value} {x : Str} {t : Tok}
    (X : (tp.heap_39 w.params).In s.heap) (T : Top tp.view_39 [Str.ofString "relpath"] mean mg mb s.heap) (r : Rm dp un 2) (hx : x.length ≤ 4000)
    (h : ∀ h' tk tk', s.heap.StaysIn h' → R (.ok (.ret (.str (baseS x) tk))) { s with heap := h', toks := tk' }) :
    codeAny (model prog w) (AA dp un fr gd) (.call (.ref 160) ⟨[.str x t], []⟩) R s := by
  refine' enter [(Str.ofString "p", .str x t)] X T ?k6 ?k7 ?k8 ?k9 ?kB ?_ ?c2 ?c3 ?c4 ?c5
  walk_at "mine_in"
  walk_at "mine_go"
  exact h _ _ _ (Fr.keep (by assumption))
theorem d_dirname {prog : Program} {w : World} {dp un : Nat} {fr : Option (List Env)} {gd : Option (List Code)} {R : Result → Shared → Prop} {s : Shared} {mean : ExcName → Option Value} {mg mb : Str → Option Value} {x : Str} {t : Tok}
    (X : (tp.heap_39 w.params).In s.heap) (T : Top tp.view_39 [Str.ofString "relpath"] mean mg mb s.heap) (r : Rm dp un 2) (hx : x.length ≤ 4000)
    (h : ∀ h' y tk tk', y = dirS x → s.heap.StaysIn h' → R (.ok (.ret (.str y tk))) { s with heap := h', toks := tk' }) :
    codeAny (model prog w) (AA dp un fr gd) (.call (.ref 167) ⟨[.str x t], []⟩) R s := by
  refine' enter [(Str.ofString "p", .str x t)] X T ?k6 ?k7 ?k8 ?k9 ?kB ?_ ?c2 ?c3 ?c4 ?c5
  walk_at "mine_in"
  walk_at "mine_go"
  all_goals (refine h _ _ _ _ ?_ (Fr.keep (by assumption)))
  · exact (if_pos (c := ((headS x).length : Int) ≠ 0 ∧ (headS x != Txt.mul (Str.ofString "/") ((headS x).length : Int)) = true) ⟨by assumption, by assumption⟩).symm
  · have e : (headS x != Txt.mul (Str.ofString "/") ((headS x).length : Int)) = false := by assumption
    exact (if_neg fun q => Bool.false_ne_true (e.symm.trans q.2)).symm
  · have e : ((headS x).length : Int) = 0 := by assumption
    exact (if_neg fun q => q.1 e).symm
theorem c_dirname {prog : Program} {w : World} {dp un : Nat} {fr : Option (List Env)} {gd : Option (List Code)} {R : Result → Shared → Prop} {s : Shared} {mean : ExcName → Option Value} {mg mb : Str → Option Value} {x : Str} {t : Tok}
    (X : (tp.heap_39 w.params).In s.heap) (T : Top tp.view_39 [Str.ofString "relpath"] mean mg mb s.heap) (r : Rm dp un 2) (hx : x.length ≤ 4000)
    (h : ∀ h' tk tk', s.heap.StaysIn h' → R (.ok (.ret (.str (dirS x) tk))) { s with heap := h', toks := tk' }) :
    codeAny (model prog w) (AA dp un fr gd) (.call (.ref 167) ⟨[.str x t], []⟩) R s := d_dirname X T r hx fun h' _ tk tk' e st => e ▸ h h' tk tk' st
theorem c_splitroot {prog : Program} {w : World} {dp un : Nat} {fr : Option (List Env)} {gd : Option (List Code)} {R : Result → Shared → Prop} {s : Shared} {mean : ExcName → Option Value} {mg mb : Str → Option Value} {x : Str} {t : Tok}
    (X : (tp.heap_39 w.params).In s.heap) (T : Top tp.view_39 [Str.ofString "relpath"] mean mg mb s.heap) (r : Rm dp un 2) (hx : x.length ≤ 4000)
    (h1 : Txt.slice x none (some 1) = Str.ofString "/") (h2 : Txt.slice x (some 1) (some 2) ≠ Str.ofString "/")
    (h : ∀ h' D t1 t2 t3 tk', s.heap.StaysIn h' → h'.get? D = some ({ cls := .type "tuple", data := .seq #[.str (Str.ofString "") t1, .str (Str.ofString "/") t2, .str (Txt.slice x (some 1) none) t3] } : Obj) → s.heap.get? D = none →
      R (.ok (.ret (.ref D))) { s with heap := h', toks := tk' }) :
    codeAny (model prog w) (AA dp un fr gd) (.call (.ref 153) ⟨[.str x t], []⟩) R s := by
  refine' enter [(Str.ofString "p", .str x t)] X T ?k6 ?k7 ?k8 ?k9 ?kB ?_ ?c2 ?c3 ?c4 ?c5
  walk_at "mine_in"
  walk_at "mine_go"
  · exfalso; simp_all
  · rename News _ _ _ _ => N
    exact h _ _ _ _ _ _ (Fr.keep (by assumption)) (N _ (.head _)).1 (N _ (.head _)).2.2
  · exfalso; simp_all
  · exfalso; simp_all
local macro_rules | `(tactic| walk_at "call ref") => `(tactic| (k_here; k_dflt (refine' wpAny_call (c_basename ?X ?T ?r ?l ?_); walk_at "mine_xtr"; (case l => walk_at "mine_len"); k_whole); intro h' tk tk' st'; walk_at "mine_post"))
local macro_rules | `(tactic| walk_at "call ref") => `(tactic| (k_here; k_dflt (refine' wpAny_call (c_dirname ?X ?T ?r ?l ?_); walk_at "mine_xtr"; (case l => walk_at "mine_len"); k_whole); intro h' tk tk' st'; walk_at "mine_post"))
local macro_rules | `(tactic| walk_at "call ref") => `(tactic| (k_here; k_dflt (refine' wpAny_call (c_splitroot ?X ?T ?r ?l ?h1 ?h2 ?_); walk_at "mine_xtr"; (case l => walk_at "mine_len"); (case h1 => assumption); (case h2 => assumption); k_whole); intro h' D' t1 t2 t3 tk' st' hD' hn'; (have N' := news_new (by assumption) (by assumption) st' hD' hn'); (have F' := fr_stays (by assumption) st'); (try clear st' hD' hn'); (try k_sweep); (try dsimp only)))
end
section
section
open PySem.Spec
open PySem.AutoSeq1 (wpAny_loadPart')
open PySem.MeetsSeq PySem.MeetsSeq2 PySem.MeetsSeq3 PySem.SeqRoads2
def ltS (a b : Str) : Bool := decide (a.cps.toList < b.cps.toList)
def lexLt : List Str → List Str → Bool
  | [], [] => false
  | [], _ :: _ => true
  | _ :: _, [] => false
  | x :: xs, y :: ys => if x == y then lexLt xs ys else ltS x y
theorem sv_at {k : List (Str × Tok)} {i : Nat} {x : Str} {t : Tok} (h : k[i]? = some (x, t)) : (strValues k).toArray[((i : Nat) : Int).toNat]? = some (.str x t) := by
  simp only [strValues, Int.toNat_natCast, List.getElem?_toArray, List.getElem?_map, h]; rfl
theorem sv_at_none {k : List (Str × Tok)} {i : Nat} (h : k[((i : Nat) : Int).toNat]? = none) : (strValues k).toArray[((i : Nat) : Int).toNat]? = none := by
  simp only [strValues, List.getElem?_toArray, List.getElem?_map, h]; rfl
theorem lex_loop_Lt (l b : Addr) (ka kb : List (Str × Tok)) (n n2 : Nat) (dd dd2 : Option Addr) (sl sl2 : Array (Option Value)) (k : Nat) :
    ∀ i : Nat, ka.length - i = k → i ≤ ka.length → i ≤ kb.length → Meets (Builtin.«list.__eq__.loop» ⟨[.ref l, .ref b, rawInt i, rawInt 0], []⟩)
      (fun _ R s => s.heap.get? l = some { cls := .type "list", dict := dd, data := .seq (strValues ka).toArray n, slots := sl } ∧ s.heap.get? b = some { cls := .type "list", dict := dd2, data := .seq (strValues kb).toArray n2, slots := sl2 } ∧
        R (.ok (.ret (.bool (lexLt ((ka.map (·.1)).drop i) ((kb.map (·.1)).drop i))))) s) := by
  induction k with
  | zero =>
    intro i hk hi1 hi2 prog w A R s h
    obtain ⟨hp, g, d, tk, os⟩ := s; obtain ⟨hl, hb, h⟩ := h
    wp_walk using wpAny_loadPart' hl, wpAny_loadPart' hb
    rw [sv_at_none (show ka[((i : Nat) : Int).toNat]? = none by simp; omega)]
    have e : lexLt ((ka.map (·.1)).drop i) ((kb.map (·.1)).drop i) = decide ((strValues ka).toArray.size < (strValues kb).toArray.size) := by
      rw [List.size_toArray, List.size_toArray, sv_len, sv_len, show (ka.map (·.1)).drop i = [] by simp; omega]
      cases hd : (kb.map (·.1)).drop i with
      | nil => have := congrArg List.length hd; simp at this; simp [lexLt]; omega
      | cons y r => have := congrArg List.length hd; simp at this; simp [lexLt]; omega
    rw [e] at h
    cases (strValues kb).toArray[((i : Nat) : Int).toNat]? with
    | none => wp_walk using wpAny_loadPart' hl, wpAny_loadPart' hb; exact h
    | some v => wp_walk using wpAny_loadPart' hl, wpAny_loadPart' hb; exact h
  | succ k ih =>
    intro i hk hi1 hi2 prog w A R s h
    obtain ⟨hp, g, d, tk, os⟩ := s; obtain ⟨hl, hb, h⟩ := h
    have hlt : i < ka.length := by omega
    obtain ⟨⟨x, tx⟩, hpx⟩ : ∃ p, ka[i] = p := ⟨_, rfl⟩
    have hxi : (strValues ka).toArray[((i : Nat) : Int).toNat]? = some (.str x tx) := sv_at (by simp [hlt, hpx])
    have hda : (ka.map (·.1)).drop i = x :: (ka.map (·.1)).drop (i + 1) := by
      rw [List.drop_eq_getElem_cons (by simpa using hlt)]; simp [hpx]
    wp_walk using wpAny_loadPart' hl, wpAny_loadPart' hb
    rw [hxi]
    by_cases hlt2 : i < kb.length
    · obtain ⟨⟨y, ty⟩, hpy⟩ : ∃ p, kb[i] = p := ⟨_, rfl⟩
      have hyi : (strValues kb).toArray[((i : Nat) : Int).toNat]? = some (.str y ty) := sv_at (by simp [hlt2, hpy])
      have hdb : (kb.map (·.1)).drop i = y :: (kb.map (·.1)).drop (i + 1) := by
        rw [List.drop_eq_getElem_cons (by simpa using hlt2)]; simp [hpy]
      have hc : ((i : Int) + 1) = ((i + 1 : Nat) : Int) := by push_cast; rfl
      rw [hyi]
      rw [hda, hdb, lexLt] at h
      refine wpAny_bind (SeqAt.EqAt.str_str x tx y ty prog w _ _ ?_)
      cases hxy : x == y with
      | true =>
        rw [if_pos hxy] at h
        wp_walk
        rw [hc]
        exact ⟨plainId_quiet plain_eq_loop _, codeAny_builtin entry_eq_loop (by
          rw [Around.under_plainId plain_eq_loop _]
          exact ih (i + 1) (by omega) (by omega) (by omega) prog w A R _ ⟨hl, hb, h⟩)⟩
      | false =>
        rw [if_neg (by rw [hxy]; exact Bool.false_ne_true)] at h
        wp_walk using wpAny_loadPart' hl, wpAny_loadPart' hb
        rw [hxi, hyi]
        refine wpAny_bind (show wpAny _ _ (compareOp .Lt (.str x tx) (.str y ty)) _ _ _ from P.lt_str (show wpAny _ _ (ret (.bool _)) _ _ _ from wpAny_pure ?_))
        exact h
    · have hyi : (strValues kb).toArray[((i : Nat) : Int).toNat]? = none := sv_at_none (by simp; omega)
      have hdb : (kb.map (·.1)).drop i = [] := by simp; omega
      rw [hyi]
      have e : lexLt ((ka.map (·.1)).drop i) ((kb.map (·.1)).drop i) = decide ((strValues ka).toArray.size < (strValues kb).toArray.size) := by
        rw [List.size_toArray, List.size_toArray, sv_len, sv_len, hda, hdb]
        simp [lexLt]; omega
      rw [e] at h
      wp_walk using wpAny_loadPart' hl, wpAny_loadPart' hb
      exact h
theorem list_Lt (l b : Addr) (ka kb : List (Str × Tok)) (n n2 : Nat) (dd dd2 : Option Addr) (sl sl2 : Array (Option Value)) :
    Meets (Builtin.«list.__lt__» ⟨[.ref l, .ref b], []⟩)
      (fun _ R s => s.heap.get? l = some { cls := .type "list", dict := dd, data := .seq (strValues ka).toArray n, slots := sl } ∧ s.heap.get? b = some { cls := .type "list", dict := dd2, data := .seq (strValues kb).toArray n2, slots := sl2 } ∧
        R (.ok (.ret (.bool (lexLt ((ka.map (·.1))) ((kb.map (·.1))))))) s) := by
  intro prog w A R s h
  obtain ⟨hp, g, d, tk, os⟩ := s; obtain ⟨hl, hb, h⟩ := h
  have f3 := AutoSeq1.sub_list_list
  wp_walk using wpAny_loadPart' hl, wpAny_loadPart' hb
  exact ⟨plainId_quiet plain_eq_loop _, codeAny_builtin entry_eq_loop (by
    rw [Around.under_plainId plain_eq_loop _]
    exact lex_loop_Lt l b ka kb n n2 dd dd2 sl sl2 _ 0 rfl (Nat.zero_le _) (Nat.zero_le _) prog w A R _ ⟨hl, hb, h⟩)⟩
theorem rc_Lt {prog : Program} {w : World} {A : Around} {E : Value → Shared → Prop} {s : Shared} {l b : Addr} {ka kb : List (Str × Tok)} {Q : Value → Shared → Prop} (hl : s.heap.IsList l (strValues ka).toArray) (hb : s.heap.IsList b (strValues kb).toArray) (hu : A.units < cLine)
    (h : Q (.bool (lexLt ((ka.map (·.1))) ((kb.map (·.1))))) s) : wpAny (model prog w) A (richCompare .Lt (.ref l) (.ref b)) Q E s := by
  obtain ⟨⟨cls, dd, data, sl⟩, ho, hc, n, hd⟩ := id hl
  obtain ⟨⟨cls2, dd2, data2, sl2⟩, ho2, hc2, n2, hd2⟩ := id hb
  simp only at hc hd hc2 hd2
  subst hc hd hc2 hd2
  exact richCompare_meets_room (op := .Lt) ⟨_, ho, rfl⟩ ⟨_, ho2, rfl⟩ F.slot_list_lt F.entry_list_lt (F.args_list_lt_2 _ _) (list_Lt l b ka kb n n2 dd dd2 sl sl2)
    ⟨ho, ho2, (fun x => nomatch x), h⟩ hu
theorem lex_loop_Gt (l b : Addr) (ka kb : List (Str × Tok)) (n n2 : Nat) (dd dd2 : Option Addr) (sl sl2 : Array (Option Value)) (k : Nat) :
    ∀ i : Nat, ka.length - i = k → i ≤ ka.length → i ≤ kb.length → Meets (Builtin.«list.__eq__.loop» ⟨[.ref l, .ref b, rawInt i, rawInt 4], []⟩)
      (fun _ R s => s.heap.get? l = some { cls := .type "list", dict := dd, data := .seq (strValues ka).toArray n, slots := sl } ∧ s.heap.get? b = some { cls := .type "list", dict := dd2, data := .seq (strValues kb).toArray n2, slots := sl2 } ∧
        R (.ok (.ret (.bool (lexLt ((kb.map (·.1)).drop i) ((ka.map (·.1)).drop i))))) s) := by
  induction k with
  | zero =>
    intro i hk hi1 hi2 prog w A R s h
    obtain ⟨hp, g, d, tk, os⟩ := s; obtain ⟨hl, hb, h⟩ := h
    wp_walk using wpAny_loadPart' hl, wpAny_loadPart' hb
    rw [sv_at_none (show ka[((i : Nat) : Int).toNat]? = none by simp; omega)]
    have e : lexLt ((kb.map (·.1)).drop i) ((ka.map (·.1)).drop i) = decide ((strValues ka).toArray.size > (strValues kb).toArray.size) := by
      rw [List.size_toArray, List.size_toArray, sv_len, sv_len, show (ka.map (·.1)).drop i = [] by simp; omega]
      cases hd : (kb.map (·.1)).drop i with
      | nil => have := congrArg List.length hd; simp at this; simp [lexLt]; omega
      | cons y r => have := congrArg List.length hd; simp at this; simp [lexLt]; omega
    rw [e] at h
    cases (strValues kb).toArray[((i : Nat) : Int).toNat]? with
    | none => wp_walk using wpAny_loadPart' hl, wpAny_loadPart' hb; exact h
    | some v => wp_walk using wpAny_loadPart' hl, wpAny_loadPart' hb; exact h
  | succ k ih =>
    intro i hk hi1 hi2 prog w A R s h
    obtain ⟨hp, g, d, tk, os⟩ := s; obtain ⟨hl, hb, h⟩ := h
    have hlt : i < ka.length := by omega
    obtain ⟨⟨x, tx⟩, hpx⟩ : ∃ p, ka[i] = p := ⟨_, rfl⟩
    have hxi : (strValues ka).toArray[((i : Nat) : Int).toNat]? = some (.str x tx) := sv_at (by simp [hlt, hpx])
    have hda : (ka.map (·.1)).drop i = x :: (ka.map (·.1)).drop (i + 1) := by
      rw [List.drop_eq_getElem_cons (by simpa using hlt)]; simp [hpx]
    wp_walk using wpAny_loadPart' hl, wpAny_loadPart' hb
    rw [hxi]
    by_cases hlt2 : i < kb.length
    · obtain ⟨⟨y, ty⟩, hpy⟩ : ∃ p, kb[i] = p := ⟨_, rfl⟩
      have hyi : (strValues kb).toArray[((i : Nat) : Int).toNat]? = some (.str y ty) := sv_at (by simp [hlt2, hpy])
      have hdb : (kb.map (·.1)).drop i = y :: (kb.map (·.1)).drop (i + 1) := by
        rw [List.drop_eq_getElem_cons (by simpa using hlt2)]; simp [hpy]
      have hc : ((i : Int) + 1) = ((i + 1 : Nat) : Int) := by push_cast; rfl
      rw [hyi]
      rw [hda, hdb, lexLt] at h
      refine wpAny_bind (SeqAt.EqAt.str_str x tx y ty prog w _ _ ?_)
      cases hxy : x == y with
      | true =>
        rw [if_pos (by rw [beq_iff_eq.mp hxy]; exact beq_self_eq_true y)] at h
        wp_walk
        rw [hc]
        exact ⟨plainId_quiet plain_eq_loop _, codeAny_builtin entry_eq_loop (by
          rw [Around.under_plainId plain_eq_loop _]
          exact ih (i + 1) (by omega) (by omega) (by omega) prog w A R _ ⟨hl, hb, h⟩)⟩
      | false =>
        rw [if_neg (fun q => by rw [beq_iff_eq.mp q] at hxy; simp at hxy)] at h
        wp_walk using wpAny_loadPart' hl, wpAny_loadPart' hb
        rw [hxi, hyi]
        refine wpAny_bind (show wpAny _ _ (compareOp .Gt (.str x tx) (.str y ty)) _ _ _ from P.gt_str (show wpAny _ _ (ret (.bool _)) _ _ _ from wpAny_pure ?_))
        exact h
    · have hyi : (strValues kb).toArray[((i : Nat) : Int).toNat]? = none := sv_at_none (by simp; omega)
      have hdb : (kb.map (·.1)).drop i = [] := by simp; omega
      rw [hyi]
      have e : lexLt ((kb.map (·.1)).drop i) ((ka.map (·.1)).drop i) = decide ((strValues ka).toArray.size > (strValues kb).toArray.size) := by
        rw [List.size_toArray, List.size_toArray, sv_len, sv_len, hda, hdb]
        simp [lexLt]; omega
      rw [e] at h
      wp_walk using wpAny_loadPart' hl, wpAny_loadPart' hb
      exact h
theorem list_Gt (l b : Addr) (ka kb : List (Str × Tok)) (n n2 : Nat) (dd dd2 : Option Addr) (sl sl2 : Array (Option Value)) :
    Meets (Builtin.«list.__gt__» ⟨[.ref l, .ref b], []⟩)
      (fun _ R s => s.heap.get? l = some { cls := .type "list", dict := dd, data := .seq (strValues ka).toArray n, slots := sl } ∧ s.heap.get? b = some { cls := .type "list", dict := dd2, data := .seq (strValues kb).toArray n2, slots := sl2 } ∧
        R (.ok (.ret (.bool (lexLt ((kb.map (·.1))) ((ka.map (·.1))))))) s) := by
  intro prog w A R s h
  obtain ⟨hp, g, d, tk, os⟩ := s; obtain ⟨hl, hb, h⟩ := h
  have f3 := AutoSeq1.sub_list_list
  wp_walk using wpAny_loadPart' hl, wpAny_loadPart' hb
  exact ⟨plainId_quiet plain_eq_loop _, codeAny_builtin entry_eq_loop (by
    rw [Around.under_plainId plain_eq_loop _]
    exact lex_loop_Gt l b ka kb n n2 dd dd2 sl sl2 _ 0 rfl (Nat.zero_le _) (Nat.zero_le _) prog w A R _ ⟨hl, hb, h⟩)⟩
theorem rc_Gt {prog : Program} {w : World} {A : Around} {E : Value → Shared → Prop} {s : Shared} {l b : Addr} {ka kb : List (Str × Tok)} {Q : Value → Shared → Prop} (hl : s.heap.IsList l (strValues ka).toArray) (hb : s.heap.IsList b (strValues kb).toArray) (hu : A.units < cLine)
    (h : Q (.bool (lexLt ((kb.map (·.1))) ((ka.map (·.1))))) s) : wpAny (model prog w) A (richCompare .Gt (.ref l) (.ref b)) Q E s := by
  obtain ⟨⟨cls, dd, data, sl⟩, ho, hc, n, hd⟩ := id hl
  obtain ⟨⟨cls2, dd2, data2, sl2⟩, ho2, hc2, n2, hd2⟩ := id hb
  simp only at hc hd hc2 hd2
  subst hc hd hc2 hd2
  exact richCompare_meets_room (op := .Gt) ⟨_, ho, rfl⟩ ⟨_, ho2, rfl⟩ F.slot_list_gt F.entry_list_gt (F.args_list_gt_2 _ _) (list_Gt l b ka kb n n2 dd dd2 sl sl2)
    ⟨ho, ho2, (fun x => nomatch x), h⟩ hu
end
end
section
theorem stays_isList {h h' : Heap} {l : Addr} {items : Array Value} (k : h.StaysIn h') (x : h.IsList l items) : h'.IsList l items := let ⟨o, ho, r⟩ := x; ⟨o, k l o ho, r⟩
theorem ne_of_none {h : Heap} {a b : Addr} {o : Obj} (hn : h.get? a = none) (e : h.get? b = some o) : b ≠ a := by rintro rfl; rw [hn] at e; cases e
theorem stays_upd {B h : Heap} {S : Addr} {f : Obj → Obj} (hS : B.get? S = none) (k : B.StaysIn h) : B.StaysIn (h.update S f) := fun b o e => (Heap.get?_update_other _ _ (Ne.symm (ne_of_none hS e))).trans (k b o e)
theorem iter_upd {h : Heap} {I S l : Addr} {i : Nat} {f : Obj → Obj} (hIS : I ≠ S) (x : h.IsListIter I l i) : (h.update S f).IsListIter I l i := let ⟨o, ho, r⟩ := x; ⟨o, (Heap.get?_update_other _ _ (Ne.symm hIS)).trans ho, r⟩
theorem fresh_none {h : Heap} {a : Addr} (x : h.objs.size ≤ a) : h.get? a = none := by
  cases q : h.get? a with
  | none => rfl
  | some o => exact absurd (Heap.lt_size q) (Nat.not_lt.mpr x)
section
variable {prog : Program} {w : World} {A : Around} {R : Result → Shared → Prop} {s : Shared} {B : Heap} {l I S : Addr} {vs : List Value} {bt : Nat → Nat → Bool}
/-- min() over a list, the items' comparisons told by bt at every heap that keeps B -/
theorem min_turns (hl : B.IsList l vs.toArray) (hI : B.get? I = none) (hIS : I ≠ S) (hS : B.get? S = none) (hh : A.handled = none)
    (hcmp : ∀ i j vi vj (s : Shared) (Q E : Value → Shared → Prop), vs[i]? = some vi → vs[j]? = some vj → B.StaysIn s.heap → Q (.bool (bt i j)) s → wpAny (model prog w) A.in1 (richCompare .Lt vi vj) Q E s) :
    ∀ (k j : Nat) (h : Heap) (tk : Nat) (vb : Value) (c : Nat), vs.length = j + 1 + k → B.StaysIn h → h.IsListIter I l (j + 1) → vs[argBest bt j]? = some vb → h.get? S = some (listOf #[vb, vb] c) →
      (∀ v h' tk', vs[argBest bt (vs.length - 1)]? = some v → B.StaysIn h' → R (.ok (.ret v)) { s with heap := h', toks := tk' }) →
      codeAny (model prog w) A (.builtin "min.loop" ⟨[.ref I, .none, .ref S], []⟩) R { s with heap := h, toks := tk } := by
  have hname : (toString "min" ++ toString ".loop" : String) = "min.loop" := by decide
  intro k
  induction k with
  | zero =>
    intro j h tk vb c hk hB hit hb hSo hR
    refine codeAny_builtin PySem.F.entry_min_loop ?_
    rw [Around.under_plainId PySem.F.plain_min_loop _]
    show wpAny _ A.in1 (seqItems? (.ref S) >>= _) _ _ _
    refine wpAny_bind (wpAny_seqItems hSo rfl ?_)
    show wpAny _ A.in1 (tryCatch (pyNext (.ref I)) _ >>= _) _ _ _
    refine wpAny_bind (wpAny_tryCatch (wpAny_pyNext_list_end hh hit (stays_isList hB hl) (by simp; omega) fun h' hx => ?_))
    have hSo' := hx S _ (Ne.symm hIS) hSo
    refine wpAny_bind (m := updateSeq S (fun _ => #[])) (wpAny_updateSeq hSo' rfl (wpAny_bind (wpAny_letGo (wpAny_pure ?_))))
    refine hR vb _ _ (by rw [hk]; exact hb) (stays_upd hS fun b o e => hx b o (ne_of_none hI e) (hB b o e))
  | succ k ih =>
    intro j h tk vb c hk hB hit hb hSo hR
    obtain ⟨v, hv⟩ : ∃ v, vs[j + 1]? = some v := ⟨vs[j + 1], by simp⟩
    refine codeAny_builtin PySem.F.entry_min_loop ?_
    rw [Around.under_plainId PySem.F.plain_min_loop _]
    show wpAny _ A.in1 (seqItems? (.ref S) >>= _) _ _ _
    refine wpAny_bind (wpAny_seqItems hSo rfl ?_)
    show wpAny _ A.in1 (tryCatch (pyNext (.ref I)) _ >>= _) _ _ _
    refine wpAny_bind (wpAny_tryCatch (wpAny_pyNext_list_item hit (stays_isList hB hl) (x := v) (by simpa using hv) fun h' hit' hx => ?_))
    have hSo' := hx.extBut S _ (Ne.symm hIS) hSo
    have hB' : B.StaysIn h' := fun b o e => hx.extBut b o (ne_of_none hI e) (hB b o e)
    show wpAny _ A.in1 (tryCatch (holding [v, v] (richCompare .Lt v vb >>= _)) _ >>= _) _ _ _
    refine wpAny_bind (wpAny_tryCatch (wpAny_holding (wpAny_bind (hcmp (j + 1) (argBest bt j) v vb _ _ _ hv hb hB' ?_))))
    refine wpAny_bind (wpAny_holding (wpAny_truthy_bool ?_))
    refine wpAny_bind (wpAny_letGo (wpAny_pure ?_))
    cases hbt : bt (j + 1) (argBest bt j) with
    | true =>
      simp only [if_true]
      refine wpAny_bind (wpAny_updateSeq hSo' rfl (wpAny_bind (wpAny_letGo ?_)))
      rw [hname]
      exact wpAny_pure ⟨plainId_quiet PySem.F.plain_min_loop _, ih (j + 1) _ _ v _ (by omega) (stays_upd hS hB') (iter_upd hIS hit') (by simp only [argBest, hbt, if_true]; exact hv) (Heap.get?_update_self _ hSo' rfl) hR⟩
    | false =>
      simp only [Bool.false_eq_true, if_false]
      refine wpAny_bind (wpAny_letGo ?_)
      rw [hname]
      exact wpAny_pure ⟨plainId_quiet PySem.F.plain_min_loop _, ih (j + 1) _ _ vb c (by omega) hB' hit' (by simp only [argBest, hbt, Bool.false_eq_true, if_false]; exact hb) hSo' hR⟩
theorem call_min_list {Q E : Value → Shared → Prop} (hl : s.heap.IsList l vs.toArray) (hn : 0 < vs.length) (hh : A.handled = none)
    (hcmp : ∀ i j vi vj (s' : Shared) (Q E : Value → Shared → Prop), vs[i]? = some vi → vs[j]? = some vj → s.heap.StaysIn s'.heap → Q (.bool (bt i j)) s' → wpAny (model prog w) A.in1 (richCompare .Lt vi vj) Q E s')
    (hQ : ∀ v h' tk', vs[argBest bt (vs.length - 1)]? = some v → s.heap.StaysIn h' → Q v { s with heap := h', toks := tk' }) :
    wpAny (model prog w) A (call (.builtin "min") [.ref l]) Q E s := by
  have hname : (toString "min" ++ toString ".loop" : String) = "min.loop" := by decide
  refine call_function_tree PySem.F.kind_min PySem.F.plain_min PySem.F.entry_min (PySem.F.args_min1 _) ?_
  show wpAny _ A.in1 (Builtin.Builtins.bindParams "min" ["key", "default"] 0 ⟨[], []⟩ >>= _) _ _ s
  refine wpAny_bind (wpAny_of_eq (show Builtin.Builtins.bindParams "min" ["key", "default"] 0 ⟨[], []⟩ = pure [none, none] from rfl) ?_)
  refine wpAny_bind (wpAny_pure (wpAny_bind (wpAny_pyIter_list hl (wpAny_bind (wpAny_newObj_type ?_)))))
  rw [hname]
  refine wpAny_pure ⟨plainId_quiet PySem.F.plain_min_loop _, ?_⟩
  obtain ⟨v, hv⟩ : ∃ v, vs[0]? = some v := ⟨vs[0], by simp⟩
  have hB0 : s.heap.StaysIn ((s.heap.push { cls := .type "list_iterator", data := .fields #[.ref l, .int 0 0] }).push (listOf #[] 0)) := fun b o e => Heap.get?_push_of_some _ (Heap.get?_push_of_some _ e)
  have nI : s.heap.get? s.heap.objs.size = none := fresh_none (Nat.le_refl _)
  have nS : s.heap.get? (s.heap.push { cls := .type "list_iterator", data := .fields #[.ref l, .int 0 0] }).objs.size = none := fresh_none (by simp [Heap.size_push])
  have hIS : s.heap.objs.size ≠ (s.heap.push { cls := .type "list_iterator", data := .fields #[.ref l, .int 0 0] }).objs.size := by simp [Heap.size_push]
  have hSo : ((s.heap.push { cls := .type "list_iterator", data := .fields #[.ref l, .int 0 0] }).push (listOf #[] 0)).get? (s.heap.push { cls := .type "list_iterator", data := .fields #[.ref l, .int 0 0] }).objs.size = some (listOf #[] 0) := Heap.get?_push_size _ rfl
  have hit : ((s.heap.push { cls := .type "list_iterator", data := .fields #[.ref l, .int 0 0] }).push (listOf #[] 0)).IsListIter s.heap.objs.size l 0 := ⟨_, Heap.get?_push_of_some _ (Heap.get?_push_size _ rfl), rfl, rfl⟩
  refine codeAny_builtin PySem.F.entry_min_loop ?_
  rw [Around.under_plainId PySem.F.plain_min_loop _]
  refine wpAny_bind (m := seqItems? (.ref _)) (wpAny_seqItems hSo rfl ?_)
  show wpAny _ A.in1 (tryCatch (pyNext (.ref _)) _ >>= _) _ _ _
  refine wpAny_bind (wpAny_tryCatch (wpAny_pyNext_list_item hit (stays_isList hB0 hl) (x := v) (by simpa using hv) fun h' hit' hx => ?_))
  have hSo' := hx.extBut _ _ (Ne.symm hIS) hSo
  have hB' : s.heap.StaysIn h' := fun b o e => hx.extBut b o (ne_of_none nI e) (hB0 b o e)
  refine wpAny_bind (m := updateSeq _ (fun _ => #[v, v])) (wpAny_updateSeq hSo' rfl ?_)
  rw [hname]
  refine wpAny_pure ⟨plainId_quiet PySem.F.plain_min_loop _, ?_⟩
  exact min_turns (s := s) hl nI hIS nS hh hcmp (vs.length - 1) 0 _ _ v _ (by omega) (stays_upd nS hB') (iter_upd hIS hit') (by simpa [argBest] using hv) (Heap.get?_update_self _ hSo' rfl) hQ
/-- max() over a list, the items' comparisons told by bt at every heap that keeps B -/
theorem max_turns (hl : B.IsList l vs.toArray) (hI : B.get? I = none) (hIS : I ≠ S) (hS : B.get? S = none) (hh : A.handled = none)
    (hcmp : ∀ i j vi vj (s : Shared) (Q E : Value → Shared → Prop), vs[i]? = some vi → vs[j]? = some vj → B.StaysIn s.heap → Q (.bool (bt i j)) s → wpAny (model prog w) A.in1 (richCompare .Gt vi vj) Q E s) :
    ∀ (k j : Nat) (h : Heap) (tk : Nat) (vb : Value) (c : Nat), vs.length = j + 1 + k → B.StaysIn h → h.IsListIter I l (j + 1) → vs[argBest bt j]? = some vb → h.get? S = some (listOf #[vb, vb] c) →
      (∀ v h' tk', vs[argBest bt (vs.length - 1)]? = some v → B.StaysIn h' → R (.ok (.ret v)) { s with heap := h', toks := tk' }) →
      codeAny (model prog w) A (.builtin "max.loop" ⟨[.ref I, .none, .ref S], []⟩) R { s with heap := h, toks := tk } := by
  have hname : (toString "max" ++ toString ".loop" : String) = "max.loop" := by decide
  intro k
  induction k with
  | zero =>
    intro j h tk vb c hk hB hit hb hSo hR
    refine codeAny_builtin PySem.F.entry_max_loop ?_
    rw [Around.under_plainId PySem.F.plain_max_loop _]
    show wpAny _ A.in1 (seqItems? (.ref S) >>= _) _ _ _
    refine wpAny_bind (wpAny_seqItems hSo rfl ?_)
    show wpAny _ A.in1 (tryCatch (pyNext (.ref I)) _ >>= _) _ _ _
    refine wpAny_bind (wpAny_tryCatch (wpAny_pyNext_list_end hh hit (stays_isList hB hl) (by simp; omega) fun h' hx => ?_))
    have hSo' := hx S _ (Ne.symm hIS) hSo
    refine wpAny_bind (m := updateSeq S (fun _ => #[])) (wpAny_updateSeq hSo' rfl (wpAny_bind (wpAny_letGo (wpAny_pure ?_))))
    refine hR vb _ _ (by rw [hk]; exact hb) (stays_upd hS fun b o e => hx b o (ne_of_none hI e) (hB b o e))
  | succ k ih =>
    intro j h tk vb c hk hB hit hb hSo hR
    obtain ⟨v, hv⟩ : ∃ v, vs[j + 1]? = some v := ⟨vs[j + 1], by simp⟩
    refine codeAny_builtin PySem.F.entry_max_loop ?_
    rw [Around.under_plainId PySem.F.plain_max_loop _]
    show wpAny _ A.in1 (seqItems? (.ref S) >>= _) _ _ _
    refine wpAny_bind (wpAny_seqItems hSo rfl ?_)
    show wpAny _ A.in1 (tryCatch (pyNext (.ref I)) _ >>= _) _ _ _
    refine wpAny_bind (wpAny_tryCatch (wpAny_pyNext_list_item hit (stays_isList hB hl) (x := v) (by simpa using hv) fun h' hit' hx => ?_))
    have hSo' := hx.extBut S _ (Ne.symm hIS) hSo
    have hB' : B.StaysIn h' := fun b o e => hx.extBut b o (ne_of_none hI e) (hB b o e)
    show wpAny _ A.in1 (tryCatch (holding [v, v] (richCompare .Gt v vb >>= _)) _ >>= _) _ _ _
    refine wpAny_bind (wpAny_tryCatch (wpAny_holding (wpAny_bind (hcmp (j + 1) (argBest bt j) v vb _ _ _ hv hb hB' ?_))))
    refine wpAny_bind (wpAny_holding (wpAny_truthy_bool ?_))
    refine wpAny_bind (wpAny_letGo (wpAny_pure ?_))
    cases hbt : bt (j + 1) (argBest bt j) with
    | true =>
      simp only [if_true]
      refine wpAny_bind (wpAny_updateSeq hSo' rfl (wpAny_bind (wpAny_letGo ?_)))
      rw [hname]
      exact wpAny_pure ⟨plainId_quiet PySem.F.plain_max_loop _, ih (j + 1) _ _ v _ (by omega) (stays_upd hS hB') (iter_upd hIS hit') (by simp only [argBest, hbt, if_true]; exact hv) (Heap.get?_update_self _ hSo' rfl) hR⟩
    | false =>
      simp only [Bool.false_eq_true, if_false]
      refine wpAny_bind (wpAny_letGo ?_)
      rw [hname]
      exact wpAny_pure ⟨plainId_quiet PySem.F.plain_max_loop _, ih (j + 1) _ _ vb c (by omega) hB' hit' (by simp only [argBest, hbt, Bool.false_eq_true, if_false]; exact hb) hSo' hR⟩
theorem call_max_list {Q E : Value → Shared → Prop} (hl : s.heap.IsList l vs.toArray) (hn : 0 < vs.length) (hh : A.handled = none)
    (hcmp : ∀ i j vi vj (s' : Shared) (Q E : Value → Shared → Prop), vs[i]? = some vi → vs[j]? = some vj → s.heap.StaysIn s'.heap → Q (.bool (bt i j)) s' → wpAny (model prog w) A.in1 (richCompare .Gt vi vj) Q E s')
    (hQ : ∀ v h' tk', vs[argBest bt (vs.length - 1)]? = some v → s.heap.StaysIn h' → Q v { s with heap := h', toks := tk' }) :
    wpAny (model prog w) A (call (.builtin "max") [.ref l]) Q E s := by
  have hname : (toString "max" ++ toString ".loop" : String) = "max.loop" := by decide
  refine call_function_tree PySem.F.kind_max PySem.F.plain_max PySem.F.entry_max (PySem.F.args_max1 _) ?_
  show wpAny _ A.in1 (Builtin.Builtins.bindParams "max" ["key", "default"] 0 ⟨[], []⟩ >>= _) _ _ s
  refine wpAny_bind (wpAny_of_eq (show Builtin.Builtins.bindParams "max" ["key", "default"] 0 ⟨[], []⟩ = pure [none, none] from rfl) ?_)
  refine wpAny_bind (wpAny_pure (wpAny_bind (wpAny_pyIter_list hl (wpAny_bind (wpAny_newObj_type ?_)))))
  rw [hname]
  refine wpAny_pure ⟨plainId_quiet PySem.F.plain_max_loop _, ?_⟩
  obtain ⟨v, hv⟩ : ∃ v, vs[0]? = some v := ⟨vs[0], by simp⟩
  have hB0 : s.heap.StaysIn ((s.heap.push { cls := .type "list_iterator", data := .fields #[.ref l, .int 0 0] }).push (listOf #[] 0)) := fun b o e => Heap.get?_push_of_some _ (Heap.get?_push_of_some _ e)
  have nI : s.heap.get? s.heap.objs.size = none := fresh_none (Nat.le_refl _)
  have nS : s.heap.get? (s.heap.push { cls := .type "list_iterator", data := .fields #[.ref l, .int 0 0] }).objs.size = none := fresh_none (by simp [Heap.size_push])
  have hIS : s.heap.objs.size ≠ (s.heap.push { cls := .type "list_iterator", data := .fields #[.ref l, .int 0 0] }).objs.size := by simp [Heap.size_push]
  have hSo : ((s.heap.push { cls := .type "list_iterator", data := .fields #[.ref l, .int 0 0] }).push (listOf #[] 0)).get? (s.heap.push { cls := .type "list_iterator", data := .fields #[.ref l, .int 0 0] }).objs.size = some (listOf #[] 0) := Heap.get?_push_size _ rfl
  have hit : ((s.heap.push { cls := .type "list_iterator", data := .fields #[.ref l, .int 0 0] }).push (listOf #[] 0)).IsListIter s.heap.objs.size l 0 := ⟨_, Heap.get?_push_of_some _ (Heap.get?_push_size _ rfl), rfl, rfl⟩
  refine codeAny_builtin PySem.F.entry_max_loop ?_
  rw [Around.under_plainId PySem.F.plain_max_loop _]
  refine wpAny_bind (m := seqItems? (.ref _)) (wpAny_seqItems hSo rfl ?_)
  show wpAny _ A.in1 (tryCatch (pyNext (.ref _)) _ >>= _) _ _ _
  refine wpAny_bind (wpAny_tryCatch (wpAny_pyNext_list_item hit (stays_isList hB0 hl) (x := v) (by simpa using hv) fun h' hit' hx => ?_))
  have hSo' := hx.extBut _ _ (Ne.symm hIS) hSo
  have hB' : s.heap.StaysIn h' := fun b o e => hx.extBut b o (ne_of_none nI e) (hB0 b o e)
  refine wpAny_bind (m := updateSeq _ (fun _ => #[v, v])) (wpAny_updateSeq hSo' rfl ?_)
  rw [hname]
  refine wpAny_pure ⟨plainId_quiet PySem.F.plain_max_loop _, ?_⟩
  exact max_turns (s := s) hl nI hIS nS hh hcmp (vs.length - 1) 0 _ _ v _ (by omega) (stays_upd nS hB') (iter_upd hIS hit') (by simpa [argBest] using hv) (Heap.get?_update_self _ hSo' rfl) hQ
end
end
section
def LsAre (h : Heap) (vs : List Value) (ks : List (List (Str × Tok))) : Prop := vs.length = ks.length ∧ ∀ (i : Nat) (v : Value) (k : List (Str × Tok)), vs[i]? = some v → ks[i]? = some k → ∃ a, v = Value.ref a ∧ h.IsList a (strValues k).toArray
theorem LsAre.stays {h h' : Heap} {vs : List Value} {ks : List (List (Str × Tok))} (x : LsAre h vs ks) (st : h.StaysIn h') : LsAre h' vs ks :=
  ⟨x.1, fun i v k hv hk => let ⟨a, e, r⟩ := x.2 i v k hv hk; ⟨a, e, stays_isList st r⟩⟩
def btL (ks : List (List (Str × Tok))) (i j : Nat) : Bool := lexLt ((ks.getD i []).map (·.1)) ((ks.getD j []).map (·.1))
def btG (ks : List (List (Str × Tok))) (i j : Nat) : Bool := lexLt ((ks.getD j []).map (·.1)) ((ks.getD i []).map (·.1))
theorem argBest_le (bt : Nat → Nat → Bool) : ∀ n, argBest bt n ≤ n
  | 0 => Nat.le_refl _
  | n + 1 => by
    unfold argBest
    split
    · exact Nat.le_refl _
    · exact Nat.le_succ_of_le (argBest_le bt n)
section
variable {prog : Program} {w : World} {A : Around} {s : Shared} {l : Addr} {vs : List Value} {ks : List (List (Str × Tok))} {Q E : Value → Shared → Prop}
theorem min_lists {B : Heap} (hl : s.heap.IsList l vs.toArray) (H : LsAre B vs ks) (sB : B.StaysIn s.heap) (hn : 0 < ks.length) (hh : A.handled = none) (hu : A.units + 1 < cLine)
    (hQ : ∀ a k h' tk', ks[argBest (btL ks) (ks.length - 1)]? = some k → vs[argBest (btL ks) (ks.length - 1)]? = some (.ref a) → B.IsList a (strValues k).toArray → s.heap.StaysIn h' → Q (.ref a) { s with heap := h', toks := tk' }) :
    wpAny (model prog w) A (call (.builtin "min") [.ref l]) Q E s := by
  refine call_min_list (bt := btL ks) hl (by rw [H.1]; exact hn) hh (fun i j vi vj s' Q E hi hj st hq => ?_) fun v h' tk' hv st => ?_
  · have li : i < ks.length := by rw [← H.1]; exact (List.getElem?_eq_some_iff.mp hi).1
    have lj : j < ks.length := by rw [← H.1]; exact (List.getElem?_eq_some_iff.mp hj).1
    obtain ⟨a, rfl, ha⟩ := H.2 i vi ks[i] hi (List.getElem?_eq_getElem li)
    obtain ⟨b, rfl, hb⟩ := H.2 j vj ks[j] hj (List.getElem?_eq_getElem lj)
    refine rc_Lt (stays_isList st (stays_isList sB ha)) (stays_isList st (stays_isList sB hb)) hu ?_
    simpa [btL, li, lj] using hq
  · rw [H.1] at hv
    have lb : argBest (btL ks) (ks.length - 1) < ks.length := Nat.lt_of_le_of_lt (argBest_le _ _) (by omega)
    obtain ⟨a, rfl, ha⟩ := H.2 _ v _ hv (List.getElem?_eq_getElem lb)
    exact hQ a _ h' tk' (List.getElem?_eq_getElem lb) hv ha st
theorem max_lists {B : Heap} (hl : s.heap.IsList l vs.toArray) (H : LsAre B vs ks) (sB : B.StaysIn s.heap) (hn : 0 < ks.length) (hh : A.handled = none) (hu : A.units + 1 < cLine)
    (hQ : ∀ a k h' tk', ks[argBest (btG ks) (ks.length - 1)]? = some k → vs[argBest (btG ks) (ks.length - 1)]? = some (.ref a) → B.IsList a (strValues k).toArray → s.heap.StaysIn h' → Q (.ref a) { s with heap := h', toks := tk' }) :
    wpAny (model prog w) A (call (.builtin "max") [.ref l]) Q E s := by
  refine call_max_list (bt := btG ks) hl (by rw [H.1]; exact hn) hh (fun i j vi vj s' Q E hi hj st hq => ?_) fun v h' tk' hv st => ?_
  · have li : i < ks.length := by rw [← H.1]; exact (List.getElem?_eq_some_iff.mp hi).1
    have lj : j < ks.length := by rw [← H.1]; exact (List.getElem?_eq_some_iff.mp hj).1
    obtain ⟨a, rfl, ha⟩ := H.2 i vi ks[i] hi (List.getElem?_eq_getElem li)
    obtain ⟨b, rfl, hb⟩ := H.2 j vj ks[j] hj (List.getElem?_eq_getElem lj)
    refine rc_Gt (stays_isList st (stays_isList sB ha)) (stays_isList st (stays_isList sB hb)) hu ?_
    simpa [btG, li, lj] using hq
  · rw [H.1] at hv
    have lb : argBest (btG ks) (ks.length - 1) < ks.length := Nat.lt_of_le_of_lt (argBest_le _ _) (by omega)
    obtain ⟨a, rfl, ha⟩ := H.2 _ v _ hv (List.getElem?_eq_getElem lb)
    exact hQ a _ h' tk' (List.getElem?_eq_getElem lb) hv ha st
end
/-- how many items two lists have alike at the front -/
def cpl : List Str → List Str → Nat
  | x :: xs, y :: ys => if x = y then cpl xs ys + 1 else 0
  | _, _ => 0
theorem isi_list {prog : Program} {w : World} {A : Around} {s : Shared} {a tp : Addr} {items : Array Value} {Q E : Value → Shared → Prop} (hl : s.heap.IsList a items)
    (ht : s.heap.get? tp = some { cls := .type "tuple", data := .seq [Value.type "list", Value.type "tuple"].toArray }) (h : ∀ tk, Q (.bool true) { s with toks := tk }) :
    wpAny (model prog w) A (call (.builtin "isinstance") [.ref a, .ref tp]) Q E s :=
  IsiPair.tupleOfB (vs := [true, false]) (.cons (.of_true F.isi_meta_list F.sub_list_list) (.cons (.of_false_list (by decide) F.isi_meta_tuple F.sub_list_tuple) .nil)) hl.typeIs ht rfl h
theorem item_str_at {prog : Program} {w : World} {A : Around} {s : Shared} {value slice : Expr} {l : Addr} {k : List (Str × Tok)} {i : Nat} {y : Str} {ty u : Tok} {Q E : Value → Shared → Prop} (hl : s.heap.IsList l (strValues k).toArray) (hy : k[i]? = some (y, ty)) (hi : i ≤ 100000) (h : Q (.str y ty) s)
    (hs : subscripted slice false (.ref l) (.int i u) = operate [.ref l, .int i u] (getItem (.ref l) (.int i u)) := by with_unfolding_all rfl) :
    wpAny (model prog w) A (subscriptTail value slice (.ref l) (.int i u)) Q E s := by
  refine tail_any hl.typeIs slot_list_getitem.lookup (wpAny_getItem_list hl (by omega) (by omega) ?_ h) hs
  rw [sv_at hy]
theorem lexLt_pre : ∀ {a b : List Str} {i : Nat}, lexLt b a = false → a.take i = b.take i → i < a.length → i < b.length
  | [], _, _, _, _, h => absurd h (Nat.not_lt_zero _)
  | _ :: _, [], i, h, e, _ => by cases i <;> simp [lexLt] at h e
  | x :: xs, y :: ys, 0, _, _, _ => Nat.zero_lt_succ _
  | x :: xs, y :: ys, i + 1, h, e, hi => by
    simp only [List.take_succ_cons, List.cons.injEq] at e
    obtain ⟨rfl, e⟩ := e
    rw [lexLt, if_pos (beq_self_eq_true x)] at h
    exact Nat.succ_lt_succ (lexLt_pre h e (Nat.lt_of_succ_lt_succ hi))
theorem lexLt_irrefl : ∀ a : List Str, lexLt a a = false
  | [] => rfl
  | x :: xs => by rw [lexLt, if_pos (beq_self_eq_true x), lexLt_irrefl xs]
theorem lexLt_asymm : ∀ {a b : List Str}, lexLt a b = true → lexLt b a = false
  | [], [], _ => rfl
  | [], _ :: _, _ => rfl
  | _ :: _, [], h => by simp [lexLt] at h
  | x :: xs, y :: ys, h => by
    rw [lexLt] at h ⊢
    by_cases e : x = y
    · subst e
      rw [if_pos (beq_self_eq_true x)] at h ⊢
      exact lexLt_asymm h
    · rw [if_neg (by simpa using e)] at h
      rw [if_neg (by simpa using Ne.symm e)]
      unfold ltS at h ⊢
      rw [decide_eq_true_eq] at h
      rw [decide_eq_false_iff_not]
      exact List.lt_asymm h
theorem cpl_comm : ∀ a b : List Str, cpl a b = cpl b a
  | [], [] => rfl
  | [], _ :: _ => rfl
  | _ :: _, [] => rfl
  | x :: xs, y :: ys => by
    by_cases e : x = y
    · subst e; simp [cpl, cpl_comm xs ys]
    · simp [cpl, e, Ne.symm e]
theorem cpl_self : ∀ a : List Str, cpl a a = a.length
  | [] => rfl
  | x :: xs => by simp [cpl, cpl_self xs]
theorem cpl_whole : ∀ {a b : List Str}, a.take a.length = b.take a.length → cpl a b = a.length
  | [], _, _ => by cases ‹List Str› <;> rfl
  | _ :: _, [], e => by simp at e
  | x :: xs, y :: ys, e => by
    simp only [List.length_cons, List.take_succ_cons, List.cons.injEq] at e
    obtain ⟨rfl, e⟩ := e
    simp [cpl, cpl_whole e]
theorem cpl_at : ∀ {a b : List Str} {i : Nat} {x y : Str}, a.take i = b.take i → a[i]? = some x → b[i]? = some y → x ≠ y → cpl a b = i
  | [], _, _, _, _, _, h, _, _ => by simp at h
  | _ :: _, [], _, _, _, _, _, h, _ => by simp at h
  | x :: xs, y :: ys, 0, _, _, _, h1, h2, hn => by
    simp at h1 h2
    subst h1 h2
    simp [cpl, hn]
  | x :: xs, y :: ys, i + 1, _, _, e, h1, h2, hn => by
    simp only [List.take_succ_cons, List.cons.injEq] at e
    obtain ⟨rfl, e⟩ := e
    simp only [List.getElem?_cons_succ] at h1 h2
    simp [cpl, cpl_at e h1 h2 hn]
theorem lexLt_tri : ∀ {a b : List Str}, lexLt a b = false → lexLt b a = false → a = b
  | [], [], _, _ => rfl
  | [], _ :: _, h, _ => by simp [lexLt] at h
  | _ :: _, [], _, h => by simp [lexLt] at h
  | x :: xs, y :: ys, h, g => by
    rw [lexLt] at h g
    by_cases e : x = y
    · subst e
      rw [if_pos (beq_self_eq_true x)] at h g
      rw [lexLt_tri h g]
    · rw [if_neg (by simpa using e)] at h
      rw [if_neg (by simpa using Ne.symm e)] at g
      unfold ltS at h g
      rw [decide_eq_false_iff_not] at h g
      exact absurd (Str.ext' (Array.toList_inj.mp (List.le_antisymm (List.not_lt.mp g) (List.not_lt.mp h)))) e
theorem two_best {ka kb k1 k2 : List (Str × Tok)} (h1 : [ka, kb][argBest (btL [ka, kb]) ([ka, kb].length - 1)]? = some k1) (h2 : [ka, kb][argBest (btG [ka, kb]) ([ka, kb].length - 1)]? = some k2) :
    lexLt (k2.map (·.1)) (k1.map (·.1)) = false ∧ cpl (k1.map (·.1)) (k2.map (·.1)) = cpl (ka.map (·.1)) (kb.map (·.1)) ∧ (k1 = ka ∨ k1 = kb) ∧ (k2 = ka ∨ k2 = kb) := by
  have e1 : btL [ka, kb] 1 0 = lexLt (kb.map (·.1)) (ka.map (·.1)) := rfl
  have e2 : btG [ka, kb] 1 0 = lexLt (ka.map (·.1)) (kb.map (·.1)) := rfl
  simp only [List.length_cons, List.length_nil, Nat.zero_add, Nat.add_one_sub_one, argBest, e1, e2] at h1 h2
  cases c1 : lexLt (kb.map (·.1)) (ka.map (·.1)) with
  | true =>
    have c2 := lexLt_asymm c1
    rw [c1] at h1; rw [c2] at h2
    cases h1; cases h2
    exact ⟨c2, cpl_comm _ _, .inr rfl, .inl rfl⟩
  | false =>
    rw [c1] at h1
    cases h1
    cases c2 : lexLt (ka.map (·.1)) (kb.map (·.1)) with
    | true =>
      rw [c2] at h2
      cases h2
      exact ⟨c1, rfl, .inl rfl, .inr rfl⟩
    | false =>
      rw [c2] at h2
      cases h2
      exact ⟨lexLt_irrefl _, by rw [lexLt_tri c1 c2], .inl rfl, .inl rfl⟩
local macro_rules | `(tactic| walk_at "subscriptTail Name Name ref int") => `(tactic| (k_here; k_dflt (refine' item_str_at ?hl ?hy ?hi ?_; (case hl => walk_at "mine_list"); (case hy => assumption); (case hi => walk_at "mine_fit"); k_whole)))
local macro_rules | `(tactic| walk_at "call builtin:isinstance") => `(tactic| (k_here; k_dflt (refine' isi_list ?hl ?ht ?_; (case hl => walk_at "mine_list"); (case ht => exact News.get (by k_asm) (by k_mem)); k_whole); intro tk'))
local macro_rules | `(tactic| walk_at "mine_ls") => `(tactic| first | assumption )
local macro_rules | `(tactic| walk_at "mine_line") => `(tactic| (have hr9 := Rm.line (by assumption); (try dsimp only); have hr8 := Rm.hu (by assumption); show _ < 9900; omega))
local macro_rules | `(tactic| walk_at "call builtin:min") => `(tactic| (k_here; k_dflt (refine' min_lists ?hl ?H ?sB ?hn ?hh ?hu ?_; (case hl => walk_at "mine_list"); (case H => walk_at "mine_ls"); (case sB => first | exact stays_refl | exact Fr.keep (by k_asm)); (case hn => first | assumption | exact Nat.zero_lt_succ _); (case hh => exact rfl); (case hu => walk_at "mine_line"); k_whole); intro a' k' h' tk' hk' hv' ha' st'; (have F' := fr_stays (by assumption) st'); (have N' := news_stays (by assumption) st'); (try clear st'); (try k_sweep)))
local macro_rules | `(tactic| walk_at "call builtin:max") => `(tactic| (k_here; k_dflt (refine' max_lists ?hl ?H ?sB ?hn ?hh ?hu ?_; (case hl => walk_at "mine_list"); (case H => walk_at "mine_ls"); (case sB => first | exact stays_refl | exact Fr.keep (by k_asm)); (case hn => first | assumption | exact Nat.zero_lt_succ _); (case hh => exact rfl); (case hu => walk_at "mine_line"); k_whole); intro a' k' h' tk' hk' hv' ha' st'; (have F' := fr_stays (by assumption) st'); (have N' := news_stays (by assumption) st'); (try clear st'); (try k_sweep)))
end
section
local macro_rules | `(tactic| walk_at "mine_go_if") => `(tactic| repeat' ((fail_if_success (with_reducible show wpAny _ _ (eval (Expr.IfExp _ _ _ _) _) _ _ _)); (first | (k_unfold; (try dsimp only)) | walk1 | (dsimp only; walk1))))
local macro_rules | `(tactic| walk_at "mine_pick") => `(tactic| first | exact pick_to _ _ | exact pick_from _ _ | exact pick_but _)
local macro_rules | `(tactic| walk_at "subscriptTail Name Slice ref ref") => `(tactic| (k_here; k_dflt (refine' slice_any ?F ?N ?hl ?p ?q ?e ?_ ?hs ?ht ?hz; (case F => k_asm); (case N => k_asm); (case hl => walk_at "mine_list"); (case p => first | exact IsPart.none | exact IsPart.int _ _); (case q => first | exact IsPart.none | exact IsPart.int _ _); (case hs => with_unfolding_all rfl); (case ht => (intro _; with_unfolding_all rfl)); (case e => walk_at "mine_pick"); (case hz => walk_at "mine_fit"); k_whole); intro h' a' F' N' l'; (try k_lt l'); (try k_sweep)))
local macro_rules | `(tactic| walk_at "mine_size") => `(tactic| ((try rw [sizeLine_eq]); (try simp only [Str.length_append, len_sl, len_dot, len_nil]); omega))
local macro_rules | `(tactic| walk_at "binaryOp Add str str") => `(tactic| (k_here; (with_reducible show wpAny _ _ (binaryOp Operator.Add (Value.str _ _) (Value.str _ _)) _ _ _); k_dflt (refine' PyProof.Rows.add_str (hsz := ?hsz) ?_; (case hsz => walk_at "mine_size"); k_whole); intro t' k'))
local macro_rules | `(tactic| walk_at "inplaceOp Add str str") => `(tactic| (k_here; (with_reducible show wpAny _ _ (inplaceOp Operator.Add (Value.str _ _) (Value.str _ _)) _ _ _); k_dflt (refine' PyProof.Rows.iadd_str (hsz := ?hsz) ?_; (case hsz => walk_at "mine_size"); k_whole); intro t' k'))
local macro_rules | `(tactic| walk_at "mine_strs") => `(tactic| first | assumption | exact sv_are _)
local macro_rules | `(tactic| walk_at "call builtin:str.join") => `(tactic| (k_here; (with_reducible show wpAny _ _ (call (Value.builtin "str.join") [Value.str _ _, Value.ref _]) _ _ _); k_dflt (refine' join_list ?hl ?hi ?hok ?_; (case hl => walk_at "mine_list"); (case hi => walk_at "mine_strs"); (case hok => exact Nat.le_trans (by assumption) (by decide : 10050000 ≤ 16777216)); k_whole); intro t' k'))
local macro_rules | `(tactic| walk_at "mine_fit") => `(tactic| ((try simp only [List.size_toArray, sv_len, List.length_map, List.length_append, List.length_cons, List.length_nil, Array.size_push]); omega))
local macro_rules | `(tactic| walk_at "mine_list") => `(tactic| first | (with_reducible assumption) | exact News.isList (by k_asm) (by k_mem) | exact Fr.lst (by k_asm) (by assumption))
local macro_rules | `(tactic| walk_at "truthy ref") => `(tactic| (k_here; (with_reducible show wpAny _ _ (truthy (Value.ref _)) _ _ _); k_dflt (refine' wpAny_truthy_list (items := (List.toArray _)) ?hl ?hf ?_; (case hl => walk_at "mine_list"); (case hf => walk_at "mine_fit"); k_whole); (try simp only [List.isEmpty_toArray, List.isEmpty_cons, List.isEmpty_nil, Bool.not_false, Bool.not_true])))
local macro_rules | `(tactic| walk_at "subscriptTail Name UnaryOp ref int") => `(tactic| (k_here; k_dflt (refine' last_str ?hl ?hk ?hz ?_; (case hl => walk_at "mine_list"); (case hk => assumption); (case hz => walk_at "mine_fit"); k_whole); intro y' t' hy'))
local macro_rules | `(tactic| walk_at "call builtin:list.pop") => `(tactic| (k_here; k_dflt (refine' pop_strs ?F ?N ?hk ?U ?hz ?_; (case F => k_asm); (case N => k_asm); (case U => k_upd); (case hk => assumption); (case hz => walk_at "mine_fit"); k_whole); intro h' y' t' F' N'; (try k_sweep)))
section
local macro_rules | `(tactic| walk_at "call ref") => `(tactic| (k_here; k_dflt (refine' wpAny_call (c_basename ?X ?T ?r ?l ?_); walk_at "mine_xtr"; (case l => walk_at "mine_len"); k_whole); intro h' tk tk' st'; walk_at "mine_post"))
local macro_rules | `(tactic| walk_at "call ref") => `(tactic| (k_here; k_dflt (refine' wpAny_call (c_dirname ?X ?T ?r ?l ?_); walk_at "mine_xtr"; (case l => walk_at "mine_len"); k_whole); intro h' tk tk' st'; walk_at "mine_post"))
local macro_rules | `(tactic| walk_at "call ref") => `(tactic| (k_here; k_dflt (refine' wpAny_call (c_splitroot ?X ?T ?r ?l ?h1 ?h2 ?_); walk_at "mine_xtr"; (case l => walk_at "mine_len"); (case h1 => assumption); (case h2 => assumption); k_whole); intro h' D' t1 t2 t3 tk' st' hD' hn'; (have N' := news_new (by assumption) (by assumption) st' hD' hn'); (have F' := fr_stays (by assumption) st'); (try clear st' hD' hn'); (try k_sweep); (try dsimp only)))
section
def nstep (st : List Str) (c : Str) : List Str :=
  if c.length = 0 ∨ c = Str.ofString "." then st
  else if c ≠ Str.ofString ".." ∨ (st ≠ [] ∧ st.getLast? = some (Str.ofString "..")) then st ++ [c]
  else st.dropLast
def normL (cs : List Str) : List Str := cs.foldl nstep []
def NJ (l : List (Str × Tok)) (m₀ : Str → Option Value) (i : Nat) (m : Str → Option Value) (o : Obj) : Prop :=
  ∃ (k : List (Str × Tok)) (n : Nat), o = listOf (strValues k).toArray n ∧ k.map (·.1) = normL ((l.map (·.1)).take i) ∧ k.length ≤ i ∧ (∀ p ∈ k.map (·.1), p.length ≤ 1000) ∧ ∀ z, z ≠ Str.ofString "comp" → m z = m₀ z
section
variable {st : List Str} {y : Str}
theorem ns1 (h : (y.length : Int) = 0) : nstep st y = st := if_pos (.inl (by omega))
theorem ns2 (h : (y == Str.ofString ".") = true) : nstep st y = st := if_pos (.inr (beq_iff_eq.mp h))
theorem ns_go (h : (y.length : Int) ≠ 0) (hd : (y == Str.ofString ".") = false) : nstep st y = if y ≠ Str.ofString ".." ∨ (st ≠ [] ∧ st.getLast? = some (Str.ofString "..")) then st ++ [y] else st.dropLast :=
  if_neg fun q => q.elim (fun q => h (by omega)) fun q => by rw [q] at hd; simp at hd
theorem ns3 (h : (y.length : Int) ≠ 0) (hd : (y == Str.ofString ".") = false) (c : (y != Str.ofString "..") = true) : nstep st y = st ++ [y] := (ns_go h hd).trans (if_pos (.inl (by simpa using c)))
theorem ns4 {k : List (Str × Tok)} (h : (y.length : Int) ≠ 0) (hd : (y == Str.ofString ".") = false) (c : (y != Str.ofString "..") = false) (e : (strValues k).isEmpty = true) : nstep (k.map (·.1)) y = k.map (·.1) := by
  have hk : k = [] := by cases k with
    | nil => rfl
    | cons a b => cases e
  subst hk
  exact (ns_go h hd).trans (if_neg fun q => q.elim (fun q => q (by simpa using c)) fun q => q.1 rfl)
theorem ns5 {y' : Str} (h : (y.length : Int) ≠ 0) (hd : (y == Str.ofString ".") = false) (hl : st.getLast? = some y') (e : (y' == Str.ofString "..") = true) : nstep st y = st ++ [y] :=
  (ns_go h hd).trans (if_pos (.inr ⟨(fun q => by rw [q] at hl; cases hl), (by rw [hl, beq_iff_eq.mp e])⟩))
theorem ns6 {y' : Str} (h : (y.length : Int) ≠ 0) (hd : (y == Str.ofString ".") = false) (c : (y != Str.ofString "..") = false) (hl : st.getLast? = some y') (e : (y' == Str.ofString "..") = false) : nstep st y = st.dropLast :=
  (ns_go h hd).trans (if_neg fun q => q.elim (fun q => q (by simpa using c)) fun q => by rw [hl] at q; rw [Option.some.inj q.2] at e; simp at e)
end
def normS (x : Str) : Str := Str.ofString "/" ++ Txt.join (Str.ofString "/") (normL (Txt.split (Txt.slice x (some 1) none) (Str.ofString "/")))
theorem sv_push (k : List (Str × Tok)) (y : Str) (t : Tok) : (strValues k).toArray.push (.str y t) = (strValues (k ++ [(y, t)])).toArray := by simp [strValues]
theorem NJ.step {l k k' : List (Str × Tok)} {m₀ m' : Str → Option Value} {i n' : Nat} {y : Str} {ty : Tok} {o : Obj} (hc : l[i]? = some (y, ty)) (hk : k.map (·.1) = normL ((l.map (·.1)).take i)) (hki : k.length ≤ i) (hks : ∀ p ∈ k.map (·.1), p.length ≤ 1000) (hy : y.length ≤ 1000)
    (e : nstep (k.map (·.1)) y = k'.map (·.1)) (hl : k'.length ≤ k.length + 1) (ho : o = listOf (strValues k').toArray n') (hm : ∀ z, z ≠ Str.ofString "comp" → m' z = m₀ z) : NJ l m₀ (i + 1) m' o := by
  refine ⟨k', n', ho, ?_, by omega, ?_, hm⟩
  rotate_left
  · rw [← e]
    intro p hp
    unfold nstep at hp
    split at hp
    · exact hks p hp
    · split at hp
      · rcases List.mem_append.mp hp with hp | hp
        · exact hks p hp
        · rw [List.mem_singleton.mp hp]; exact hy
      · exact hks p (List.dropLast_subset _ hp)
  have e1 : (l.map (·.1)).take (i + 1) = (l.map (·.1)).take i ++ [y] := by
    rw [List.take_add_one, List.getElem?_map, hc]; rfl
  rw [e1, normL, List.foldl_append, List.foldl_cons, List.foldl_nil]
  show _ = nstep (normL _) y
  rw [← hk, e]
set_option maxHeartbeats 4000000 in
theorem c_normpath {prog : Program} {w : World} {dp un : Nat} {fr : Option (List Env)} {gd : Option (List Code)} {R : Result → Shared → Prop} {s : Shared} {mean : ExcName → Option Value} {mg mb : Str → Option Value} {x : Str} {t : Tok}
    (X : (tp.heap_39 w.params).In s.heap) (T : Top tp.view_39 [Str.ofString "relpath"] mean mg mb s.heap) (r : Rm dp un 3) (hx : x.length ≤ 1000) (hn : 0 < x.length)
    (h1 : Txt.slice x none (some 1) = Str.ofString "/") (h2 : Txt.slice x (some 1) (some 2) ≠ Str.ofString "/")
    (h : ∀ h' tk tk', s.heap.StaysIn h' → R (.ok (.ret (.str (normS x) tk))) { s with heap := h', toks := tk' }) :
    codeAny (model prog w) (AA dp un fr gd) (.call (.ref 174) ⟨[.str x t], []⟩) R s := by
  refine' enter [(Str.ofString "path", .str x t)] X T ?k6 ?k7 ?k8 ?k9 ?kB ?_ ?c2 ?c3 ?c4 ?c5
  walk_at "mine_in"
  walk_at "mine_go"
  · rename Fr _ _ _ _ => F
    rename News _ _ _ _ => N
    rename StrsAre _ _ => hS
    rename List (Str × Tok) => l
    have hsl : List.map (fun x => x.1) l = Txt.split (Txt.slice x (some 1) none) (Str.ofString "/") := by assumption
    have hle : ∀ a ∈ List.map (fun x => x.1) l, a.length ≤ (Txt.slice x (some 1) none).length := by assumption
    have hsx := Txt.slice_le x (some 1) none
    have hll := len_le_of_split hsl
    refine iter_one (NJ l _) rfl (News.isList N (.tail _ (.head _))) (N _ (.tail _ (.head _))).2.1 (by k_ne) F N ⟨[], 0, rfl, rfl, Nat.le_refl _, fun _ h => (nomatch h), fun _ _ => rfl⟩ ?_ ?_
    · clear F N
      rintro i v m₁ o₁ h2 tk2 own hv hoff ⟨k, n, rfl, hk, hki, hks, hm⟩ F N
      obtain ⟨⟨y, ty⟩, hc, rfl⟩ : ∃ c, l[i]? = some c ∧ v = .str c.1 c.2 := by
        simp only [strValues, List.getElem?_map, Option.map_eq_some_iff] at hv
        obtain ⟨c, h1, h2⟩ := hv
        exact ⟨c, h1, h2.symm⟩
      have hy : y.length ≤ 1000 := Nat.le_trans (hle y (List.mem_map.mpr ⟨_, List.mem_of_getElem? hc, rfl⟩)) (by omega)
      have hi : i < l.length := (List.getElem?_eq_some_iff.mp hc).1
      have hkl : k.length ≤ 5000 := by omega
      have hkz : (strValues k).toArray.size = k.length := by simp [strValues]
      replace F := Fr.names F hm
      dsimp only at F
      clear hm
      walk_at "mine_go"
      · exact TurnEnd.cont (by assumption) (by assumption) (NJ.step hc hk hki hks hy (ns2 (by assumption)) (Nat.le_succ _) rfl fun z hz => if_neg hz)
      · exact TurnEnd.next (by assumption) (by assumption) (NJ.step (k' := k ++ [(y, ty)]) hc hk hki hks hy ((ns3 (by assumption) (by assumption) (by assumption)).trans (by simp)) (by simp) (congrArg (listOf · _) (sv_push _ _ _)) fun z hz => if_neg hz)
      · exact TurnEnd.next (by assumption) (by assumption) (NJ.step hc hk hki hks hy (ns4 (by assumption) (by assumption) (by assumption) (by assumption)) (Nat.le_succ _) rfl fun z hz => if_neg hz)
      · exact TurnEnd.next (by assumption) (by assumption) (NJ.step (k' := k ++ [(y, ty)]) hc hk hki hks hy ((ns5 (by assumption) (by assumption) (by assumption) (by assumption)).trans (by simp)) (by simp) (congrArg (listOf · _) (sv_push _ _ _)) fun z hz => if_neg hz)
      · exact TurnEnd.next (by assumption) (by assumption) (NJ.step (k' := k.dropLast) hc hk hki hks hy ((ns6 (by assumption) (by assumption) (by assumption) (by assumption) (by assumption)).trans (by simp [List.map_dropLast])) (by simp; omega) rfl fun z hz => if_neg hz)
      · exact TurnEnd.cont (by assumption) (by assumption) (NJ.step hc hk hki hks hy (ns1 (by assumption)) (Nat.le_succ _) rfl fun z hz => if_neg hz)
    · clear F N
      rintro m₁ o₁ h2 tk2 ⟨k, n, rfl, hk, hki, hks, hm⟩ F N
      rw [sv_len] at hki hk
      have hkl : k.length ≤ 5000 := by omega
      have hkt : k.map (·.1) = normL (Txt.split (Txt.slice x (some 1) none) (Str.ofString "/")) := by
        rw [hk, ← hsl, ← List.length_map (f := fun x : Str × Tok => x.1), List.take_length]
      have hok := hok_of (ys := k.map (·.1)) (sep := Str.ofString "/") (fun y hy => Nat.le_trans (hks y hy) (by decide)) (by simpa using hkl) (by decide)
      have hjl := Nat.le_trans (join_le (ys := k.map (·.1)) (sep := Str.ofString "/")) hok
      replace F := Fr.only F hm
      dsimp only at F
      clear hm
      walk_at "mine_go"
      have e : normS x = Str.ofString "/" ++ Txt.join (Str.ofString "/") (List.map (fun x => x.1) k) := by unfold normS; rw [hkt]
      rw [e] at h
      exact h _ _ _ (Fr.keep (by assumption))
  · exfalso; omega
local macro_rules | `(tactic| walk_at "call ref") => `(tactic| (k_here; k_dflt (refine' wpAny_call (c_normpath ?X ?T ?r ?l ?n ?h1 ?h2 ?_); walk_at "mine_xtr"; (case l => walk_at "mine_len"); (case n => walk_at "mine_len"); (case h1 => assumption); (case h2 => assumption); k_whole); intro h' tk tk' st'; walk_at "mine_post"))
end
section
local macro_rules | `(tactic| walk_at "call ref") => `(tactic| (k_here; k_dflt (refine' wpAny_call (c_normpath ?X ?T ?r ?l ?n ?h1 ?h2 ?_); walk_at "mine_xtr"; (case l => walk_at "mine_len"); (case n => walk_at "mine_len"); (case h1 => assumption); (case h2 => assumption); k_whole); intro h' tk tk' st'; walk_at "mine_post"))
section
local macro_rules | `(tactic| walk_at "mine_pad") => `(tactic| skip)
theorem c_abspath {prog : Program} {w : World} {dp un : Nat} {fr : Option (List Env)} {gd : Option (List Code)} {R : Result → Shared → Prop} {s : Shared} {mean : ExcName → Option Value} {mg mb : Str → Option Value} {x : Str} {t : Tok}
    (X : (tp.heap_39 w.params).In s.heap) (T : Top tp.view_39 [Str.ofString "relpath"] mean mg mb s.heap) (r : Rm dp un 4) (hx : x.length ≤ 1000) (hn : 0 < x.length)
    (h0 : Txt.startswith x (Str.ofString "/") = true) (h1 : Txt.slice x none (some 1) = Str.ofString "/") (h2 : Txt.slice x (some 1) (some 2) ≠ Str.ofString "/")
    (h : ∀ h' tk tk', s.heap.StaysIn h' → R (.ok (.ret (.str (normS x) tk))) { s with heap := h', toks := tk' }) :
    codeAny (model prog w) (AA dp un fr gd) (.call (.ref 181) ⟨[.str x t], []⟩) R s := by
  refine' enter [(Str.ofString "path", .str x t)] X T ?k6 ?k7 ?k8 ?k9 ?kB ?_ ?c2 ?c3 ?c4 ?c5
  walk_at "mine_in"
  walk_at "mine_go"
  exact h _ _ _ (Fr.keep (by assumption))
local macro_rules | `(tactic| walk_at "call ref") => `(tactic| (k_here; k_dflt (refine' wpAny_call (c_abspath ?X ?T ?r ?l ?n ?h0 ?h1 ?h2 ?_); walk_at "mine_xtr"; (case l => walk_at "mine_len"); (case n => walk_at "mine_len"); (case h0 => assumption); (case h1 => assumption); (case h2 => assumption); k_whole); intro h' tk tk' st'; walk_at "mine_post"))
end
end
end
section
local macro_rules | `(tactic| walk_at "subscriptTail Name Name ref int") => `(tactic| (k_here; k_dflt (refine' item_str_at ?hl ?hy ?hi ?_; (case hl => walk_at "mine_list"); (case hy => assumption); (case hi => walk_at "mine_fit"); k_whole)))
local macro_rules | `(tactic| walk_at "call builtin:isinstance") => `(tactic| (k_here; k_dflt (refine' isi_list ?hl ?ht ?_; (case hl => walk_at "mine_list"); (case ht => exact News.get (by k_asm) (by k_mem)); k_whole); intro tk'))
local macro_rules | `(tactic| walk_at "mine_ls") => `(tactic| first | assumption )
local macro_rules | `(tactic| walk_at "mine_line") => `(tactic| (have hr9 := Rm.line (by assumption); (try dsimp only); have hr8 := Rm.hu (by assumption); show _ < 9900; omega))
local macro_rules | `(tactic| walk_at "call builtin:min") => `(tactic| (k_here; k_dflt (refine' min_lists ?hl ?H ?sB ?hn ?hh ?hu ?_; (case hl => walk_at "mine_list"); (case H => walk_at "mine_ls"); (case sB => first | exact stays_refl | exact Fr.keep (by k_asm)); (case hn => first | assumption | exact Nat.zero_lt_succ _); (case hh => exact rfl); (case hu => walk_at "mine_line"); k_whole); intro a' k' h' tk' hk' hv' ha' st'; (have F' := fr_stays (by assumption) st'); (have N' := news_stays (by assumption) st'); (try clear st'); (try k_sweep)))
local macro_rules | `(tactic| walk_at "call builtin:max") => `(tactic| (k_here; k_dflt (refine' max_lists ?hl ?H ?sB ?hn ?hh ?hu ?_; (case hl => walk_at "mine_list"); (case H => walk_at "mine_ls"); (case sB => first | exact stays_refl | exact Fr.keep (by k_asm)); (case hn => first | assumption | exact Nat.zero_lt_succ _); (case hh => exact rfl); (case hu => walk_at "mine_line"); k_whole); intro a' k' h' tk' hk' hv' ha' st'; (have F' := fr_stays (by assumption) st'); (have N' := news_stays (by assumption) st'); (try clear st'); (try k_sweep)))
section
local macro_rules | `(tactic| walk_at "mine_pad") => `(tactic| skip)
def EJ (k1 k2 : List (Str × Tok)) (m₀ : Str → Option Value) (n₀ : List (Addr × Obj)) (i : Nat) (m : Str → Option Value) (nx : List (Addr × Obj)) : Prop :=
  nx = n₀ ∧ (k1.map (·.1)).take i = (k2.map (·.1)).take i ∧ ∀ z, z ≠ Str.ofString "i" → z ≠ Str.ofString "c" → m z = m₀ z
set_option maxHeartbeats 4000000 in
theorem c_commonprefix {prog : Program} {w : World} {dp un : Nat} {fr : Option (List Env)} {gd : Option (List Code)} {R : Result → Shared → Prop} {s : Shared} {mean : ExcName → Option Value} {mg mb : Str → Option Value}
    {am a b : Addr} {ka kb : List (Str × Tok)}
    (X : (tp.heap_39 w.params).In s.heap) (T : Top tp.view_39 [Str.ofString "relpath"] mean mg mb s.heap) (r : Rm dp un 4)
    (hm : s.heap.IsList am [.ref a, .ref b].toArray) (ha : s.heap.IsList a (strValues ka).toArray) (hb : s.heap.IsList b (strValues kb).toArray) (hka : ka.length ≤ 5000) (hkb : kb.length ≤ 5000)
    (h : ∀ h' q kq tk', s.heap.StaysIn h' → h'.IsList q (strValues kq).toArray → kq.length = cpl (ka.map (·.1)) (kb.map (·.1)) → R (.ok (.ret (.ref q))) { s with heap := h', toks := tk' }) :
    codeAny (model prog w) (AA dp un fr gd) (.call (.ref 108) ⟨[.ref am], []⟩) R s := by
  refine' enter [(Str.ofString "m", .ref am)] X T ?k6 ?k7 ?k8 ?k9 ?kB ?_ ?c2 ?c3 ?c4 ?c5
  walk_at "mine_in"
  walk_at "mine_go"
  · rename Fr _ _ _ _ => F
    have hL : LsAre s.heap [.ref a, .ref b] [ka, kb] := by
      refine ⟨rfl, fun i v k hv hk => ?_⟩
      match i, hv, hk with
      | 0, hv, hk => cases hv; cases hk; exact ⟨a, rfl, ha⟩
      | 1, hv, hk => cases hv; cases hk; exact ⟨b, rfl, hb⟩
    walk_at "mine_go"
    rename Fr _ _ _ _ => F
    rename News _ _ _ _ => N
    rename [ka, kb][argBest (btL [ka, kb]) _]? = some _ => hk1
    rename [ka, kb][argBest (btG [ka, kb]) _]? = some _ => hk2
    rename_i a1 k1 _ _ _ ha1 _ _ a2 k2 _ _ _ ha2 _
    obtain ⟨hlt, hcp, hc1, hc2⟩ := two_best hk1 hk2
    have hz1 : k1.length ≤ 5000 := by rcases hc1 with rfl | rfl <;> assumption
    have hz2 : k2.length ≤ 5000 := by rcases hc2 with rfl | rfl <;> assumption
    refine call_enum_list rfl (by assumption) (StrsAre.areOf (sv_are k1)) F N ?_
    clear F N
    intro h1 e1 F N hS
    dsimp only
    refine PairSrcL.at hS _ rfl _ _ _ _ (EJ k1 k2 _ _) ⟨rfl, rfl, fun _ _ _ => rfl⟩ ?_ ?_
    · clear F N hS
      rintro i y t v m₁ news₁ s₁ own ⟨h2, tk2, rfl⟩ hy hv ⟨rfl, hpre, hm⟩ _ _ F N
      obtain ⟨ty, rfl⟩ := ItemKind.str_is hv
      replace F := Fr.names2 F hm
      dsimp only at F
      have hi1 : i < k1.length := by have := (List.getElem?_eq_some_iff.mp hy).1; simpa using this
      have hi2 : i < k2.length := by have := lexLt_pre hlt hpre (by simpa using hi1); simpa using this
      obtain ⟨⟨y2, ty2⟩, hy2⟩ : ∃ p, k2[i]? = some p := ⟨_, List.getElem?_eq_getElem hi2⟩
      walk_at "mine_go"
      · refine h _ _ (k1.take i) _ (Fr.keep (by assumption)) ?_ ?_
        · have e := News.isList (by assumption) (List.Mem.head _)
          simpa [strValues] using e
        · rw [List.length_take, ← hcp, cpl_at hpre hy (by rw [List.getElem?_map, hy2]; rfl) (by simpa using ‹(y != y2) = true›)]
          omega
      · have e : y = y2 := by simpa using ‹(y != y2) = false›
        subst e
        refine ⟨rfl, ?_, fun z h1 h2 => by simp only [if_neg h1, if_neg h2]⟩
        rw [List.take_add_one, List.take_add_one, hpre, hy, List.getElem?_map, hy2]
        rfl
    · clear F N hS
      rintro h2 tk2 m₁ nx F N _ ⟨rfl, hpre, hm⟩
      replace F := Fr.only2 F hm
      (try dsimp only at F)
      walk_at "mine_go"
      refine h _ _ k1 _ (Fr.keep (by assumption)) (Fr.lst (by assumption) ha1) ?_
      rw [← hcp, cpl_whole hpre]
      simp
local macro_rules | `(tactic| walk_at "call ref") => `(tactic| (k_here; k_dflt (refine' wpAny_call (c_commonprefix ?X ?T ?r ?hm ?ha ?hb ?za ?zb ?_); walk_at "mine_xtr"; (case hm => walk_at "mine_list"); (case ha => walk_at "mine_list"); (case hb => walk_at "mine_list"); (case za => walk_at "mine_len"); (case zb => walk_at "mine_len"); k_whole); intro h' q' kq' tk' st' hq' hlen'; walk_at "mine_post"))
end
section
/-! texts and names, no program in sight -/
theorem sl_is : Str.ofString "/" = ⟨#[47]⟩ := by decide +kernel
def NoSl (w : Str) : Prop := 47 ∉ w.cps.toList
theorem free_inj : ∀ {w v X Y : List Nat}, 47 ∉ w → 47 ∉ v → w ++ 47 :: X = v ++ 47 :: Y → w = v ∧ X = Y
  | [], [], _, _, _, _, h => by simpa using h
  | [], b :: v, _, _, _, hv, h => by simp at h; simp [h.1] at hv
  | a :: w, [], _, _, hw, _, h => by simp at h; simp [h.1] at hw
  | a :: w, b :: v, X, Y, hw, hv, h => by
    simp only [List.cons_append, List.cons.injEq] at h
    obtain ⟨rfl, h⟩ := h
    have := free_inj (fun m => hw (.tail _ m)) (fun m => hv (.tail _ m)) h
    exact ⟨by rw [this.1], this.2⟩
theorem join_one (c x : Str) : Str.join c [x] = x := rfl
theorem join_two (c x y : Str) (r : List Str) : Str.join c (x :: y :: r) = x ++ c ++ Str.join c (y :: r) := rfl
theorem join_inj : ∀ {ws vs : List Str}, ws ≠ [] → vs ≠ [] → (∀ w ∈ ws, NoSl w) → (∀ w ∈ vs, NoSl w) → Str.join ⟨#[47]⟩ ws = Str.join ⟨#[47]⟩ vs → ws = vs
  | [], _, h, _, _, _, _ => absurd rfl h
  | _, [], _, h, _, _, _ => absurd rfl h
  | [w], [v], _, _, _, _, h => by rw [join_one, join_one] at h; rw [h]
  | [w], v :: v2 :: r, _, _, hw, _, h => by
    rw [join_one, join_two] at h
    exact absurd (show 47 ∈ w.cps.toList by rw [h]; simp [Str.cps_append, Str.cps_append]) (hw w (.head _))
  | w :: w2 :: r, [v], _, _, _, hv, h => by
    rw [join_one, join_two] at h
    exact absurd (show 47 ∈ v.cps.toList by rw [← h]; simp [Str.cps_append]) (hv v (.head _))
  | w :: w2 :: r, v :: v2 :: q, _, _, hw, hv, h => by
    rw [join_two, join_two] at h
    have e := congrArg (fun z : Str => z.cps.toList) h
    simp only [Str.cps_append, Array.toList_append, List.append_assoc, List.cons_append, List.nil_append] at e
    obtain ⟨e1, e2⟩ := free_inj (hw w (.head _)) (hv v (.head _)) e
    have e3 : w = v := Str.ext' (Array.toList_inj.mp e1)
    have e4 : Str.join ⟨#[47]⟩ (w2 :: r) = Str.join ⟨#[47]⟩ (v2 :: q) := Str.ext' (Array.toList_inj.mp e2)
    rw [e3, join_inj (by simp) (by simp) (fun z hz => hw z (.tail _ hz)) (fun z hz => hv z (.tail _ hz)) e4]
theorem split_join {ws : List Str} (h : ws ≠ []) (hw : ∀ w ∈ ws, NoSl w) : Txt.split (Str.join (Str.ofString "/") ws) (Str.ofString "/") = ws := by
  rw [sl_is]
  have h1 := StrLaws.join_split (Str.join ⟨#[47]⟩ ws) ⟨#[47]⟩
  have h2 := StrLaws.split_free (Str.join ⟨#[47]⟩ ws) 47
  have h3 := split_pos (Str.join ⟨#[47]⟩ ws) ⟨#[47]⟩
  exact join_inj (fun q => by rw [q] at h3; simp at h3) h h2 hw h1
theorem tjoin (c : Str) (ws : List Str) : Txt.join c ws = Str.join c ws := StrLaws.glued_eq_join c ws
abbrev ch (x : Str) : List Nat := x.cps.toList
theorem ch_ext {x y : Str} (h : ch x = ch y) : x = y := Str.ext' (Array.toList_inj.mp h)
theorem ch_app (x y : Str) : ch (x ++ y) = ch x ++ ch y := by simp [ch, Str.cps_append]
theorem ch_sl : ch (Str.ofString "/") = [47] := by rw [sl_is]
theorem ch_len (x : Str) : (ch x).length = x.length := by simp [ch, Str.length]
/-- the text does not open with a slash -/
def NH (z : Str) : Prop := ∀ r, ch z ≠ 47 :: r
theorem slice_is (x : Str) (l u : Option Int) : Txt.slice x l u = StrLaws.sliceText x l u := rfl
theorem slice_head (z : Str) : Txt.slice (Str.ofString "/" ++ z) none (some 1) = Str.ofString "/" := by
  rw [slice_is, StrLaws.sliceText_to ⟨by decide, by show _ ≤ ((ch (Str.ofString "/" ++ z)).length : Int); rw [ch_app, ch_sl]; simp; try omega⟩]
  refine ch_ext ?_
  show ((ch (Str.ofString "/" ++ z)).drop 0).take (1 - 0 : Int).toNat = _
  rw [ch_app, ch_sl]
  rfl
theorem slice_tail (z : Str) : Txt.slice (Str.ofString "/" ++ z) (some 1) none = z := by
  rw [slice_is, StrLaws.sliceText_from ⟨by decide, by show _ ≤ ((ch (Str.ofString "/" ++ z)).length : Int); rw [ch_app, ch_sl]; simp; try omega⟩]
  refine ch_ext ?_
  show ((ch (Str.ofString "/" ++ z)).drop (1 : Int).toNat).take ((ch (Str.ofString "/" ++ z)).length - 1 : Int).toNat = _
  rw [ch_app, ch_sl]
  show (ch z).take _ = _
  rw [List.take_of_length_le]
  simp
theorem slice_next {z : Str} (h : NH z) : Txt.slice (Str.ofString "/" ++ z) (some 1) (some 2) ≠ Str.ofString "/" := by
  intro e
  have e' := congrArg ch e
  rw [ch_sl, slice_is] at e'
  by_cases hz : z.length = 0
  · have hz' : ch z = [] := List.length_eq_zero_iff.mp (by rw [ch_len]; exact hz)
    have hx : Str.ofString "/" ++ z = Str.ofString "/" := ch_ext (by rw [ch_app, hz', List.append_nil])
    rw [hx] at e'
    revert e'
    decide +kernel
  · rw [StrLaws.sliceText_plain ⟨by decide, by decide, by show _ ≤ ((ch (Str.ofString "/" ++ z)).length : Int); rw [ch_app, ch_sl, List.length_append]; have := ch_len z; show (2 : Int) ≤ ((1 + (ch z).length : Nat) : Int); omega⟩] at e'
    replace e' : ((ch (Str.ofString "/" ++ z)).drop 1).take 1 = [47] := e'
    rw [ch_app, ch_sl] at e'
    cases hc : ch z with
    | nil => exact hz (by rw [← ch_len, hc]; rfl)
    | cons c r =>
      rw [hc] at e'
      simp at e'
      exact h r (by rw [hc, e'])
theorem starts_sl (z : Str) : Txt.startswith (Str.ofString "/" ++ z) (Str.ofString "/") = true := by
  unfold Txt.startswith
  rw [StrLaws.subAt_eq]
  have h1 : (Str.ofString "/").length = 1 := len_sl
  have h2 := Str.length_append (Str.ofString "/") z
  rw [Bool.and_eq_true, decide_eq_true_eq]
  refine ⟨by omega, ?_⟩
  rw [beq_iff_eq]
  show ((ch (Str.ofString "/" ++ z)).drop 0).take _ = ch (Str.ofString "/")
  rw [ch_app, ch_sl, h1]
  rfl
theorem sl_goes (c : Nat) : (Str.ofString "/").cps.contains c = (c == 47) := by rw [sl_is]; simp; rfl
theorem lstrip_sl {z : Str} (h : NH z) : Txt.lstripChars (Str.ofString "/" ++ z) (Str.ofString "/") = z := by
  unfold Txt.lstripChars
  rw [PyProof.Rows.stripBy_eq]
  refine ch_ext ?_
  rw [ch, StrLaws.strSub_toList]
  have e : (stripLo (Str.ofString "/").cps.contains true (Str.ofString "/" ++ z)) = 1 := by
    show ((ch (Str.ofString "/" ++ z)).takeWhile _).length = 1
    rw [ch_app, ch_sl]
    simp only [List.cons_append, List.nil_append, List.takeWhile_cons, sl_goes, beq_self_eq_true, if_true, List.length_cons]
    cases hc : ch z with
    | nil => rfl
    | cons c r =>
      have : c ≠ 47 := fun q => h r (by rw [hc, q])
      rw [List.takeWhile_cons, sl_goes, if_neg (by simpa using this)]
      rfl
  have e2 : stripHi (Str.ofString "/").cps.contains false (Str.ofString "/" ++ z) 1 = (Str.ofString "/" ++ z).length := rfl
  rw [e, e2]
  show ((ch (Str.ofString "/" ++ z)).drop 1).take _ = _
  rw [ch_app, ch_sl, Str.length_append, len_sl]
  show (ch z).take _ = _
  rw [List.take_of_length_le]
  rw [ch_len]; omega
theorem rstrip_sl {z : Str} (h : ∀ r, ch z ≠ r ++ [47]) : Txt.rstripChars (z ++ Str.ofString "/") (Str.ofString "/") = z := by
  unfold Txt.rstripChars
  rw [PyProof.Rows.stripBy_eq]
  refine ch_ext ?_
  rw [ch, StrLaws.strSub_toList]
  have e0 : (stripLo (Str.ofString "/").cps.contains false (z ++ Str.ofString "/")) = 0 := rfl
  have e : stripHi (Str.ofString "/").cps.contains true (z ++ Str.ofString "/") 0 = z.length := by
    show (z ++ Str.ofString "/").length - (((ch (z ++ Str.ofString "/")).drop 0).reverse.takeWhile _).length = _
    rw [ch_app, ch_sl, List.drop_zero, List.reverse_append, Str.length_append, len_sl]
    simp only [List.reverse_cons, List.reverse_nil, List.nil_append, List.cons_append, List.takeWhile_cons, sl_goes, beq_self_eq_true, if_true, List.length_cons]
    have e1 : ((ch z).reverse.takeWhile (Str.ofString "/").cps.contains) = [] := by
      cases hc : (ch z).reverse with
      | nil => rfl
      | cons c r =>
        have hz : ch z = r.reverse ++ [c] := by rw [← List.reverse_reverse (ch z), hc, List.reverse_cons]
        have : c ≠ 47 := fun q => h r.reverse (by rw [hz, q])
        rw [List.takeWhile_cons, sl_goes, if_neg (by simpa using this)]
    rw [e1]
    rfl
  rw [e0, e]
  show ((ch (z ++ Str.ofString "/")).drop 0).take _ = _
  rw [ch_app, List.drop_zero, Nat.sub_zero, List.take_append_of_le_length (by rw [ch_len]; exact Nat.le_refl _), List.take_of_length_le (by rw [ch_len]; exact Nat.le_refl _)]
/-- where the last slash stands -/
theorem rfind_sl {a b : Str} (h : NoSl b) : Txt.rfind (a ++ Str.ofString "/" ++ b) (Str.ofString "/") = a.length := by
  have hs := StrLaws.last_spec (a ++ Str.ofString "/" ++ b) (Str.ofString "/")
  have hat : ∀ i, StrLaws.At (a ++ Str.ofString "/" ++ b) (Str.ofString "/") (a ++ Str.ofString "/" ++ b).length i ↔ (ch (a ++ Str.ofString "/" ++ b))[i]? = some 47 := fun i => by
    rw [sl_is]
    exact StrLaws.subAt_one _ 47 i
  have hch : ch (a ++ Str.ofString "/" ++ b) = ch a ++ 47 :: ch b := by rw [ch_app, ch_app, ch_sl]; simp
  have here : (ch (a ++ Str.ofString "/" ++ b))[a.length]? = some 47 := by
    rw [hch, ← ch_len a, List.getElem?_append_right (Nat.le_refl _), Nat.sub_self]; rfl
  have above : ∀ i, a.length < i → (ch (a ++ Str.ofString "/" ++ b))[i]? ≠ some 47 := fun i hi q => by
    rw [hch, List.getElem?_append_right (by rw [ch_len]; omega)] at q
    obtain ⟨j, hj⟩ : ∃ j, i - (ch a).length = j + 1 := ⟨i - (ch a).length - 1, by rw [ch_len]; omega⟩
    rw [hj, List.getElem?_cons_succ] at q
    exact h (List.mem_of_getElem? q)
  unfold Txt.rfind
  rcases hs with ⟨_, hn⟩ | ⟨i, he, hi, hgt⟩
  · exact absurd ((hat _).mpr here) (hn _)
  · rw [he]
    have h1 : ¬ a.length < i := fun q => above i q ((hat i).mp hi)
    have h2 : ¬ i < a.length := fun q => hgt _ q ((hat _).mpr here)
    show ((i : Nat) : Int) = _
    omega
end
section
structure Nm (n : Str) : Prop where
  free : NoSl n
  ne : n.length ≠ 0
  nd : n ≠ Str.ofString "."
  ndd : n ≠ Str.ofString ".."
  short : n.length ≤ 6
def J (ns : List Str) : Str := Txt.join (Str.ofString "/") ns
def P (ns : List Str) : Str := Str.ofString "/" ++ J ns
theorem J_nil : J [] = Str.empty := rfl
theorem J_one (n : Str) : J [n] = n := rfl
theorem J_two (n m : Str) (r : List Str) : J (n :: m :: r) = n ++ Str.ofString "/" ++ J (m :: r) := by
  unfold J; rw [tjoin, tjoin]; rfl
theorem ch_empty : ch Str.empty = [] := rfl
theorem Nm.head {n : Str} (h : Nm n) : ∃ c r, ch n = c :: r ∧ c ≠ 47 := by
  cases hc : ch n with
  | nil => exact absurd (by rw [← ch_len, hc]; rfl) h.ne
  | cons c r => exact ⟨c, r, rfl, fun q => h.free (by rw [show n.cps.toList = ch n from rfl, hc, q]; exact .head _)⟩
theorem NH_app {a z : Str} (h : Nm a) : NH (a ++ z) := fun r q => by
  obtain ⟨c, t, hc, hn⟩ := h.head
  rw [ch_app, hc] at q
  exact hn (List.cons.inj q).1
theorem NH_J : ∀ {ns : List Str}, (∀ n ∈ ns, Nm n) → NH (J ns)
  | [], _, r, q => by simp [J_nil, ch_empty] at q
  | [n], h, r, q => by
    obtain ⟨c, t, hc, hn⟩ := (h n (.head _)).head
    rw [J_one, hc] at q
    exact hn (List.cons.inj q).1
  | n :: m :: t, h, r, q => by
    rw [J_two, Str.append_assoc] at q
    exact NH_app (h n (.head _)) r q
theorem J_end : ∀ {ns : List Str}, ns ≠ [] → (∀ n ∈ ns, Nm n) → ∀ r, ch (J ns) ≠ r ++ [47]
  | [], h, _, _, _ => h rfl
  | [n], _, h, r, q => by
    rw [J_one] at q
    exact (h n (.head _)).free (by rw [show n.cps.toList = ch n from rfl, q]; simp)
  | n :: m :: t, _, h, r, q => by
    rw [J_two, ch_app, ch_app, ch_sl] at q
    have ih := J_end (ns := m :: t) (by simp) (fun z hz => h z (.tail _ hz))
    have hne : ch (J (m :: t)) ≠ [] := fun e => by
      have h1 := (h m (.tail _ (.head _))).ne
      have h2 : (ch (J (m :: t))).length = 0 := by rw [e]; rfl
      cases t with
      | nil => rw [J_one, ch_len] at h2; exact h1 h2
      | cons k t => rw [J_two, ch_app, ch_app, List.length_append, List.length_append, ch_len] at h2; omega
    obtain ⟨l, c, hl⟩ : ∃ l c, ch (J (m :: t)) = l ++ [c] := ⟨_, _, (List.dropLast_concat_getLast hne).symm⟩
    rw [hl, ← List.append_assoc] at q
    have e := List.append_inj' q rfl
    exact ih l (by rw [hl, e.2])
theorem J_snoc : ∀ {f : List Str} {b : Str}, f ≠ [] → J (f ++ [b]) = J f ++ Str.ofString "/" ++ b
  | [], _, h => absurd rfl h
  | [n], b, _ => by rw [J_one, show [n] ++ [b] = n :: b :: [] from rfl, J_two, J_one]
  | n :: m :: t, b, _ => by
    have ih := J_snoc (f := m :: t) (b := b) (by simp)
    rw [show (n :: m :: t) ++ [b] = n :: m :: (t ++ [b]) from rfl, J_two, show m :: (t ++ [b]) = (m :: t) ++ [b] from rfl, ih, J_two]
    simp only [Str.append_assoc]
theorem P_snoc {f : List Str} {b : Str} : P (f ++ [b]) = (if f = [] then Str.empty else P f) ++ Str.ofString "/" ++ b := by
  by_cases h : f = []
  · subst h; rw [if_pos rfl, Str.empty_append]; rfl
  · rw [if_neg h]; unfold P; rw [J_snoc h]; simp only [Str.append_assoc]
theorem base_cut {a b : Str} (h : NoSl b) : baseS (a ++ Str.ofString "/" ++ b) = b := by
  unfold baseS
  rw [rfind_sl h, slice_is]
  have hl : (ch (a ++ Str.ofString "/" ++ b)).length = a.length + 1 + b.length := by rw [ch_app, ch_app, ch_sl, List.length_append, List.length_append, ch_len, ch_len]; rfl
  rw [StrLaws.sliceText_from ⟨by omega, by show _ ≤ ((ch (a ++ Str.ofString "/" ++ b)).length : Int); omega⟩]
  refine ch_ext ?_
  show ((ch (a ++ Str.ofString "/" ++ b)).drop ((a.length : Int) + 1).toNat).take (((ch (a ++ Str.ofString "/" ++ b)).length : Int) - ((a.length : Int) + 1)).toNat = _
  rw [hl, show ((a.length : Int) + 1).toNat = a.length + 1 by omega, List.take_of_length_le (by rw [List.length_drop, hl]; omega), ch_app, ch_app, ch_sl, List.drop_append_of_le_length (by rw [List.length_append, ch_len]; exact Nat.le_refl _), List.drop_of_length_le (by rw [List.length_append, ch_len]; exact Nat.le_refl _)]
  rfl
theorem head_cut {a b : Str} (h : NoSl b) : headS (a ++ Str.ofString "/" ++ b) = a ++ Str.ofString "/" := by
  unfold headS
  rw [rfind_sl h, slice_is]
  have hl : (ch (a ++ Str.ofString "/" ++ b)).length = a.length + 1 + b.length := by rw [ch_app, ch_app, ch_sl, List.length_append, List.length_append, ch_len, ch_len]; rfl
  rw [StrLaws.sliceText_to ⟨by omega, by show _ ≤ ((ch (a ++ Str.ofString "/" ++ b)).length : Int); omega⟩]
  refine ch_ext ?_
  show ((ch (a ++ Str.ofString "/" ++ b)).drop 0).take (((a.length : Int) + 1) - 0).toNat = _
  rw [show (((a.length : Int) + 1) - 0).toNat = a.length + 1 by omega, List.drop_zero, ch_app, ch_app, ch_sl, List.take_append_of_le_length (by rw [List.length_append, ch_len]; exact Nat.le_refl _), List.take_of_length_le (by rw [List.length_append, ch_len]; exact Nat.le_refl _)]
theorem mul_all (n : Int) : ∀ c ∈ ch (Txt.mul (Str.ofString "/") n), c = 47 := by
  have fold : ∀ (k : Nat) (acc : Array Nat), (∀ c ∈ acc.toList, c = 47) → ∀ c ∈ ((List.replicate k (Str.ofString "/").cps).foldl (· ++ ·) acc).toList, c = 47 := by
    intro k
    induction k with
    | zero => intro acc h; exact h
    | succ k ih =>
      intro acc h
      rw [List.replicate_succ, List.foldl_cons]
      refine ih _ fun c hc => ?_
      rw [Array.toList_append] at hc
      rcases List.mem_append.mp hc with hc | hc
      · exact h c hc
      · rw [sl_is] at hc; exact List.mem_singleton.mp hc
  unfold Txt.mul
  split
  · intro c hc; cases hc
  · split
    · rw [ch_sl]; intro c hc; exact List.mem_singleton.mp hc
    · exact fold _ _ (fun c hc => by cases hc)
theorem J_ne {f : List Str} (e : f ≠ []) (hf : ∀ n ∈ f, Nm n) : ∃ c r, ch (J f) = c :: r ∧ c ≠ 47 := by
  cases hc : ch (J f) with
  | nil =>
    exfalso
    cases f with
    | nil => exact e rfl
    | cons n t =>
      have h1 := (hf n (.head _)).ne
      have h2 : (ch (J (n :: t))).length = 0 := by rw [hc]; rfl
      cases t with
      | nil => rw [J_one, ch_len] at h2; exact h1 h2
      | cons k t => rw [J_two, ch_app, ch_app, List.length_append, List.length_append, ch_len] at h2; omega
  | cons c r => exact ⟨c, r, rfl, fun q => NH_J hf r (by rw [hc, q])⟩
theorem base_P {f : List Str} {b : Str} (h : NoSl b) : baseS (P (f ++ [b])) = b := by rw [P_snoc]; exact base_cut h
theorem dir_P {f : List Str} {b : Str} (hf : ∀ n ∈ f, Nm n) (h : NoSl b) : dirS (P (f ++ [b])) = P f := by
  have hd : headS (P (f ++ [b])) = (if f = [] then Str.empty else P f) ++ Str.ofString "/" := by rw [P_snoc]; exact head_cut h
  by_cases e : f = []
  · subst e
    rw [if_pos rfl, Str.empty_append] at hd
    unfold dirS
    rw [hd]
    rw [show P [] = Str.ofString "/" from ch_ext (by unfold P; rw [ch_app, J_nil, ch_empty, List.append_nil])]
    decide +kernel
  · rw [if_neg e] at hd
    have hr : Txt.rstripChars (P f ++ Str.ofString "/") (Str.ofString "/") = P f := rstrip_sl fun r q => by
      have hJ := J_end e hf
      unfold P at q
      rw [ch_app, ch_sl] at q
      have hne : ch (J f) ≠ [] := fun z => by
        cases f with
        | nil => exact e rfl
        | cons n t =>
          have h1 := (hf n (.head _)).ne
          have h2 : (ch (J (n :: t))).length = 0 := by rw [z]; rfl
          cases t with
          | nil => rw [J_one, ch_len] at h2; exact h1 h2
          | cons k t => rw [J_two, ch_app, ch_app, List.length_append, List.length_append, ch_len] at h2; omega
      obtain ⟨l, c, hl⟩ : ∃ l c, ch (J f) = l ++ [c] := ⟨_, _, (List.dropLast_concat_getLast hne).symm⟩
      rw [hl, ← List.append_assoc] at q
      have e := List.append_inj' q rfl
      exact hJ l (by rw [hl, e.2])
    unfold dirS
    rw [hd]
    by_cases c : (((P f ++ Str.ofString "/").length : Int) ≠ 0 ∧ (P f ++ Str.ofString "/" != Txt.mul (Str.ofString "/") ((P f ++ Str.ofString "/").length : Int)) = true)
    · rw [if_pos c, hr]
    · exfalso
      refine c ⟨by rw [Str.length_append, len_sl]; omega, ?_⟩
      obtain ⟨c, r, hJ, hc⟩ := J_ne e hf
      rw [bne_iff_ne]
      intro q
      refine hc (mul_all ((P f ++ Str.ofString "/").length : Int) c ?_)
      rw [← q, P, ch_app, ch_app, ch_sl, hJ]
      simp
theorem nstep_nm {st : List Str} {n : Str} (h : Nm n) : nstep st n = st ++ [n] := by
  unfold nstep
  rw [if_neg (fun q => q.elim h.ne h.nd), if_pos (.inl h.ndd)]
theorem norm_names : ∀ {ns : List Str} (st : List Str), (∀ n ∈ ns, Nm n) → ns.foldl nstep st = st ++ ns
  | [], st, _ => by simp
  | n :: r, st, h => by
    rw [List.foldl_cons, nstep_nm (h n (.head _)), norm_names (ns := r) _ fun z hz => h z (.tail _ hz)]
    simp
theorem normS_sl (z : Str) : normS (Str.ofString "/" ++ z) = P (normL (Txt.split z (Str.ofString "/"))) := by
  unfold normS P J
  rw [slice_tail]
theorem split_J {ns : List Str} (h : ns ≠ []) (hn : ∀ n ∈ ns, NoSl n) : Txt.split (J ns) (Str.ofString "/") = ns := by
  unfold J; rw [tjoin]; exact split_join h hn
theorem split_empty : Txt.split Str.empty (Str.ofString "/") = [Str.empty] := by
  have := split_join (ws := [Str.empty]) (by simp) (fun w hw => by rw [List.mem_singleton.mp hw]; intro q; cases q)
  exact this
theorem nstep_skip {st : List Str} : nstep st Str.empty = st := if_pos (.inl rfl)
theorem normS_P {ns : List Str} (h : ∀ n ∈ ns, Nm n) : normS (P ns) = P ns := by
  unfold P
  rw [normS_sl]
  by_cases e : ns = []
  · subst e
    rw [J_nil, split_empty]
    rfl
  · rw [split_J e fun n hn => (h n hn).free, normL, norm_names [] h]
    rfl
theorem J_len : ∀ {ns : List Str}, (∀ n ∈ ns, Nm n) → (J ns).length ≤ 7 * ns.length
  | [], _ => Nat.zero_le _
  | [n], h => by have := (h n (.head _)).short; rw [J_one]; simp; omega
  | n :: m :: t, h => by
    have h1 := (h n (.head _)).short
    have h2 := J_len (ns := m :: t) fun z hz => h z (.tail _ hz)
    rw [J_two, Str.length_append, Str.length_append, len_sl]
    simp only [List.length_cons] at h2 ⊢
    omega
theorem P_len {ns : List Str} (h : ∀ n ∈ ns, Nm n) : (P ns).length ≤ 1 + 7 * ns.length := by
  have := J_len h
  unfold P; rw [Str.length_append, len_sl]; omega
theorem P_pos (ns : List Str) : 0 < (P ns).length := by unfold P; rw [Str.length_append, len_sl]; omega
theorem tail_P {ns : List Str} (h : ∀ n ∈ ns, Nm n) : Txt.lstripChars (P ns) (Str.ofString "/") = J ns := lstrip_sl (NH_J h)
theorem tail_names {ns : List Str} (h : ∀ n ∈ ns, Nm n) (hl : ((Txt.lstripChars (P ns) (Str.ofString "/")).length : Int) ≠ 0) : Txt.split (Txt.lstripChars (P ns) (Str.ofString "/")) (Str.ofString "/") = ns := by
  rw [tail_P h] at hl ⊢
  exact split_J (fun e => hl (by rw [e]; rfl)) fun n hn => (h n hn).free
theorem tail_none {ns : List Str} (h : ∀ n ∈ ns, Nm n) (hl : ((Txt.lstripChars (P ns) (Str.ofString "/")).length : Int) = 0) : [] = ns := by
  rw [tail_P h] at hl
  cases hn : ns with
  | nil => rfl
  | cons n r =>
    exfalso
    obtain ⟨c, t, hc, _⟩ := J_ne (f := ns) (by rw [hn]; simp) h
    have := ch_len (J ns)
    rw [hc] at this
    simp at this
    omega
end
section
theorem sv_app (a b : List (Str × Tok)) : strValues a ++ strValues b = strValues (a ++ b) := by simp [strValues]
theorem pick_to_sv (k : List (Str × Tok)) (i : Nat) : slicePick (strValues k).toArray none (some (i : Int)) none = (strValues (k.take i)).toArray := by rw [pick_to]; simp [strValues]
theorem pick_from_sv (k : List (Str × Tok)) (i : Nat) : slicePick (strValues k).toArray (some (i : Int)) none none = (strValues (k.drop i)).toArray := by rw [pick_from]; simp [strValues]
theorem sv_rep (y : Str) (t : Tok) : ∀ n : Nat, (List.replicate n [Value.str y t]).flatten = strValues (List.replicate n (y, t))
  | 0 => rfl
  | n + 1 => by rw [List.replicate_succ, List.flatten_cons, sv_rep y t n]; rfl
section
variable {prog : Program} {w : World} {A : Around} {E : Value → Shared → Prop} {s : Shared} {h₀ : Heap} {L a b l : Addr} {m : Str → Option Value} {news : List (Addr × Obj)} {Q : Value → Shared → Prop}
theorem len_strs {k : List (Str × Tok)} (hl : s.heap.IsList l (strValues k).toArray) (hz : k.length ≤ 100000) (h : Q (.int k.length (s.toks + 1)) { s with toks := s.toks + 1 + 1 }) : wpAny (model prog w) A (call (.builtin "len") [.ref l]) Q E s := by
  refine len_list hl (by rw [List.size_toArray, sv_len]; omega) ?_
  rw [List.size_toArray, sv_len]; exact h
theorem len_vals {vs : List Value} (hl : s.heap.IsList l vs.toArray) (hz : vs.length ≤ 100000) (h : Q (.int vs.length (s.toks + 1)) { s with toks := s.toks + 1 + 1 }) : wpAny (model prog w) A (call (.builtin "len") [.ref l]) Q E s := by
  refine len_list hl (by rw [List.size_toArray]; omega) ?_
  rw [List.size_toArray]; exact h
theorem mul_one {y : Str} {t : Tok} {x : Int} {u : Tok} (F : Fr h₀ L s.heap m) (N : News h₀ L s.heap news) (hl : s.heap.IsList l [Value.str y t].toArray) (h0 : 0 ≤ x) (hx : x ≤ 100)
    (h : ∀ D h', Fr h₀ L h' m → News h₀ L h' ((D, listOf (strValues (List.replicate x.toNat (y, t))).toArray 0) :: news) → (∀ p ∈ news, p.1 < D) → Q (.ref D) { s with heap := h' }) : wpAny (model prog w) A (binaryOp .Mult (.ref l) (.int x u)) Q E s :=
  KMa.mul F N hl (by omega) (by omega) (by simp; omega) (sv_rep y t _) h
theorem add_strs {ka kb : List (Str × Tok)} (F : Fr h₀ L s.heap m) (N : News h₀ L s.heap news) (ha : s.heap.IsList a (strValues ka).toArray) (hb : s.heap.IsList b (strValues kb).toArray) (hz : ka.length + kb.length ≤ 100000)
    (h : ∀ D h', Fr h₀ L h' m → News h₀ L h' ((D, listOf (strValues (ka ++ kb)).toArray 0) :: news) → (∀ p ∈ news, p.1 < D) → Q (.ref D) { s with heap := h' }) : wpAny (model prog w) A (binaryOp .Add (.ref a) (.ref b)) Q E s :=
  kmk_add_lit F N ha hb (sv_app ka kb) h (by simp only [List.toList_toArray, sv_len]; rw [sizeLine_eq]; omega)
theorem join_strs {k : List (Str × Tok)} {ys : List Str} {x : Str} {t : Tok} (hl : s.heap.IsList l (strValues k).toArray) (hok : (ys.map (·.length)).sum + ys.length * x.length ≤ 10050000) (hk : k.map (·.1) = ys)
    (h : ∀ t' n, Q (.str (Txt.join x ys) t') { s with toks := n }) : wpAny (model prog w) A (call (.builtin "str.join") [.str x t, .ref l]) Q E s :=
  join_list hl (hk ▸ sv_are k) (Nat.le_trans hok (by decide)) h
end
local macro_rules | `(tactic| walk_at "mine_fit") => `(tactic| ((try simp only [List.size_toArray, sv_len, List.length_map, List.length_append, List.length_cons, List.length_nil, Array.size_push, List.length_replicate, List.length_drop, List.length_take]); omega))
local macro_rules | `(tactic| walk_at "mine_pick") => `(tactic| first | exact pick_to_sv _ _ | exact pick_from_sv _ _)
local macro_rules | `(tactic| walk_at "call builtin:len") => `(tactic| (k_here; (with_reducible show wpAny _ _ (call (Value.builtin "len") [Value.ref _]) _ _ _); k_dflt (refine' len_vals ?hl ?hz ?_; (case hl => walk_at "mine_list"); (case hz => walk_at "mine_fit"); k_whole); (try simp only [sv_len, List.length_cons, List.length_nil])))
local macro_rules | `(tactic| walk_at "binaryOp Mult ref int") => `(tactic| (k_here; k_dflt (refine' mul_one ?F ?N ?hl ?h0 ?hx ?_; (case F => k_asm); (case N => k_asm); (case hl => walk_at "mine_list"); (case h0 => omega); (case hx => omega); k_whole); intro D' h' F' N' l'; (try k_lt l'); (try k_sweep)))
local macro_rules | `(tactic| walk_at "binaryOp Add ref ref") => `(tactic| (k_here; k_dflt (refine' add_strs ?F ?N ?ha ?hb ?hz ?_; (case F => k_asm); (case N => k_asm); (case ha => walk_at "mine_list"); (case hb => walk_at "mine_list"); (case hz => walk_at "mine_fit"); k_whole); intro D' h' F' N' l'; (try k_lt l'); (try k_sweep)))
local macro_rules | `(tactic| walk_at "call builtin:str.join") => `(tactic| (k_here; (with_reducible show wpAny _ _ (call (Value.builtin "str.join") [Value.str _ _, Value.ref _]) _ _ _); k_dflt (refine' join_strs ?hl ?hok ?hk ?_; (case hl => walk_at "mine_list"); (case hok => assumption); (case hk => walk_at "mine_names"); k_whole); intro t' k'))
end
end
section
local macro_rules | `(tactic| walk_at "call ref") => `(tactic| (k_here; k_dflt (refine' wpAny_call (c_basename ?X ?T ?r ?l ?_); walk_at "mine_xtr"; (case l => walk_at "mine_len"); k_whole); intro h' tk tk' st'; walk_at "mine_post"))
local macro_rules | `(tactic| walk_at "call ref") => `(tactic| (k_here; k_dflt (refine' wpAny_call (c_dirname ?X ?T ?r ?l ?_); walk_at "mine_xtr"; (case l => walk_at "mine_len"); k_whole); intro h' tk tk' st'; walk_at "mine_post"))
local macro_rules | `(tactic| walk_at "call ref") => `(tactic| (k_here; k_dflt (refine' wpAny_call (c_splitroot ?X ?T ?r ?l ?h1 ?h2 ?_); walk_at "mine_xtr"; (case l => walk_at "mine_len"); (case h1 => assumption); (case h2 => assumption); k_whole); intro h' D' t1 t2 t3 tk' st' hD' hn'; (have N' := news_new (by assumption) (by assumption) st' hD' hn'); (have F' := fr_stays (by assumption) st'); (try clear st' hD' hn'); (try k_sweep); (try dsimp only)))
section
local macro_rules | `(tactic| walk_at "subscriptTail Name Name ref int") => `(tactic| (k_here; k_dflt (refine' item_str_at ?hl ?hy ?hi ?_; (case hl => walk_at "mine_list"); (case hy => assumption); (case hi => walk_at "mine_fit"); k_whole)))
local macro_rules | `(tactic| walk_at "call builtin:isinstance") => `(tactic| (k_here; k_dflt (refine' isi_list ?hl ?ht ?_; (case hl => walk_at "mine_list"); (case ht => exact News.get (by k_asm) (by k_mem)); k_whole); intro tk'))
local macro_rules | `(tactic| walk_at "mine_ls") => `(tactic| first | assumption )
local macro_rules | `(tactic| walk_at "mine_line") => `(tactic| (have hr9 := Rm.line (by assumption); (try dsimp only); have hr8 := Rm.hu (by assumption); show _ < 9900; omega))
local macro_rules | `(tactic| walk_at "call builtin:min") => `(tactic| (k_here; k_dflt (refine' min_lists ?hl ?H ?sB ?hn ?hh ?hu ?_; (case hl => walk_at "mine_list"); (case H => walk_at "mine_ls"); (case sB => first | exact stays_refl | exact Fr.keep (by k_asm)); (case hn => first | assumption | exact Nat.zero_lt_succ _); (case hh => exact rfl); (case hu => walk_at "mine_line"); k_whole); intro a' k' h' tk' hk' hv' ha' st'; (have F' := fr_stays (by assumption) st'); (have N' := news_stays (by assumption) st'); (try clear st'); (try k_sweep)))
local macro_rules | `(tactic| walk_at "call builtin:max") => `(tactic| (k_here; k_dflt (refine' max_lists ?hl ?H ?sB ?hn ?hh ?hu ?_; (case hl => walk_at "mine_list"); (case H => walk_at "mine_ls"); (case sB => first | exact stays_refl | exact Fr.keep (by k_asm)); (case hn => first | assumption | exact Nat.zero_lt_succ _); (case hh => exact rfl); (case hu => walk_at "mine_line"); k_whole); intro a' k' h' tk' hk' hv' ha' st'; (have F' := fr_stays (by assumption) st'); (have N' := news_stays (by assumption) st'); (try clear st'); (try k_sweep)))
section
local macro_rules | `(tactic| walk_at "call ref") => `(tactic| (k_here; k_dflt (refine' wpAny_call (c_normpath ?X ?T ?r ?l ?n ?h1 ?h2 ?_); walk_at "mine_xtr"; (case l => walk_at "mine_len"); (case n => walk_at "mine_len"); (case h1 => assumption); (case h2 => assumption); k_whole); intro h' tk tk' st'; walk_at "mine_post"))
section
local macro_rules | `(tactic| walk_at "call ref") => `(tactic| (k_here; k_dflt (refine' wpAny_call (c_abspath ?X ?T ?r ?l ?n ?h0 ?h1 ?h2 ?_); walk_at "mine_xtr"; (case l => walk_at "mine_len"); (case n => walk_at "mine_len"); (case h0 => assumption); (case h1 => assumption); (case h2 => assumption); k_whole); intro h' tk tk' st'; walk_at "mine_post"))
section
local macro_rules | `(tactic| walk_at "call ref") => `(tactic| (k_here; k_dflt (refine' wpAny_call (c_commonprefix ?X ?T ?r ?hm ?ha ?hb ?za ?zb ?_); walk_at "mine_xtr"; (case hm => walk_at "mine_list"); (case ha => walk_at "mine_list"); (case hb => walk_at "mine_list"); (case za => walk_at "mine_len"); (case zb => walk_at "mine_len"); k_whole); intro h' q' kq' tk' st' hq' hlen'; walk_at "mine_post"))
section
local macro_rules | `(tactic| walk_at "mine_fit") => `(tactic| ((try simp only [List.size_toArray, sv_len, List.length_map, List.length_append, List.length_cons, List.length_nil, Array.size_push, List.length_replicate, List.length_drop, List.length_take]); omega))
local macro_rules | `(tactic| walk_at "mine_pick") => `(tactic| first | exact pick_to_sv _ _ | exact pick_from_sv _ _)
local macro_rules | `(tactic| walk_at "call builtin:len") => `(tactic| (k_here; (with_reducible show wpAny _ _ (call (Value.builtin "len") [Value.ref _]) _ _ _); k_dflt (refine' len_vals ?hl ?hz ?_; (case hl => walk_at "mine_list"); (case hz => walk_at "mine_fit"); k_whole); (try simp only [sv_len, List.length_cons, List.length_nil])))
local macro_rules | `(tactic| walk_at "binaryOp Mult ref int") => `(tactic| (k_here; k_dflt (refine' mul_one ?F ?N ?hl ?h0 ?hx ?_; (case F => k_asm); (case N => k_asm); (case hl => walk_at "mine_list"); (case h0 => omega); (case hx => omega); k_whole); intro D' h' F' N' l'; (try k_lt l'); (try k_sweep)))
local macro_rules | `(tactic| walk_at "binaryOp Add ref ref") => `(tactic| (k_here; k_dflt (refine' add_strs ?F ?N ?ha ?hb ?hz ?_; (case F => k_asm); (case N => k_asm); (case ha => walk_at "mine_list"); (case hb => walk_at "mine_list"); (case hz => walk_at "mine_fit"); k_whole); intro D' h' F' N' l'; (try k_lt l'); (try k_sweep)))
local macro_rules | `(tactic| walk_at "call builtin:str.join") => `(tactic| (k_here; (with_reducible show wpAny _ _ (call (Value.builtin "str.join") [Value.str _ _, Value.ref _]) _ _ _); k_dflt (refine' join_strs ?hl ?hok ?hk ?_; (case hl => walk_at "mine_list"); (case hok => assumption); (case hk => walk_at "mine_names"); k_whole); intro t' k'))
section
theorem c_absP {prog : Program} {w : World} {dp un : Nat} {fr : Option (List Env)} {gd : Option (List Code)} {R : Result → Shared → Prop} {s : Shared} {mean : ExcName → Option Value} {mg mb : Str → Option Value} {ns : List Str} {t : Tok}
    (X : (tp.heap_39 w.params).In s.heap) (T : Top tp.view_39 [Str.ofString "relpath"] mean mg mb s.heap) (r : Rm dp un 4) (hn : ∀ n ∈ ns, Nm n) (hl : ns.length ≤ 20)
    (h : ∀ h' tk tk', s.heap.StaysIn h' → R (.ok (.ret (.str (P ns) tk))) { s with heap := h', toks := tk' }) :
    codeAny (model prog w) (AA dp un fr gd) (.call (.ref 181) ⟨[.str (P ns) t], []⟩) R s := by
  have hp := P_len hn
  refine c_abspath X T r (by omega) (P_pos ns) (starts_sl _) (slice_head _) (slice_next (NH_J hn)) ?_
  rw [normS_P hn]
  exact h
local macro_rules | `(tactic| walk_at "call ref") => `(tactic| (k_here; k_dflt (refine' wpAny_call (c_absP ?X ?T ?r ?n ?l ?_); walk_at "mine_xtr"; (case n => assumption); (case l => assumption); k_whole); intro h' tk tk' st'; walk_at "mine_post"))
def relL (s p : List Str) : List Str := List.replicate (s.length - cpl s p) (Str.ofString "..") ++ p.drop (cpl s p)
def routeS (s p : List Str) : Str := if relL s p = [] then Str.ofString "." else J (relL s p)
theorem cpl_le : ∀ a b : List Str, cpl a b ≤ a.length ∧ cpl a b ≤ b.length
  | [], b => ⟨Nat.zero_le _, Nat.zero_le _⟩
  | _ :: _, [] => ⟨Nat.zero_le _, Nat.zero_le _⟩
  | x :: xs, y :: ys => by
    have h := cpl_le xs ys
    unfold cpl
    split
    · exact ⟨Nat.succ_le_succ h.1, Nat.succ_le_succ h.2⟩
    · exact ⟨Nat.zero_le _, Nat.zero_le _⟩
theorem relL_short {py px : List Str} (hx : ∀ n ∈ px, Nm n) : ∀ y ∈ relL py px, y.length ≤ 2000 := fun y hy => by
  rcases List.mem_append.mp hy with h | h
  · rw [(List.mem_replicate.mp h).2]; decide
  · have := (hx y (List.drop_subset _ _ h)).short; omega
theorem relL_len (py px : List Str) (lx : px.length ≤ 20) (ly : py.length ≤ 20) : (relL py px).length ≤ 5000 := by
  unfold relL; rw [List.length_append, List.length_replicate, List.length_drop]; omega
theorem rel_of {k1 k2 kq : List (Str × Tok)} {py px : List Str} {t : Tok} (h1 : k1.map (·.1) = py) (h2 : k2.map (·.1) = px) (hq : kq.length = cpl (k1.map (·.1)) (k2.map (·.1))) :
    (List.replicate ((k1.length : Int) - (kq.length : Int)).toNat (Str.ofString "..", t) ++ k2.drop kq.length).map (·.1) = relL py px := by
  subst h1 h2
  unfold relL
  rw [List.map_append, List.map_replicate, List.map_drop, hq, List.length_map]
  rw [show ((k1.length : Int) - ((cpl (k1.map (·.1)) (k2.map (·.1)) : Nat) : Int)).toNat = k1.length - cpl (k1.map (·.1)) (k2.map (·.1)) by omega]
theorem rel_empty {k1 k2 kq : List (Str × Tok)} {py px : List Str} {t : Tok} (h1 : k1.map (·.1) = py) (h2 : k2.map (·.1) = px) (hq : kq.length = cpl (k1.map (·.1)) (k2.map (·.1)))
    (z : (strValues (List.replicate ((k1.length : Int) - (kq.length : Int)).toNat (Str.ofString "..", t) ++ k2.drop kq.length)).isEmpty = true) : routeS py px = Str.ofString "." := by
  refine if_pos ?_
  rw [List.isEmpty_iff] at z
  have z2 := congrArg List.length z
  rw [sv_len, List.length_nil] at z2
  rw [← rel_of (t := t) h1 h2 hq, List.length_eq_zero_iff.mp z2]
  rfl
theorem rel_some {k1 k2 kq : List (Str × Tok)} {py px : List Str} {t : Tok} (h1 : k1.map (·.1) = py) (h2 : k2.map (·.1) = px) (hq : kq.length = cpl (k1.map (·.1)) (k2.map (·.1)))
    (z : (strValues (List.replicate ((k1.length : Int) - (kq.length : Int)).toNat (Str.ofString "..", t) ++ k2.drop kq.length)).isEmpty = false) : routeS py px = Txt.join (Str.ofString "/") (relL py px) := by
  refine if_neg fun c => sv_ne z ?_
  rw [← rel_of (t := t) h1 h2 hq] at c
  exact List.map_eq_nil_iff.mp c
local macro_rules | `(tactic| walk_at "mine_names") => `(tactic| exact rel_of (by assumption) (by assumption) (by assumption))
set_option maxHeartbeats 8000000 in
theorem c_relpath {prog : Program} {w : World} {dp un : Nat} {fr : Option (List Env)} {gd : Option (List Code)} {R : Result → Shared → Prop} {s : Shared} {mean : ExcName → Option Value} {mg mb : Str → Option Value} {px py : List Str} {t u : Tok}
    (X : (tp.heap_39 w.params).In s.heap) (T : Top tp.view_39 [Str.ofString "relpath"] mean mg mb s.heap) (r : Rm dp un 6) (hx : ∀ n ∈ px, Nm n) (hy : ∀ n ∈ py, Nm n) (lx : px.length ≤ 20) (ly : py.length ≤ 20)
    (h : ∀ h' tk tk', s.heap.StaysIn h' → R (.ok (.ret (.str (routeS py px) tk))) { s with heap := h', toks := tk' }) :
    codeAny (model prog w) (AA dp un fr gd) (.call (.ref 189) ⟨[.str (P px) t, .str (P py) u], []⟩) R s := by
  have hpx := P_len hx
  have hpy := P_len hy
  have hpos := P_pos px
  have zx : (P px).length ≤ 1000 := by omega
  have zy : (P py).length ≤ 1000 := by omega
  refine' enter [(Str.ofString "path", .str (P px) t), (Str.ofString "start", .str (P py) u)] X T ?k6 ?k7 ?k8 ?k9 ?kB ?_ ?c2 ?c3 ?c4 ?c5
  walk_at "mine_in"
  walk_at "mine_go_if"
  · rename Fr _ _ _ _ => F
    rename News _ _ _ _ => N
    (try dsimp only)
    refine' cut_list py ?F ?N ?h1 ?h2
    case F => exact F
    case N => exact N
    · walk_at "mine_go"
      · exact ⟨_, _, _, _, _, rfl, rfl, by assumption, by assumption, (by assumption : List.map _ _ = _).trans (tail_names hy (by assumption))⟩
      · exact ⟨_, _, [], _, _, rfl, rfl, by assumption, by assumption, tail_none hy (by assumption)⟩
    clear F N
    intro h1 a1 k1 tk1 c1 F N hk1
    (try dsimp only)
    walk_at "mine_go_if"
    (try clear F)
    (try clear N)
    rename Fr _ _ _ _ => F
    rename News _ _ _ _ => N
    (try dsimp only)
    refine' cut_list px ?F2 ?N2 ?g1 ?g2
    case F2 => exact F
    case N2 => exact N
    · walk_at "mine_go"
      · exact ⟨_, _, _, _, _, rfl, rfl, by assumption, by assumption, (by assumption : List.map _ _ = _).trans (tail_names hx (by assumption))⟩
      · exact ⟨_, _, [], _, _, rfl, rfl, by assumption, by assumption, tail_none hx (by assumption)⟩
    clear F N
    intro h2 a2 k2 tk2 c2 F N hk2
    (try dsimp only)
    have z1 : k1.length ≤ 5000 := by rw [← List.length_map (f := fun x : Str × Tok => x.1), hk1]; omega
    have z2 : k2.length ≤ 5000 := by rw [← List.length_map (f := fun x : Str × Tok => x.1), hk2]; omega
    have hc1 := cpl_le py px
    have hok := hok_of (ys := relL py px) (sep := Str.ofString "/") (relL_short hx) (relL_len py px lx ly) (by decide)
    have hjl := Nat.le_trans (join_le (ys := relL py px) (sep := Str.ofString "/")) hok
    have zz1 : k1.length = py.length := by rw [← List.length_map (f := fun x : Str × Tok => x.1), hk1]
    have zz2 : k2.length = px.length := by rw [← List.length_map (f := fun x : Str × Tok => x.1), hk2]
    rw [← hk1, ← hk2] at hc1
    simp only [List.length_map] at hc1
    walk_at "mine_go"
    · rw [rel_empty hk1 hk2 (by assumption) (by assumption)] at h
      exact h _ _ _ (Fr.keep (by assumption))
    · rw [rel_some hk1 hk2 (by assumption) (by assumption)] at h
      exact h _ _ _ (Fr.keep (by assumption))
local macro_rules | `(tactic| walk_at "call ref") => `(tactic| (k_here; k_dflt (refine' wpAny_call (c_relpath ?X ?T ?r ?n ?l ?a ?b ?_); walk_at "mine_xtr"; (case n => assumption); (case l => assumption); (case a => assumption); (case b => assumption); k_whole); intro h' tk tk' st'; walk_at "mine_post"))
end
section
/-- a def with a starred parameter: its tuple is laid, then the frame -/
theorem bind_rest {α : Type} {K : Frag} {M : Model} {A : Around} {E : Value → Shared → Prop} {Q : α → Shared → Prop} {s : Shared} {o : Obj} {r : Addr → α} (X : K.In s.heap)
    (q : Q (r s.heap.objs.size) { s with heap := s.heap.push o }) : ∀ (t : Sem α) (g : Addr → Option α), peek1 K ⟨M.prog, M.w.params⟩ t = some (o, g) → (∀ D, g D = some (r D)) → wpAny M A t Q E s := by
  intro t
  induction t with
  | rule _ k ih => intro g e hg Γ p hΓ; exact ih () g e hg Γ p hΓ
  | point _ k ih => intro g e hg Γ p hΓ; exact ih () g e hg Γ p hΓ
  | ask k ih => intro g e hg Γ p hΓ; exact ih _ g e hg Γ p hΓ
  | load a _ k ih =>
    intro g e hg Γ p hΓ
    simp only [peek1] at e
    split at e
    · exact ⟨_, X _ _ ‹_›, ih _ g e hg Γ p hΓ⟩
    · cases e
  | alloc ob k _ =>
    intro g e hg
    obtain ⟨e1, e2⟩ := Prod.mk.inj (Option.some.inj (show some (ob, fun D => peek K ⟨M.prog, M.w.params⟩ (k D)) = some (o, g) from e))
    subst e1 e2
    refine (show wpAny M A (alloc ob >>= k) Q E s from wpAny_bind (wpAny_alloc ?_))
    exact (Looks.of_peek (M := M) (h := s.heap.push ob) (X.keeps fun b x hb => Heap.get?_push_of_some _ hb) (hg s.heap.objs.size)).here (s := { s with heap := s.heap.push ob }) q
  | _ => intro g e; cases e
theorem enter_rest {prog : Program} {w : World} {dp un : Nat} {fr : Option (List Env)} {gd : Option (List Code)} {K : Frag} {R : Result → Shared → Prop} {s : Shared} {p : Program} {loose : List Str} {mean : ExcName → Option Value} {mg mb : Str → Option Value}
    {name qual : Str} {params : Arguments} {body : List Stmt} {scope : Scope} {dV kV doc pm cdv ct oc : Value} {an od : Option Addr} {osl : Array (Option Value)} {f : Addr} {args : Args} {vs : List Value} {g₁ : Addr → Option (List (Str × Value))} (binds : Addr → List (Str × Value))
    (X : K.In s.heap) (T : Top p loose mean mg mb s.heap)
    (ho : K.lookup f = some ⟨oc, od, .func (fnOf name qual params body scope dV kV doc pm an cdv ct), osl⟩) (hcd : codeIn K cdv qual = true) (hroom : dp < recursionLimit)
    (hp : peek1 K ⟨prog, w.params⟩ (bindArgs (fnOf name qual params body scope dV kV doc pm an cdv ct) args) = some (({ cls := .type "tuple", data := .seq vs.toArray } : Obj), g₁))
    (hg : ∀ D, g₁ D = some (binds D)) (hloc : ∀ D, ∀ y ∈ binds D, scope.names.lookup y.1 = some .local)
    (h : ∀ (D : Addr) (b1 : Heap) (L' : Addr) (h₁ : Heap), s.heap.StaysIn b1 → IsTup b1 D vs.toArray → K.In b1 → Top p loose mean mg mb b1 → Fr b1 L' h₁ (fun y => (binds D).reverse.lookup y) →
      wpAny (model prog w) (AA (dp + 1) (un + 3) (fr.map (envOf qual scope L' f cdv :: ·)) gd) (execs body (envOf qual scope L' f cdv))
        (fun fl s' => R (.ok (.ret (match fl with | .ret v => v | _ => .none))) s') (fun _ _ => False)
        { s with heap := h₁, toks := s.toks + (binds D).length })
    (hco : scope.isCoroutine = false) (hgen : scope.isGenerator = false) (hk : scope.kind = .function)
    (hcell : ∀ x ∈ scope.names, x.2 ≠ .cell) : codeAny (model prog w) (AA dp un fr gd) (.call (.ref f) args) R s := by
  refine codeAny_call_function (fd := fnOf name qual params body scope dV kV doc pm an cdv ct) (body := body) hroom (X _ _ ho) rfl hco hgen rfl (codeRec_of X hcd) ?_
  have st : s.heap.StaysIn (s.heap.push { cls := .type "tuple", data := .seq vs.toArray }) := fun b o e => Heap.get?_push_of_some _ e
  refine bind_rest X (r := binds) ?_ _ g₁ hp hg
  refine wpAny_newFunctionEnv hcell (hloc _) (fun h₁ hns hsb => ⟨(T.nolimit.keeps st).fresh _ hsb, codeAny_func ?_⟩) hk
  have hk₁ : ∀ b o, (s.heap.push { cls := .type "tuple", data := .seq vs.toArray }).get? b = some o → h₁.get? b = some o := fun b o e => hsb.extBut b o (Nat.ne_of_lt (Heap.lt_size e)) (Heap.get?_push_of_some _ e)
  exact wpAny_mono (h s.heap.objs.size (s.heap.push { cls := .type "tuple", data := .seq vs.toArray }) _ h₁ st ⟨_, Heap.get?_push_size _ rfl, rfl, _, rfl⟩ (X.keeps st) (T.keeps st) ⟨hns, hk₁, Nat.le_refl _⟩) (fun _ _ x => x) (fun _ _ x => x.elim)
end
section
def TurnOwn (h₀ : Heap) (L : Addr) (J : (Str → Option Value) → Prop) (own : List (Addr × Obj)) (s₁ : Shared) (Q : Flow → Shared → Prop) (f : Flow) (s₂ : Shared) : Prop :=
  match f with
  | .ret v => Q (.ret v) s₂
  | .brk => Q .next s₂
  | _ => ∃ h' tk m' news', s₂ = { s₁ with heap := h', toks := tk } ∧ Fr h₀ L h' m' ∧ News h₀ L h' news' ∧ (∀ p ∈ own, p ∈ news') ∧ J m'
theorem TurnOwn.next {h₀ h' : Heap} {L : Addr} {J : (Str → Option Value) → Prop} {own news' : List (Addr × Obj)} {s₁ : Shared} {Q : Flow → Shared → Prop} {m' : Str → Option Value} {tk : Nat}
    (F : Fr h₀ L h' m') (N : News h₀ L h' news') (ho : ∀ p ∈ own, p ∈ news') (hj : J m') : TurnOwn h₀ L J own s₁ Q .next { s₁ with heap := h', toks := tk } := ⟨h', tk, m', news', rfl, F, N, ho, hj⟩
section
variable {prog : Program} {w : World} {A : Around} {E : Value → Shared → Prop} {s : Shared} {env : Env} {h₀ : Heap} {x : Str} {body : List Stmt} {Q : Flow → Shared → Prop}
/-- a for over a tuple, that turns names alone -/
theorem iter_tup {l : Addr} {vs : List Value} {m₀ : Str → Option Value} (J : Nat → (Str → Option Value) → Prop)
    (hh : A.handled = none) (hls : IsTup s.heap l vs.toArray) (hlL : l ≠ env.locals) (F : Fr h₀ env.locals s.heap m₀) (hj : J 0 m₀)
    (turn : ∀ i v m₁ h tk own, vs[i]? = some v → J i m₁ → Fr h₀ env.locals h (fun y => if y = x then some v else m₁ y) → News h₀ env.locals h own →
      wpAny (model prog w) A (execs body env) (TurnOwn h₀ env.locals (J (i + 1)) own { s with heap := h, toks := tk } Q) E { s with heap := h, toks := tk })
    (done : ∀ m₁ h tk, J vs.length m₁ → Fr h₀ env.locals h m₁ → Q .next { s with heap := h, toks := tk }) :
    wpAny (model prog w) A (pyIter (.ref l)) (fun it s₂ => LoopAtV prog w A h₀ env x body Q E it s₂) E s := by
  obtain ⟨ol, hol, _⟩ := id hls
  have hne : l ≠ s.heap.objs.size := Nat.ne_of_lt (Heap.lt_size hol)
  refine wpAny_pyIter_tuple hls ?_
  have W := Walks.tuple (prog := prog) (w := w) hh s.heap.objs.size l hne vs.toArray
  rw [List.size_toArray] at W
  refine ⟨_, _, _, vs.length, _, _, m₀, [], fun i m nx => nx = [] ∧ J i m, rfl, W, ?_, ?_, (fun p hp => (nomatch hp)), ⟨⟨_, Heap.get?_push_size _ rfl, rfl, rfl⟩, ⟨ol, Heap.get?_push_of_some _ hol, by assumption⟩⟩, F.push _, News.nil, ⟨rfl, hj⟩, ?_, ?_⟩
  · intro hm
    rcases List.mem_cons.mp hm with e | hm
    · exact absurd F.ns.lt (e ▸ Nat.lt_irrefl _)
    · exact hlL (List.mem_singleton.mp hm).symm
  · intro b hb
    rw [List.mem_singleton.mp hb]
    exact next_is_new F
  · rintro i v m₁ nx s₁ own ⟨hh', tk', rfl⟩ hin hP ⟨rfl, hJ⟩ _ _ _ _ _ F₁ N₁
    rw [List.append_nil] at N₁
    refine wpAny_mono (turn i v m₁ hh' tk' own (by simpa using hP) hJ F₁ N₁) (fun f s₂ p => ?_) fun _ _ e => e
    have fin : (∃ h' tk m' news', s₂ = { ({ s with heap := hh', toks := tk' } : Shared) with heap := h', toks := tk } ∧ Fr h₀ env.locals h' m' ∧ News h₀ env.locals h' news' ∧ (∀ p ∈ own, p ∈ news') ∧ J (i + 1) m') →
        LoopStepU h₀ env.locals [s.heap.objs.size] own (fun m nx => nx = [] ∧ J (i + 1) m) { s with heap := hh', toks := tk' } .next s₂ := by
      rintro ⟨h', tk, m', news', e, F', N', ho, hm⟩
      exact ⟨rfl, h', tk, m', [], e, F', fun p hp => N' p (ho p (by simpa using hp)), (fun p hp => (nomatch hp)), rfl, hm⟩
    cases f with
    | ret v => exact .ret p
    | brk => exact .brk p
    | next => exact .next (fin p)
    | cont => exact .cont (fin p)
  · rintro h' tk m' news' F' _ _ ⟨_, hJ⟩
    exact done m' h' tk hJ F'
end
theorem noE {α : Type} {M : Model} {A : Around} {t : Sem α} {Q : α → Shared → Prop} {E : Value → Shared → Prop} {s : Shared} (h : wpAny M A t Q (fun _ _ => False) s) : wpAny M A t Q E s := wpAny_mono h (fun _ _ x => x) fun _ _ x => x.elim
local macro_rules | `(tactic| walk_at "exec For") => `(tactic| (k_here; (fail_if_success (with_reducible show wpAny _ _ _ _ (fun _ _ => False) _)); refine noE ?_))
local macro_rules | `(tactic| walk_at "exec For Name Name cons nil") => `(tactic| (k_here; (fail_if_success (with_reducible show wpAny _ _ _ _ (fun _ _ => False) _)); refine noE ?_))
local macro_rules | `(tactic| walk_at "exec For Tuple Call cons nil") => `(tactic| (k_here; (fail_if_success (with_reducible show wpAny _ _ _ _ (fun _ _ => False) _)); refine noE ?_))
end
end
end
end
end
end
section
local macro_rules | `(tactic| walk_at "call ref") => `(tactic| (k_here; k_dflt (refine' wpAny_call (c_normpath ?X ?T ?r ?l ?n ?h1 ?h2 ?_); walk_at "mine_xtr"; (case l => walk_at "mine_len"); (case n => walk_at "mine_len"); (case h1 => assumption); (case h2 => assumption); k_whole); intro h' tk tk' st'; walk_at "mine_post"))
section
local macro_rules | `(tactic| walk_at "mine_fit") => `(tactic| ((try simp only [List.size_toArray, sv_len, List.length_map, List.length_append, List.length_cons, List.length_nil, Array.size_push, List.length_replicate, List.length_drop, List.length_take]); omega))
local macro_rules | `(tactic| walk_at "mine_pick") => `(tactic| first | exact pick_to_sv _ _ | exact pick_from_sv _ _)
local macro_rules | `(tactic| walk_at "call builtin:len") => `(tactic| (k_here; (with_reducible show wpAny _ _ (call (Value.builtin "len") [Value.ref _]) _ _ _); k_dflt (refine' len_vals ?hl ?hz ?_; (case hl => walk_at "mine_list"); (case hz => walk_at "mine_fit"); k_whole); (try simp only [sv_len, List.length_cons, List.length_nil])))
local macro_rules | `(tactic| walk_at "binaryOp Mult ref int") => `(tactic| (k_here; k_dflt (refine' mul_one ?F ?N ?hl ?h0 ?hx ?_; (case F => k_asm); (case N => k_asm); (case hl => walk_at "mine_list"); (case h0 => omega); (case hx => omega); k_whole); intro D' h' F' N' l'; (try k_lt l'); (try k_sweep)))
local macro_rules | `(tactic| walk_at "binaryOp Add ref ref") => `(tactic| (k_here; k_dflt (refine' add_strs ?F ?N ?ha ?hb ?hz ?_; (case F => k_asm); (case N => k_asm); (case ha => walk_at "mine_list"); (case hb => walk_at "mine_list"); (case hz => walk_at "mine_fit"); k_whole); intro D' h' F' N' l'; (try k_lt l'); (try k_sweep)))
local macro_rules | `(tactic| walk_at "call builtin:str.join") => `(tactic| (k_here; (with_reducible show wpAny _ _ (call (Value.builtin "str.join") [Value.str _ _, Value.ref _]) _ _ _); k_dflt (refine' join_strs ?hl ?hok ?hk ?_; (case hl => walk_at "mine_list"); (case hok => assumption); (case hk => walk_at "mine_names"); k_whole); intro t' k'))
section
local macro_rules | `(tactic| walk_at "exec For") => `(tactic| (k_here; (fail_if_success (with_reducible show wpAny _ _ _ _ (fun _ _ => False) _)); refine noE ?_))
local macro_rules | `(tactic| walk_at "exec For Name Name cons nil") => `(tactic| (k_here; (fail_if_success (with_reducible show wpAny _ _ _ _ (fun _ _ => False) _)); refine noE ?_))
local macro_rules | `(tactic| walk_at "exec For Tuple Call cons nil") => `(tactic| (k_here; (fail_if_success (with_reducible show wpAny _ _ _ _ (fun _ _ => False) _)); refine noE ?_))
section
theorem Fr.keyed {h₀ h : Heap} {L : Addr} {m₁ m₀ : Str → Option Value} {x y : Str} {v u : Option Value} (F : Fr h₀ L h (fun z => if z = x then v else m₁ z)) (hy : m₁ y = u) (hm : ∀ z, z ≠ x → z ≠ y → m₁ z = m₀ z) :
    Fr h₀ L h (fun z => if z = x then v else if z = y then u else m₀ z) := by
  have e : (fun z => if z = x then v else m₁ z) = fun z => if z = x then v else if z = y then u else m₀ z := by
    funext z
    by_cases h : z = x
    · simp [h]
    · by_cases h2 : z = y
      · subst h2; simp [h, hy]
      · simp only [if_neg h, if_neg h2]; exact hm z h h2
  rwa [e] at F
def jstep (path b : Str) : Str := if Txt.startswith b (Str.ofString "/") = true ∨ (path.length : Int) = 0 then b else if Txt.endswith path (Str.ofString "/") = true then path ++ b else path ++ (Str.ofString "/" ++ b)
def joinS (a : Str) (bs : List Str) : Str := bs.foldl jstep a
theorem jstep_len (p b : Str) : (jstep p b).length ≤ p.length + 1 + b.length := by
  unfold jstep
  split
  · omega
  · split
    · rw [Str.length_append]; omega
    · rw [Str.length_append, Str.length_append, len_sl]; omega
section
variable {p b : Str}
theorem js1 (h : Txt.startswith b (Str.ofString "/") = true) : b = jstep p b := (if_pos (.inl h)).symm
theorem js2 (h : (p.length : Int) = 0) : b = jstep p b := (if_pos (.inr h)).symm
theorem js3 (h : Txt.startswith b (Str.ofString "/") = false) (h2 : (p.length : Int) ≠ 0) (h3 : Txt.endswith p (Str.ofString "/") = true) : p ++ b = jstep p b := by
  unfold jstep; rw [if_neg (fun q => q.elim (fun q => by rw [h] at q; cases q) h2), if_pos h3]
theorem js4 (h : Txt.startswith b (Str.ofString "/") = false) (h2 : (p.length : Int) ≠ 0) (h3 : Txt.endswith p (Str.ofString "/") = false) : p ++ (Str.ofString "/" ++ b) = jstep p b := by
  unfold jstep; rw [if_neg (fun q => q.elim (fun q => by rw [h] at q; cases q) h2), if_neg (by rw [h3]; exact Bool.false_ne_true)]
end
theorem Fr.self {h₀ h : Heap} {L : Addr} {m₁ : Str → Option Value} {x : Str} (F : Fr h₀ L h m₁) : Fr h₀ L h (fun z => if z = x then m₁ x else m₁ z) := by
  have e : m₁ = fun z => if z = x then m₁ x else m₁ z := by
    funext z
    by_cases h : z = x
    · simp [h]
    · simp [h]
  rwa [← e]
def JJ (a : Str) (bs : List Str) (m₀ : Str → Option Value) (i : Nat) (m : Str → Option Value) : Prop :=
  (∃ t, m (Str.ofString "path") = some (.str (joinS a (bs.take i)) t)) ∧ (joinS a (bs.take i)).length ≤ 1000 + 201 * i ∧ ∀ z, z ≠ Str.ofString "b" → z ≠ Str.ofString "path" → m z = m₀ z
theorem JJ.step {a : Str} {bs : List Str} {m₀ m' : Str → Option Value} {i : Nat} {b r : Str} {t : Tok} (hb : bs[i]? = some b) (hz : b.length ≤ 200) (hl : (joinS a (bs.take i)).length ≤ 1000 + 201 * i) (e : r = jstep (joinS a (bs.take i)) b)
    (h1 : m' (Str.ofString "path") = some (.str r t)) (hm : ∀ z, z ≠ Str.ofString "b" → z ≠ Str.ofString "path" → m' z = m₀ z) : JJ a bs m₀ (i + 1) m' := by
  have e1 : joinS a (bs.take (i + 1)) = jstep (joinS a (bs.take i)) b := by
    rw [List.take_add_one, hb]; simp [joinS]
  refine ⟨⟨t, by rw [h1, e, e1]⟩, ?_, hm⟩
  rw [e1]
  have := jstep_len (joinS a (bs.take i)) b
  omega
set_option maxHeartbeats 4000000 in
theorem c_join {prog : Program} {w : World} {dp un : Nat} {fr : Option (List Env)} {gd : Option (List Code)} {R : Result → Shared → Prop} {s : Shared} {mean : ExcName → Option Value} {mg mb : Str → Option Value} {a : Str} {t : Tok} {ks : List (Str × Tok)}
    (X : (tp.heap_39 w.params).In s.heap) (T : Top tp.view_39 [Str.ofString "relpath"] mean mg mb s.heap) (r : Rm dp un 2) (ha : a.length ≤ 1000) (hne : ks ≠ []) (hk : ∀ p ∈ ks.map (·.1), p.length ≤ 200) (hl : ks.length ≤ 4)
    (h : ∀ h' tk tk', s.heap.StaysIn h' → R (.ok (.ret (.str (joinS a (ks.map (·.1))) tk))) { s with heap := h', toks := tk' }) :
    codeAny (model prog w) (AA dp un fr gd) (.call (.ref 136) ⟨.str a t :: strValues ks, []⟩) R s := by
  refine' enter_rest (vs := strValues ks) (g₁ := fun D => some [(Str.ofString "a", .str a t), (Str.ofString "p", .ref D)]) (fun D => [(Str.ofString "a", .str a t), (Str.ofString "p", .ref D)]) X T ?k6 ?k7 ?k8 ?hp ?hg ?kB ?_ ?c2 ?c3 ?c4 ?c5
  w_top off
  case k6 => k_is
  case k7 => k_is
  case k8 => exact Rm.room (by assumption)
  case hp =>
    rcases ks with _ | ⟨p1, _ | ⟨p2, _ | ⟨p3, _ | ⟨p4, _ | ⟨p5, ks⟩⟩⟩⟩⟩
    · exact absurd rfl hne
    · simp only [strValues, List.map_cons, List.map_nil]; unfold bindArgs; simp [fnOf, peek1, peek]; exact rfl
    · simp only [strValues, List.map_cons, List.map_nil]; unfold bindArgs; simp [fnOf, peek1, peek]; exact rfl
    · simp only [strValues, List.map_cons, List.map_nil]; unfold bindArgs; simp [fnOf, peek1, peek]; exact rfl
    · simp only [strValues, List.map_cons, List.map_nil]; unfold bindArgs; simp [fnOf, peek1, peek]; exact rfl
    · simp at hl
  case hg => exact fun _ => rfl
  case kB => exact fun _ => locs rfl
  case c2 => exact rfl
  case c3 => exact rfl
  case c4 => exact rfl
  case c5 => decide
  k_whole
  clear X T
  intro D b1 L' h' st ht X T F'
  have N' := nil_of F'
  (try dsimp only)
  (try k_fold)
  walk_at "mine_go"
  refine noE ?_
  refine For_invV b1 rfl rfl ?_ (by intro _; rfl) (by passes_own)
  walk_at "mine_go"
  rename Fr _ _ _ _ => F
  obtain ⟨oD, hoD, _⟩ := id ht
  refine iter_tup (JJ a (ks.map (·.1)) _) rfl (by obtain ⟨o, ho, r⟩ := ht; exact ⟨o, F.keep _ _ ho, r⟩) (Nat.ne_of_lt (Nat.lt_of_lt_of_le (Heap.lt_size hoD) F.above)) F ⟨⟨_, rfl⟩, by show a.length ≤ _; omega, fun _ _ _ => rfl⟩ ?_ ?_
  · clear F
    rintro i v m₁ h2 tk2 own hv ⟨⟨t1, hp⟩, hcl, hm⟩ F N
    obtain ⟨⟨b, tb⟩, hb, rfl⟩ : ∃ c, ks[i]? = some c ∧ v = .str c.1 c.2 := by
      simp only [strValues, List.getElem?_map, Option.map_eq_some_iff] at hv
      obtain ⟨c, h1, h2⟩ := hv
      exact ⟨c, h1, h2.symm⟩
    have hb1 : (ks.map (·.1))[i]? = some b := by rw [List.getElem?_map, hb]; rfl
    have hbz : b.length ≤ 200 := hk b (List.mem_of_getElem? hb1)
    have hi : i < ks.length := (List.getElem?_eq_some_iff.mp hb).1
    replace F := Fr.keyed F hp hm
    dsimp only at F
    clear hm hp
    generalize hcur : joinS a (List.take i (ks.map (·.1))) = cur at F hcl
    walk_at "mine_go"
    all_goals (refine TurnOwn.next (by assumption) (by assumption) (fun _ h => h) (JJ.step hb1 hbz (by rw [hcur]; exact hcl) ?_ rfl (fun z h1 h2 => by simp only [if_neg h1, if_neg h2])))
    all_goals rw [hcur]
    all_goals first | exact js1 (by assumption) | exact js2 (by assumption) | exact js3 (by assumption) (by assumption) (by assumption) | exact js4 (by assumption) (by assumption) (by assumption)
  · clear F
    rintro m₁ h2 tk2 ⟨⟨t1, hp⟩, _, hm⟩ F
    rw [sv_len, List.take_of_length_le (by simp)] at hp
    replace F := Fr.keyed (Fr.self F) hp hm
    (try dsimp only at F)
    have N := nil_of F
    walk_at "mine_go"
    exact h _ _ _ (stays_trans st (Fr.keep (by assumption)))
local macro_rules | `(tactic| walk_at "mine_kn") => `(tactic| first | assumption | (simp; done))
end
section
local macro_rules | `(tactic| walk_at "mine_kn") => `(tactic| first | assumption | (simp; done))
section
local macro_rules | `(tactic| walk_at "mine_pad") => `(tactic| skip)
def rootS (x : Str) : Str := Txt.slice x none (some (Txt.rfind x (Str.ofString ".")))
def extS (x : Str) : Str := Txt.slice x (some (Txt.rfind x (Str.ofString "."))) none
set_option maxHeartbeats 4000000 in
theorem c_splitext_in {prog : Program} {w : World} {dp un : Nat} {fr : Option (List Env)} {gd : Option (List Code)} {R : Result → Shared → Prop} {s : Shared} {mean : ExcName → Option Value} {mg mb : Str → Option Value} {x : Str} {t t2 t4 : Tok}
    (X : (tp.heap_39 w.params).In s.heap) (T : Top tp.view_39 [Str.ofString "relpath"] mean mg mb s.heap) (r : Rm dp un 2) (hx : x.length ≤ 1000)
    (h1 : Txt.rfind x (Str.ofString "/") + 1 < Txt.rfind x (Str.ofString ".")) (h2 : Txt.slice x (some (Txt.rfind x (Str.ofString "/") + 1)) (some (Txt.rfind x (Str.ofString "/") + 1 + 1)) ≠ Str.ofString ".")
    (h : ∀ h' D t1 t2 tk', s.heap.StaysIn h' → h'.get? D = some ({ cls := .type "tuple", data := .seq #[.str (rootS x) t1, .str (extS x) t2] } : Obj) → s.heap.get? D = none →
      R (.ok (.ret (.ref D))) { s with heap := h', toks := tk' }) :
    codeAny (model prog w) (AA dp un fr gd) (.call (.ref 115) ⟨[.str x t, .str (Str.ofString "/") t2, .none, .str (Str.ofString ".") t4], []⟩) R s := by
  refine' enter [(Str.ofString "p", .str x t), (Str.ofString "sep", .str (Str.ofString "/") t2), (Str.ofString "altsep", .none), (Str.ofString "extsep", .str (Str.ofString ".") t4)] X T ?k6 ?k7 ?k8 ?k9 ?kB ?_ ?c2 ?c3 ?c4 ?c5
  walk_at "mine_in"
  walk_at "mine_go"
  · rename News _ _ _ _ => N
    exact h _ _ _ _ _ (Fr.keep (by assumption)) (N _ (.head _)).1 (N _ (.head _)).2.2
  · exfalso
    rename Passed _ _ _ => hP
    have q := (hP 0 (Int.le_refl _) (by omega)).2
    dsimp only at q
    (try rw [Int.mul_zero] at q); (try rw [Int.add_zero] at q)
    (try rw [Int.mul_zero] at q); (try rw [Int.add_zero] at q)
    have q2 : ¬ ((Txt.slice x (some (Txt.rfind x (Str.ofString "/") + 1)) (some (Txt.rfind x (Str.ofString "/") + 1 + 1)) != Str.ofString ".") = true) := fun e => by rw [if_pos e] at q; cases q
    exact q2 (by simpa using h2)
local macro_rules | `(tactic| walk_at "call ref") => `(tactic| (k_here; k_dflt (refine' wpAny_call (c_splitext_in ?X ?T ?r ?l ?h1 ?h2 ?_); walk_at "mine_xtr"; (case l => walk_at "mine_len"); (case h1 => assumption); (case h2 => assumption); k_whole); intro h' D' t1 t2 tk' st' hD' hn'; (have N' := news_new (by assumption) (by assumption) st' hD' hn'); (have F' := fr_stays (by assumption) st'); (try clear st' hD' hn'); (try k_sweep); (try dsimp only)))
set_option maxHeartbeats 4000000 in
theorem c_splitext {prog : Program} {w : World} {dp un : Nat} {fr : Option (List Env)} {gd : Option (List Code)} {R : Result → Shared → Prop} {s : Shared} {mean : ExcName → Option Value} {mg mb : Str → Option Value} {x : Str} {t : Tok}
    (X : (tp.heap_39 w.params).In s.heap) (T : Top tp.view_39 [Str.ofString "relpath"] mean mg mb s.heap) (r : Rm dp un 3) (hx : x.length ≤ 1000)
    (h1 : Txt.rfind x (Str.ofString "/") + 1 < Txt.rfind x (Str.ofString ".")) (h2 : Txt.slice x (some (Txt.rfind x (Str.ofString "/") + 1)) (some (Txt.rfind x (Str.ofString "/") + 1 + 1)) ≠ Str.ofString ".")
    (h : ∀ h' D t1 t2 tk', s.heap.StaysIn h' → h'.get? D = some ({ cls := .type "tuple", data := .seq #[.str (rootS x) t1, .str (extS x) t2] } : Obj) → s.heap.get? D = none →
      R (.ok (.ret (.ref D))) { s with heap := h', toks := tk' }) :
    codeAny (model prog w) (AA dp un fr gd) (.call (.ref 143) ⟨[.str x t], []⟩) R s := by
  refine' enter [(Str.ofString "p", .str x t)] X T ?k6 ?k7 ?k8 ?k9 ?kB ?_ ?c2 ?c3 ?c4 ?c5
  walk_at "mine_in"
  walk_at "mine_go"
  rename News _ _ _ _ => N
  exact h _ _ _ _ _ (Fr.keep (by assumption)) (N _ (.head _)).1 (N _ (.head _)).2.2
local macro_rules | `(tactic| walk_at "call ref") => `(tactic| (k_here; k_dflt (refine' wpAny_call (c_splitext ?X ?T ?r ?l ?h1 ?h2 ?_); walk_at "mine_xtr"; (case l => walk_at "mine_len"); (case h1 => assumption); (case h2 => assumption); k_whole); intro h' D' t1 t2 tk' st' hD' hn'; (have N' := news_new (by assumption) (by assumption) st' hD' hn'); (have F' := fr_stays (by assumption) st'); (try clear st' hD' hn'); (try k_sweep); (try dsimp only)))
end
section
theorem isTuple_of_one : True := trivial
namespace MapF
open PySem.F
theorem owner_map : Manifest.owners.lookup (String.ofList ['p', 'a', 'm'].reverse) = some Manifest.sig_map := by kernel_rfl
theorem slot_map_next : Slot "map" "__next__" "map.__next__" :=
  .of (owner := "map") (n := "__next__") (by rw [typeLookup_type, builtinLookup_eq_fast]; kernel_rfl) (by decide +kernel) (by decide +kernel) (by decide +kernel)
    (by first | exact .inl (by decide +kernel) | exact .inr (by decide +kernel)) (by rw [isSubtype_type]; kernel_rfl)
theorem args_map_next_1 (a : Value) : argsOk "map.__next__" ⟨[a], []⟩ := by
  unfold argsOk; rw [signature?_of (id := "map.__next__") (n := ['_', '_', 't', 'x', 'e', 'n', '_', '_']) (o := ['p', 'a', 'm']) (by kernel_rfl) owner_map]; kernel_rfl
theorem entry_map_next : entryFor table "map.__next__" = some Builtin.«map.__next__» := entryFor_of_tree (by kernel_rfl)
theorem slot_map_iter : Slot "map" "__iter__" "map.__iter__" :=
  .of (owner := "map") (n := "__iter__") (by rw [typeLookup_type, builtinLookup_eq_fast]; kernel_rfl) (by decide +kernel) (by decide +kernel) (by decide +kernel)
    (by first | exact .inl (by decide +kernel) | exact .inr (by decide +kernel)) (by rw [isSubtype_type]; kernel_rfl)
theorem args_map_iter_1 (a : Value) : argsOk "map.__iter__" ⟨[a], []⟩ := by
  unfold argsOk; rw [signature?_of (id := "map.__iter__") (n := ['_', '_', 'r', 'e', 't', 'i', '_', '_']) (o := ['p', 'a', 'm']) (by kernel_rfl) owner_map]; kernel_rfl
theorem entry_map_iter : entryFor table "map.__iter__" = some Builtin.«dict_keyiterator.__iter__» :=
  entryFor_alias (id' := "dict_keyiterator.__iter__") (by kernel_rfl) (by first | rfl | decide +kernel | (unfold String.splitOn; simp +decide [String.splitOnAux])) (by decide +kernel) (by kernel_rfl)
theorem slot_map_init : Slot "map" "__init__" "object.__init__" :=
  .of (owner := "object") (n := "__init__") (by rw [typeLookup_type, builtinLookup_eq_fast]; kernel_rfl) (by decide +kernel) (by decide +kernel) (by decide +kernel)
    (by first | exact .inl (by decide +kernel) | exact .inr (by decide +kernel)) (by rw [isSubtype_type]; kernel_rfl)
theorem mro_map : mroOf (.type "map") = pure [.type "map", .type "object"] := by rw [mroOf_type]; kernel_rfl
theorem lookup_map_new : typeLookup (.type "map") "__new__" = pure (some (.builtin "map.__new__")) := by rw [typeLookup_type, builtinLookup_eq_fast]; kernel_rfl
theorem called_map : TypeCalled "map" "map.__new__" "object.__init__" :=
  ⟨by decide +kernel, by decide +kernel, ⟨_, _, mro_map⟩, madeBy_type mro_map lookup_map_new (by decide +kernel), by decide +kernel, by rw [isSubtype_type]; kernel_rfl, slot_map_init⟩
theorem typeCall_map_2 (a b : Value) : checkTypeCall "map" ⟨[a, b], []⟩ = pure () := by kernel_rfl
theorem newCall_map_2 (a b : Value) : checkBuiltinCall "map.__new__" ⟨[.type "map", a, b], []⟩ = pure () := by kernel_rfl
theorem entry_map_new : entryFor table "map.__new__" = some Builtin.«map.__new__» := entryFor_of_tree (by kernel_rfl)
theorem map_no_len : typeLookup (.type "map") "__len__" = pure none := by rw [typeLookup_type, builtinLookup_eq_fast]; kernel_rfl
theorem map_no_hint : typeLookup (.type "map") "__length_hint__" = pure none := by rw [typeLookup_type, builtinLookup_eq_fast]; kernel_rfl
theorem sub_map : isSubtype (.type "map") (.type "map") = pure true := by rw [isSubtype_type]; kernel_rfl
end MapF
abbrev IsMap (h : Heap) (z TI : Addr) (f : Value) : Prop := h.get? z = some { cls := .type "map", data := .fields #[.ref TI, f] }
abbrev IsOne (h : Heap) (T : Addr) (a : Value) : Prop := h.get? T = some { cls := .type "tuple", data := .seq #[a] }
abbrev mapH1 (h : Heap) (l1 : Addr) : Heap := h.push { cls := .type "list_iterator", data := .fields #[.ref l1, .int 0 0] }
abbrev mapH2 (h : Heap) (l1 : Addr) : Heap := (mapH1 h l1).push { cls := .type "tuple", data := .seq #[.ref h.objs.size] }
abbrev mapH3 (h : Heap) (l1 : Addr) (f : Value) : Heap := (mapH2 h l1).push { cls := .type "map", data := .fields #[.ref (mapH1 h l1).objs.size, f] }
theorem meets_map_new (f : Value) (l1 : Addr) (xs : Array Value) :
    Meets (Builtin.«map.__new__» ⟨[.type "map", f, .ref l1], []⟩) (fun _ R s => s.heap.IsList l1 xs ∧
      R (.ok (.ret (.ref (mapH2 s.heap l1).objs.size))) { s with heap := mapH3 s.heap l1 f }) :=
  .of_wp fun prog w A R s h => by
    obtain ⟨hp, g, d, tk, os⟩ := s; obtain ⟨hl1, h⟩ := h
    have hsub := MapF.sub_map
    have hL1 : Heap.IsList (Shared.heap ⟨hp, g, d, tk, os⟩) l1 xs := hl1
    wp_walk using wpAny_pyIter_list hL1
    exact ⟨_, rfl, h⟩
section
variable {prog : Program} {w : World} {A : Around} {E : Value → Shared → Prop} {s : Shared}
theorem call_map_1 {f : Value} {l1 : Addr} {xs : Array Value} {Q : Value → Shared → Prop} (hl1 : s.heap.IsList l1 xs)
    (h : ∀ h', IsMap h' (s.heap.objs.size + 2) (s.heap.objs.size + 1) f → IsOne h' (s.heap.objs.size + 1) (.ref s.heap.objs.size) → h'.IsListIter s.heap.objs.size l1 0 → h'.objs.size = s.heap.objs.size + 3 →
      (∀ c o, s.heap.get? c = some o → h'.get? c = some o) → Q (.ref (s.heap.objs.size + 2)) { s with heap := h' }) :
    wpAny (model prog w) A (call (.type "map") [f, .ref l1]) Q E s := by
  refine callType_new MapF.called_map (by decide) (MapF.typeCall_map_2 _ _) (MapF.newCall_map_2 _ _) (fun obj => F.args_object_init_3 obj _ _) MapF.entry_map_new
    (meets_map_new f l1 xs) ⟨hl1, ?_⟩
  have z1 : (mapH1 s.heap l1).objs.size = s.heap.objs.size + 1 := Heap.size_push ..
  have z2 : (mapH2 s.heap l1).objs.size = s.heap.objs.size + 2 := by rw [Heap.size_push, z1]
  have z3 : (mapH3 s.heap l1 f).objs.size = s.heap.objs.size + 3 := by rw [Heap.size_push, z2]
  have g3 : (mapH3 s.heap l1 f).get? (mapH2 s.heap l1).objs.size = some _ := Heap.get?_push_size _ rfl
  have g2 : (mapH3 s.heap l1 f).get? (mapH1 s.heap l1).objs.size = some _ := Heap.get?_push_of_some _ (Heap.get?_push_size _ rfl)
  have g1 : (mapH3 s.heap l1 f).get? s.heap.objs.size = some _ := Heap.get?_push_of_some _ (Heap.get?_push_of_some _ (Heap.get?_push_size _ rfl))
  show _ ∧ _
  rw [z1, z2] at g3
  rw [z1] at g2
  rw [z2]
  exact ⟨⟨_, g3, rfl⟩, h _ g3 g2 ⟨_, g1, rfl, rfl⟩ z3 fun c o x => Heap.get?_push_of_some _ (Heap.get?_push_of_some _ (Heap.get?_push_of_some _ x))⟩
theorem map_next_item {z TI i1 l : Addr} {k : Nat} {f x : Value} {xs : Array Value} {Q : Value → Shared → Prop}
    (hz : IsMap s.heap z TI f) (hTI : IsOne s.heap TI (.ref i1)) (h1 : s.heap.IsListIter i1 l k) (hl : s.heap.IsList l xs) (hx : xs[k]? = some x) (hzi : z ≠ i1)
    (hQ : ∀ h', h'.IsListIter i1 l (k + 1) → Heap.SameBut i1 s.heap h' → wpAny (model prog w) A (call f [x]) Q E { s with heap := h' }) :
    wpAny (model prog w) A (Builtin.«map.__next__» ⟨[.ref z], []⟩) (fun fin s' => ∃ v, fin = .done (.ret v) ∧ Q v s') E s := by
  show wpAny _ _ (field (.ref z) 0 >>= _) _ _ _
  refine wpAny_bind (wpAny_field hz rfl (x := .ref TI) rfl ?_)
  refine wpAny_bind (wpAny_seqItems hTI rfl ?_)
  simp only [← Array.forIn_toList, List.forIn_cons, List.forIn_nil]
  refine wpAny_bind (wpAny_bind (wpAny_bind (wpAny_holding (wpAny_nextOf_list_item h1 hl hx fun h₁ h1₁ hs₁ => ?_))))
  refine wpAny_pure (wpAny_pure ?_)
  refine wpAny_bind (wpAny_field (hs₁.extBut _ _ hzi hz) rfl (x := f) rfl ?_)
  refine wpAny_bind (wpAny_holding ?_)
  refine wpAny_mono (hQ h₁ h1₁ hs₁) (fun v s' q => ?_) fun _ _ e => e
  refine wpAny_bind (wpAny_letGo (wpAny_pure ⟨v, rfl, q⟩))
end
end
section
section
variable {prog : Program} {w : World} {A : Around} {E : Value → Shared → Prop} {s : Shared}
theorem map_next_end {z TI i1 l : Addr} {k : Nat} {f : Value} {xs : Array Value} {Q : Fin → Shared → Prop} (hh : A.handled = none)
    (hz : IsMap s.heap z TI f) (hTI : IsOne s.heap TI (.ref i1)) (h1 : s.heap.IsListIter i1 l k) (hl : s.heap.IsList l xs) (hx : xs[k]? = none)
    (hE : ∀ h' e, Heap.ExtBut i1 s.heap h' → (∃ o, h'.get? e = some o ∧ o.cls = .type "StopIteration") → E (.ref e) { s with heap := h' }) :
    wpAny (model prog w) A (Builtin.«map.__next__» ⟨[.ref z], []⟩) Q E s := by
  show wpAny _ _ (field (.ref z) 0 >>= _) _ _ _
  refine wpAny_bind (wpAny_field hz rfl (x := .ref TI) rfl ?_)
  refine wpAny_bind (wpAny_seqItems hTI rfl ?_)
  simp only [← Array.forIn_toList, List.forIn_cons, List.forIn_nil]
  refine wpAny_bind (wpAny_bind (wpAny_bind (wpAny_holding (wpAny_nextOf_list_end hh h1 hl hx fun h₁ e hs₁ he => hE h₁ e hs₁ he))))
theorem next_map_item {z TI i1 l : Addr} {k : Nat} {f x : Value} {xs : Array Value} {Q : Option Value → Shared → Prop}
    (hz : IsMap s.heap z TI f) (hTI : IsOne s.heap TI (.ref i1)) (h1 : s.heap.IsListIter i1 l k) (hl : s.heap.IsList l xs) (hx : xs[k]? = some x) (hzi : z ≠ i1)
    (hQ : ∀ h', h'.IsListIter i1 l (k + 1) → Heap.SameBut i1 s.heap h' → wpAny (model prog w) A.in1 (call f [x]) (fun v => Q (some v)) (fun _ _ => False) { s with heap := h' }) : wpAny (model prog w) A (pyNext (.ref z)) Q E s := by
  have hT : s.TypeIs (.ref z) "map" := ⟨_, hz, rfl⟩
  unfold pyNext
  exact wpAny_bind (wpAny_attempt (wpAny_callSpecial?_slot (name := Str.ofString "__next__") hT MapF.slot_map_next
    (wpAny_call_entry MapF.slot_map_next hT MapF.entry_map_next
      (map_next_item hz hTI h1 hl hx hzi fun h' a1 a2 => wpAny_mono (hQ h' a1 a2) (fun _ _ q => wpAny_pure q) fun _ _ e => e.elim) (MapF.args_map_next_1 _))))
theorem next_map_end {z TI i1 l : Addr} {k : Nat} {f : Value} {xs : Array Value} {Q : Option Value → Shared → Prop} (hh : A.handled = none)
    (hz : IsMap s.heap z TI f) (hTI : IsOne s.heap TI (.ref i1)) (h1 : s.heap.IsListIter i1 l k) (hl : s.heap.IsList l xs) (hx : xs[k]? = none)
    (hQ : ∀ h', Heap.ExtBut i1 s.heap h' → Q none { s with heap := h' }) : wpAny (model prog w) A (pyNext (.ref z)) Q E s := by
  have hT : s.TypeIs (.ref z) "map" := ⟨_, hz, rfl⟩
  unfold pyNext
  refine wpAny_bind (wpAny_attempt (wpAny_callSpecial?_slot (name := Str.ofString "__next__") hT MapF.slot_map_next
    (wpAny_call_entry MapF.slot_map_next hT MapF.entry_map_next (map_next_end hh hz hTI h1 hl hx fun h' e hk he => ?_) (MapF.args_map_next_1 _))))
  obtain ⟨o, ho, hc⟩ := he
  refine wpAny_bind (wpAny_isInstance (T := "StopIteration") (b := true) ⟨o, ho, hc⟩ isSubtype_stop ?_)
  exact wpAny_pure (hQ _ hk)
theorem iter_map {z TI : Addr} {f : Value} {Q : Value → Shared → Prop} (hz : IsMap s.heap z TI f) (h : Q (.ref z) s) : wpAny (model prog w) A (pyIter (.ref z)) Q E s := by
  have hT : s.TypeIs (.ref z) "map" := ⟨_, hz, rfl⟩
  refine wpAny_pyIter_slot hT MapF.slot_map_iter (wpAny_call_entry MapF.slot_map_iter hT MapF.entry_map_iter ?_ (MapF.args_map_iter_1 _))
  show wpAny _ _ (ret (.ref z)) _ _ s
  exact wpAny_pure ⟨_, rfl, "map", _, hT, MapF.slot_map_next.lookup, h⟩
theorem draw_ints {z TI i1 l : Addr} {xs : List (Str × Tok)} (hz' : z ≠ i1) (hTi : TI ≠ i1) (hli : l ≠ i1) : ∀ (n k : Nat) (ns : List Int) (s : Shared) (Q : List Value → Shared → Prop), ns.length = n → (xs.drop k).length = n → (∀ (j : Nat) (x : Str × Tok), (xs.drop k)[j]? = some x → x.1.length ≤ 640 ∧ PySem.intText? x.1 = ns[j]?) →
    IsMap s.heap z TI (.type "int") → IsOne s.heap TI (.ref i1) → s.heap.IsListIter i1 l k → s.heap.IsList l (strValues xs).toArray →
    (∀ h' ts tk, ts.length = n → IsMap h' z TI (.type "int") → IsOne h' TI (.ref i1) → h'.IsListIter i1 l (k + n) → h'.IsList l (strValues xs).toArray → Heap.ExtBut i1 s.heap h' → Q (List.zipWith Value.int ns ts) { s with heap := h', toks := tk }) →
    wpAny (model prog w) A (draw (.ref z) n) Q E s
  | 0, k, ns, s, Q, hn, _, _, hz, hTI, h1, hl, hQ => by
    obtain rfl := List.length_eq_zero_iff.mp hn
    exact wpAny_pure (hQ s.heap [] s.toks rfl hz hTI h1 hl (Heap.SameBut.refl ..).extBut)
  | n + 1, k, ns, s, Q, hn, hx, hg, hz, hTI, h1, hl, hQ => by
    obtain ⟨m, ns, rfl⟩ := List.exists_cons_of_length_eq_add_one hn
    have hlt : k < xs.length := by rw [List.length_drop] at hx; omega
    obtain ⟨⟨x, t⟩, hpx⟩ : ∃ p, xs[k] = p := ⟨_, rfl⟩
    have h0 := hg 0 (x, t) (by rw [List.getElem?_drop, Nat.add_zero, List.getElem?_eq_getElem hlt, hpx])
    show wpAny _ _ (pyNext (.ref z) >>= _) _ _ _
    refine wpAny_bind (next_map_item hz hTI h1 hl (x := .str x t) ?_ hz' fun h₁ h1₁ hs₁ => ?_)
    · have := sv_at (show xs[k]? = some (x, t) by rw [List.getElem?_eq_getElem hlt, hpx])
      simpa using this
    refine KIN.call_text h0.2 h0.1 ?_
    refine wpAny_bind (wpAny_holding (draw_ints hz' hTi hli n (k + 1) ns _ _ (by simpa using hn) (by rw [List.length_drop] at hx ⊢; omega) ?_ (hs₁.extBut _ _ hz' hz) (hs₁.extBut _ _ hTi hTI) h1₁ (hl.extBut hs₁.extBut hli) ?_))
    · intro j y hy
      have := hg (j + 1) y (by rw [List.getElem?_drop] at hy ⊢; rw [← hy]; congr 1; omega)
      simpa using this
    · intro h' ts tk hts z1 z2 z3 z4 he
      refine wpAny_pure (hQ h' (_ :: ts) tk (by simp [hts]) z1 z2 (by rw [show k + (n + 1) = k + 1 + n by omega]; exact z3) z4 fun b o hb e => he b o hb (hs₁.extBut b o hb e))
/-- a, b = map(int, [x, y]) -/
theorem unpack_ints {z TI i1 l : Addr} {xs : List (Str × Tok)} {ns : List Int} {targets : List (Bool × (Value → Sem Unit))} {Q : Unit → Shared → Prop} (hh : A.handled = none)
    (hz : IsMap s.heap z TI (.type "int")) (hTI : IsOne s.heap TI (.ref i1)) (h1 : s.heap.IsListIter i1 l 0) (hl : s.heap.IsList l (strValues xs).toArray) (hzi : z ≠ i1) (hTi : TI ≠ i1) (hli : l ≠ i1)
    (hn : targets.length = ns.length) (hx : xs.length = ns.length) (hg : ∀ (j : Nat) (x : Str × Tok), xs[j]? = some x → x.1.length ≤ 640 ∧ PySem.intText? x.1 = ns[j]?) (hstar : targets.findIdx? (·.1) = none)
    (h : ∀ h' ts tk, ts.length = ns.length → Heap.ExtBut i1 s.heap h' → wpAny (model prog w) A (assignInOrder (targets.map (·.2)) (List.zipWith Value.int ns ts)) Q E { s with heap := h', toks := tk }) :
    wpAny (model prog w) A (unpack (.ref z) targets) Q E s := by
  have hT : s.TypeIs (.ref z) "map" := ⟨_, hz, rfl⟩
  unfold unpack
  rw [hn, hstar]
  refine wpAny_bind (wpAny_holding ?_)
  unfold unpackItems
  refine wpAny_bind ?_
  unfold notIterableAtAll
  refine wpAny_bind (wpAny_specialOf hT MapF.slot_map_iter.lookup ?_)
  refine wpAny_pure ?_
  simp only [Bool.false_eq_true, if_false]
  refine wpAny_bind (wpAny_holding (iter_map hz ?_))
  refine wpAny_bind (wpAny_holding (draw_ints hzi hTi hli ns.length 0 ns _ _ rfl (by simpa using hx) (by simpa using hg) hz hTI h1 hl fun h₁ ts tk hts z1 z2 z3 z4 he => ?_))
  rw [if_neg (by simp [hts])]
  refine wpAny_bind (wpAny_holding (next_map_end hh z1 z2 z3 z4 (by simp [strValues, hx]) fun h₂ he₂ => ?_))
  simp only [Option.isSome_none, Bool.false_eq_true, if_false]
  exact wpAny_pure (h h₂ ts tk hts fun b o hb e => he₂ b o hb (he b o hb e))
end
end
end
end
end
end
end
section
set_option maxHeartbeats 4000000 in
theorem c_line_col {prog : Program} {w : World} {dp un : Nat} {fr : Option (List Env)} {gd : Option (List Code)} {R : Result → Shared → Prop} {s : Shared} {mean : ExcName → Option Value} {mg mb : Str → Option Value} {x : Str} {t : Tok} {l c : Str} {lv cv : Int}
    (X : (tp.heap_39 w.params).In s.heap) (T : Top tp.view_39 [Str.ofString "relpath"] mean mg mb s.heap) (r : Rm dp un 3) (hx : x.length ≤ 640)
    (h1 : Txt.split x (Str.ofString ".") = [l, c]) (hlv : PySem.intText? l = some lv) (hcv : PySem.intText? c = some cv)
    (h : ∀ h' D t1 t2 tk', s.heap.StaysIn h' → h'.get? D = some ({ cls := .type "tuple", data := .seq #[.int lv t1, .int cv t2] } : Obj) → s.heap.get? D = none →
      R (.ok (.ret (.ref D))) { s with heap := h', toks := tk' }) :
    codeAny (model prog w) (AA dp un fr gd) (.call (.ref 201) ⟨[.str x t], []⟩) R s := by
  refine' enter [(Str.ofString "index", .str x t)] X T ?k6 ?k7 ?k8 ?k9 ?kB ?_ ?c2 ?c3 ?c4 ?c5
  walk_at "mine_in"
  walk_at "mine_go"
  rename Fr _ _ _ _ => F
  rename News _ _ _ _ => N
  rename List (Str × Tok) => k
  have hk : List.map (fun x => x.1) k = Txt.split x (Str.ofString ".") := by assumption
  have hle : ∀ a ∈ List.map (fun x => x.1) k, a.length ≤ x.length := by assumption
  have hls := News.isList N (.head _)
  rw [h1] at hk
  obtain ⟨⟨l', tl⟩, ⟨c', tc⟩, rfl⟩ : ∃ a b, k = [a, b] := by
    match k, hk with
    | [a, b], _ => exact ⟨a, b, rfl⟩
  simp only [List.map_cons, List.map_nil, List.cons.injEq, and_true] at hk
  obtain ⟨rfl, rfl⟩ := hk
  have ll : l'.length ≤ x.length := hle _ (.head _)
  have lc : c'.length ≤ x.length := hle _ (.tail _ (.head _))
  refine call_map_1 hls fun h2 hz hTI hit hsz hkp => ?_
  rw [assign_Tuple]
  have hlt : ∀ {o : Obj} {a : Addr} {g : Heap}, g.get? a = some o → a < g.objs.size := fun e => Heap.lt_size e
  refine wpAny_bind (wpAny_standAt (unpack_ints (ns := [lv, cv]) rfl hz hTI hit (Heap.IsList.at hls fun o e => hkp _ o e) (Nat.ne_of_gt (Nat.lt_add_of_pos_right (by decide))) (Nat.ne_of_gt (Nat.lt_add_of_pos_right (by decide))) ?_ rfl rfl ?_ rfl fun h3 ts tk hts he => ?_))
  · exact Nat.ne_of_lt (by obtain ⟨o, ho, _⟩ := hls; exact Heap.lt_size ho)
  · rintro (_ | _ | j) y hy
    · cases hy; exact ⟨Nat.le_trans ll hx, hlv⟩
    · cases hy; exact ⟨Nat.le_trans lc hx, hcv⟩
    · simp at hy
  match ts, hts with
  | [t1, t2], _ =>
  have st := fun b o e => he b o (Nat.ne_of_lt (Heap.lt_size e)) (hkp b o e)
  have F3 := fr_stays F st
  have N3 := nil_of F3
  clear F N st he hkp hsz hz hTI hit
  walk_at "mine_go"
  rename News _ _ _ _ => N
  exact h _ _ _ _ _ (Fr.keep (by assumption)) (N _ (.head _)).1 (N _ (.head _)).2.2
local macro_rules | `(tactic| walk_at "call ref") => `(tactic| (k_here; k_dflt (refine' wpAny_call (c_line_col ?X ?T ?r ?l ?h1 ?h2 ?h3 ?_); walk_at "mine_xtr"; (case l => walk_at "mine_len"); (case h1 => assumption); (case h2 => assumption); (case h3 => assumption); k_whole); intro h' D' t1 t2 tk' st' hD' hn'; (have N' := news_new (by assumption) (by assumption) st' hD' hn'); (have F' := fr_stays (by assumption) st'); (try clear st' hD' hn'); (try k_sweep); (try dsimp only)))
end
section
section
variable {prog : Program} {w : World} {A : Around} {E : Value → Shared → Prop} {s : Shared} {I : Addr} {fp wr : List Addr} {G : Array GenState → Array GenState → Prop} {n : Nat} {P : Nat → Value → Prop} {St : Nat → Shared → Prop}
theorem collect_map {Q : List Value → Shared → Prop} (W : WalksS prog w A.in1 I fp wr G n P St) (hT : ∀ i s, St i s → s.TypeIs (.ref I) "map") (hst : St 0 s) (hfp : ∀ b ∈ fp, b < s.heap.objs.size) (hI : I ∈ fp)
    (hQ : ∀ s' acc, Moved wr G s s' → ItemsOf P acc n → Q acc.toList s') (hn : n ≤ sizeLine := by size_fits) : wpAny (model prog w) A (collect (.ref I)) Q E s := by
  have hSf : s.heap.objs.size ∉ fp := fun hm => Nat.lt_irrefl _ (hfp _ hm)
  have hSI : s.heap.objs.size ≠ I := fun e => hSf (e ▸ hI)
  unfold collect
  refine wpAny_bind (wpAny_runValue (codeAny_builtin F.entry_proto_collect ?_))
  rw [Around.under_plainId F.plain_proto_collect _]
  show wpAny _ A.in1 (newList [] >>= fun l => again (.builtin "list.__iadd__" ⟨[l, .ref I], []⟩)) _ _ s
  refine wpAny_bind (wpAny_newObj_type ?_)
  refine wpAny_pure ⟨plainId_quiet F.plain_list_iadd _, codeAny_builtin F.entry_list_iadd ?_⟩
  rw [Around.under_plainId F.plain_list_iadd _]
  have hst₁ := W.frame 0 s (s.heap.push { cls := .type "list", data := .seq ([] : List Value).toArray }) s.toks hst (Nat.le_refl _) fun b _ o e => Heap.get?_push_of_some _ e
  show wpAny _ A.in1 (Builtin.List.listExtendWith (.ref s.heap.objs.size) (.ref I) (.ref s.heap.objs.size)) _ _ _
  unfold Builtin.List.listExtendWith
  refine wpAny_bind (wpAny_typeOf (hT 0 _ hst₁) ?_)
  have h1 : Builtin.List.listSameRef (.ref s.heap.objs.size) (.ref I) = false := by simp [Builtin.List.listSameRef, hSI]
  have h2 : (Value.type "map" == Value.type "list") = false := by decide
  have h3 : (Value.type "map" == Value.type "tuple") = false := by decide
  simp only [h1, h2, h3, Bool.or_false, Bool.false_eq_true, if_false]
  refine wpAny_bind (W.self 0 _ _ _ hst₁ ?_)
  refine wpAny_bind (wpAny_holding ?_)
  unfold Builtin.List.listLengthHint
  refine wpAny_bind (wpAny_specialOf (hT 0 _ hst₁) MapF.map_no_len ?_)
  show wpAny _ A.in1 (specialOf (Value.ref I) (Str.ofString "__length_hint__") >>= _) _ _ _
  refine wpAny_bind (wpAny_specialOf (hT 0 _ hst₁) MapF.map_no_hint ?_)
  refine wpAny_pure ?_
  show wpAny _ A.in1 (rule "list.extend.makes-room" >>= fun _ => Builtin.List.listTouch (.ref s.heap.objs.size) >>= fun _ =>
    again (.builtin "list.extend.loop" ⟨[.ref s.heap.objs.size, .ref I, .ref s.heap.objs.size], []⟩)) _ _ _
  refine wpAny_bind (wpAny_rule ?_)
  have hS₁ : (s.heap.push { cls := .type "list", data := .seq ([] : List Value).toArray }).get? s.heap.objs.size = some { cls := .type "list", data := .seq ([] : List Value).toArray } := Heap.get?_push_size _ rfl
  refine wpAny_bind ?_
  show wpAny _ A.in1 (updateSeq s.heap.objs.size (·.push .none) >>= fun _ => updateSeq s.heap.objs.size (·.pop)) _ _ _
  refine wpAny_bind (wpAny_updateSeq hS₁ rfl ?_)
  have hS₂ := Heap.get?_update_self (Obj.mapSeq (·.push Value.none)) hS₁ rfl
  refine wpAny_updateSeq hS₂ rfl ?_
  have hS₃ := Heap.get?_update_self (Obj.mapSeq (·.pop)) hS₂ rfl
  have oth : ∀ b o, b ≠ s.heap.objs.size → (s.heap.push { cls := .type "list", data := .seq ([] : List Value).toArray }).get? b = some o →
      (((s.heap.push { cls := .type "list", data := .seq ([] : List Value).toArray }).update s.heap.objs.size (Obj.mapSeq (·.push Value.none))).update s.heap.objs.size (Obj.mapSeq (·.pop))).get? b = some o :=
    fun b o hb e => (Heap.get?_update_other _ _ (Ne.symm hb)).trans ((Heap.get?_update_other _ _ (Ne.symm hb)).trans e)
  refine wpAny_pure ⟨plainId_quiet F.plain_extend_loop _, codeAny_extend_loopS W hn _ hSf _ n 0 _ _ _ rfl (Nat.zero_le _)
    (W.frame 0 ({ s with heap := s.heap.push { cls := .type "list", data := .seq ([] : List Value).toArray } } : Shared) _ s.toks hst₁ (Nat.le_refl _) fun b hb o e => oth b o (fun h => hSf (h ▸ hb)) e) hS₃ (ItemsOf.nil P) fun s' acc' c' hm hS' hacc => ?_⟩
  show wpAny _ A (load s.heap.objs.size >>= _) _ _ s'
  refine wpAny_bind (wpAny_load hS' ?_)
  refine wpAny_pure (hQ s' acc' (Moved.drop_new (o := { cls := .type "list", data := .seq ([] : List Value).toArray }) (tk := s.toks) (Moved.trans W.gtrans ((Moved.refl W.grefl).then_heap (by first | exact Nat.le_refl _ | exact Nat.le_succ _ | omega) fun b o hb e => ?_) hm) (Nat.le_refl _)) hacc)
  exact oth b o (fun h => hb (h ▸ List.mem_cons_self)) e
open PySem.AutoSeq1 (wpAny_loadPart') in
theorem code_tuple_new_map {Q₁ : Value → Shared → Prop} (W : WalksS prog w A.in1.in1 I fp wr G n P St) (hT : ∀ i s, St i s → s.TypeIs (.ref I) "map") (hst : St 0 s) (hfp : ∀ b ∈ fp, b < s.heap.objs.size) (hI : I ∈ fp)
    (h : ∀ s' acc, Moved wr G s s' → ItemsOf P acc n → Q₁ (.ref s'.heap.objs.size) { s' with heap := s'.heap.push { cls := .type "tuple", data := .seq acc } }) (hsz : n ≤ sizeLine := by size_fits) :
    codeAny (model prog w) A (.call (.builtin "tuple.__new__") ⟨[.type "tuple", .ref I], []⟩) (wants Q₁ E) s := by
  refine codeAny_of_tree ?_
  show wpAny _ A.in1 (do checkBuiltinCall "tuple.__new__" ⟨[.type "tuple", .ref I], []⟩; again (.builtin "tuple.__new__" ⟨[.type "tuple", .ref I], []⟩)) _ _ s
  refine wpAny_bind (wpAny_of_eq (F.newCall_tuple_1 _) (wpAny_pure ⟨plainId_quiet F.plain_tuple_new _, codeAny_builtin F.entry_tuple_new ?_⟩))
  rw [Around.under_plainId F.plain_tuple_new _]
  have hsub := sub_tuple_self
  have hinit := init_tuple_lookup
  have hmh := madeHere_tuple
  have hTI := hT 0 s hst
  wp_walk using wpAny_typeOf hTI, wpAny_isInstance hTI, collect_map (hn := hsz) W hT hst hfp hI
  intro s' acc hm hacc
  show wpAny _ _ (Builtin.Tuple.tupleExact acc.toList.toArray >>= fun v => ret v) _ _ _
  unfold Builtin.Tuple.tupleExact
  refine wpAny_bind (wpAny_newObj_type ?_ (by show acc.toList.toArray.size ≤ sizeLine; simp only [Array.toArray_toList]; rw [hacc.1]; exact hsz))
  refine wpAny_pure ?_
  have e : acc.toList.toArray = acc := by simp
  rw [e]
  exact h s' acc hm hacc
theorem call_tuple_map {Q : Value → Shared → Prop} (W : WalksS prog w A.in1.in1.in1 I fp wr G n P St) (hT : ∀ i s, St i s → s.TypeIs (.ref I) "map") (hst : St 0 s) (hfp : ∀ b ∈ fp, b < s.heap.objs.size) (hI : I ∈ fp)
    (hQ : ∀ s' acc, Moved wr G s s' → ItemsOf P acc n → Q (.ref s'.heap.objs.size) { s' with heap := s'.heap.push { cls := .type "tuple", data := .seq acc } }) (hsz : n ≤ sizeLine := by size_fits) :
    wpAny (model prog w) A (call (.type "tuple") [.ref I]) Q E s := by
  refine callType_codes (Q₁ := fun obj s₁ => s₁.TypeIs obj "tuple" ∧ Q obj s₁) F.called_tuple (F.typeCall_tuple_1 _) F.entry_object_init
    (code_tuple_new_map (hsz := hsz) W hT hst hfp hI fun s' acc hm hacc => ⟨⟨_, Heap.get?_push_size _ rfl, rfl⟩, hQ s' acc hm hacc⟩) fun obj s₁ h₁ => ?_
  exact ⟨h₁.1, F.args_object_init_2 obj _, object_init_meets F.called_tuple.init.lookup F.called_tuple.made (by decide) prog w A.in1 _ s₁ ⟨h₁.1, rfl, h₁.2⟩⟩
end
end
section
def MapSt (z TI i1 l : Addr) (f : Value) (xs : Array Value) (base : Heap) (i : Nat) (h : Heap) : Prop :=
  IsMap h z TI f ∧ IsOne h TI (.ref i1) ∧ h.IsListIter i1 l i ∧ h.IsList l xs ∧ ∀ b o, base.get? b = some o → h.get? b = some o
theorem walks_fspath {prog : Program} {w : World} {dp un : Nat} {fr : Option (List Env)} {gd : Option (List Code)} {mean : ExcName → Option Value} {mg mb : Str → Option Value} {base : Heap} {k : List (Str × Tok)} {z TI i1 l : Addr}
    (X : (tp.heap_39 w.params).In base) (T : Top tp.view_39 [Str.ofString "relpath"] mean mg mb base) (r : Rm dp (un + 1) 1) (hl : base.IsList l (strValues k).toArray) (hzi : z ≠ i1) (hTi : TI ≠ i1) (hi : base.objs.size ≤ i1) :
    Walks prog w (AA dp un fr gd) z (z :: TI :: i1 :: List.range base.objs.size) [i1] k.length (fun i v => (strValues k)[i]? = some v) (MapSt z TI i1 l (.ref 101) (strValues k).toArray base) where
  sub := fun b hb => by rw [List.mem_singleton.mp hb]; simp
  frame := fun i h h' st hk => by
    obtain ⟨s1, s2, s3, s4, s5⟩ := st
    have up : ∀ b o, base.get? b = some o → h'.get? b = some o := fun b o e => hk b (by simp; exact .inr (.inr (.inr (Heap.lt_size e)))) o (s5 b o e)
    exact ⟨hk z (by simp) _ s1, hk TI (by simp) _ s2, s3.at fun o e => hk i1 (by simp) o e, Heap.IsList.at hl fun o e => up _ o e, up⟩
  item := fun i s Q E hlt st hQ => by
    obtain ⟨s1, s2, s3, s4, s5⟩ := st
    obtain ⟨⟨x, t⟩, hpx⟩ : ∃ p, k[i] = p := ⟨_, rfl⟩
    have hv : (strValues k)[i]? = some (.str x t) := by simp [strValues, List.getElem?_eq_getElem hlt, hpx]
    refine next_map_item s1 s2 s3 s4 (x := .str x t) (by rw [List.getElem?_toArray]; exact hv) hzi fun h₁ h1₁ hs₁ => ?_
    have up : ∀ b o, base.get? b = some o → h₁.get? b = some o := fun b o e => hs₁.extBut b o (Nat.ne_of_lt (Nat.lt_of_lt_of_le (Heap.lt_size e) hi)) (s5 b o e)
    refine wpAny_call (c_fspath (X.keeps up) (T.keeps up) r fun h' tk' st' => ?_)
    refine hQ _ h' tk' hv ⟨st' _ _ (hs₁.extBut _ _ hzi s1), st' _ _ (hs₁.extBut _ _ hTi s2), h1₁.at fun o e => st' _ o e, Heap.IsList.at hl fun o e => st' _ _ (up _ o e), fun b o e => st' _ _ (up b o e)⟩ fun b o hb e => st' _ _ (hs₁.extBut b o (fun q => hb (by simp [q])) e)
  done := fun s Q E st hQ => by
    obtain ⟨s1, s2, s3, s4, s5⟩ := st
    exact next_map_end rfl s1 s2 s3 s4 (by simp [strValues]) fun h' he => hQ h' s.toks fun b o hb e => he b o (fun q => hb (by simp [q])) e
  self := fun i s Q E st hQ => iter_map st.1 hQ
/-- tuple(map(fspath, l)), where the map is laid -/
theorem tuple_fspath {prog : Program} {w : World} {dp un : Nat} {fr : Option (List Env)} {gd : Option (List Code)} {E : Value → Shared → Prop} {s : Shared} {base : Heap} {mean : ExcName → Option Value} {mg mb : Str → Option Value} {k : List (Str × Tok)} {l : Addr} {Q : Value → Shared → Prop}
    (X : (tp.heap_39 w.params).In base) (T : Top tp.view_39 [Str.ofString "relpath"] mean mg mb base) (r : Rm dp un 6) (hl : base.IsList l (strValues k).toArray) (hz : k.length ≤ 1000)
    (hz' : IsMap s.heap (base.objs.size + 2) (base.objs.size + 1) (.ref 101)) (hTI : IsOne s.heap (base.objs.size + 1) (.ref base.objs.size)) (hit : s.heap.IsListIter base.objs.size l 0) (hsz : s.heap.objs.size = base.objs.size + 3)
    (hkp : ∀ c o, base.get? c = some o → s.heap.get? c = some o)
    (h : ∀ h' D tk', base.StaysIn h' → h'.get? D = some ({ cls := .type "tuple", data := .seq (strValues k).toArray } : Obj) → base.get? D = none → Q (.ref D) { s with heap := h', toks := tk' }) :
    wpAny (model prog w) (AA dp un fr gd) (call (.type "tuple") [.ref (base.objs.size + 2)]) Q E s := by
  have W := walks_fspath (prog := prog) (w := w) (dp := dp) (un := un + 3) (fr := fr) (gd := gd) (z := base.objs.size + 2) (TI := base.objs.size + 1) (i1 := base.objs.size) X T ⟨r.hd |> fun q => by omega, by have := r.hu; omega⟩ hl (Nat.ne_of_gt (Nat.lt_add_of_pos_right (by decide))) (Nat.ne_of_gt (Nat.lt_add_of_pos_right (by decide))) (Nat.le_refl _)
  refine call_tuple_map (A := AA dp un fr gd) W.toS (fun i s st => ⟨_, st.1, rfl⟩) ⟨hz', hTI, hit, Heap.IsList.at hl fun o e => hkp _ o e, hkp⟩ ?_ (List.Mem.head _) (fun s' acc hm hacc => ?_) (by rw [sizeLine_eq]; omega)
  · intro b hb
    simp at hb
    show b < s.heap.objs.size
    rw [hsz]
    rcases hb with rfl | rfl | rfl | hb
    · exact Nat.lt_succ_self _
    · exact Nat.lt_of_lt_of_le (Nat.lt_succ_self _) (Nat.le_succ _)
    · exact Nat.lt_add_of_pos_right (by decide)
    · exact Nat.lt_of_lt_of_le hb (Nat.le_add_right _ _)
  · have hacc' : acc = (strValues k).toArray := by
      obtain ⟨a1, a2⟩ := hacc
      refine Array.ext (by simp [a1, strValues]) fun j h1 h2 => ?_
      have q : (strValues k)[j]? = some acc[j] := a2 j _ (Array.getElem?_eq_getElem h1)
      rw [List.getElem?_eq_getElem (by simpa using h2)] at q
      exact (Option.some.inj q).symm
    subst hacc'
    have st : base.StaysIn s'.heap := fun b o e => hm.heap b o (fun q => Nat.lt_irrefl _ (by rw [List.mem_singleton.mp q] at e; exact Heap.lt_size e)) (hkp b o e)
    have e : s' = { s with heap := s'.heap, toks := s'.toks } := by
      obtain ⟨hp, g, d, tk, os⟩ := s'
      obtain ⟨_, b, c, d', _⟩ := hm
      simp only at b c d'
      subst b c d'
      rfl
    rw [e]
    refine h _ _ _ (fun b o q => Heap.get?_push_of_some _ (st b o q)) (Heap.get?_push_size _ rfl) ?_
    cases q : base.get? s'.heap.objs.size with
    | none => rfl
    | some o => exact absurd (Heap.lt_size (st _ _ q)) (Nat.lt_irrefl _)
end
section
theorem enterC {prog : Program} {w : World} {dp un : Nat} {fr : Option (List Env)} {gd : Option (List Code)} {K : Frag} {R : Result → Shared → Prop} {s : Shared} {p : Program} {loose : List Str} {mean : ExcName → Option Value} {mg mb : Str → Option Value}
    {name qual : Str} {params : Arguments} {body : List Stmt} {scope : Scope} {dV kV doc pm cdv ct oc : Value} {an od : Option Addr} {osl : Array (Option Value)} {f : Addr} {args : Args} (binds : List (Str × Value))
    (X : K.In s.heap) (T : Top p loose mean mg mb s.heap)
    (ho : K.lookup f = some ⟨oc, od, .func (fnOf name qual params body scope dV kV doc pm an cdv ct), osl⟩) (hcd : codeIn K cdv qual = true) (hroom : dp < recursionLimit)
    (hbind : BindsTo s (fnOf name qual params body scope dV kV doc pm an cdv ct) args binds) (hkind : (binds.all fun y => scope.names.lookup y.1 == some .local || scope.names.lookup y.1 == some .cell) = true)
    (hnd : ((cellsFrom 0 scope.names []).map (·.1)).Nodup)
    (h : ∀ L' h₁ tk cells, Fr s.heap L' h₁ (bindL (envOfC qual scope L' f cdv).kindOf binds fun _ => none) → News s.heap L' h₁ cells →
      CellsAre (bindC (envOfC qual scope L' f cdv).kindOf binds fun _ => none) (cellsFrom (L' + 1) scope.names []) cells →
      wpAny (model prog w) (AA (dp + 1) (un + 3) (fr.map (envOfC qual scope L' f cdv :: ·)) gd) (execs body (envOfC qual scope L' f cdv))
        (fun fl s' => R (.ok (.ret (match fl with | .ret v => v | _ => .none))) s') (fun _ _ => False)
        { s with heap := h₁, toks := tk })
    (hco : scope.isCoroutine = false) (hgen : scope.isGenerator = false) (hk : scope.kind = .function) : codeAny (model prog w) (AA dp un fr gd) (.call (.ref f) args) R s := by
  refine codeAny_call_function hroom (X _ _ ho) rfl hco hgen rfl (codeRec_of X hcd) (hbind _ _ _ _ ?_)
  refine wpAny_newFunctionEnv_cells hk (kindsX hkind _) fun env' he s' x => ?_
  subst he
  refine ⟨T.nolimit.keeps x.toInCall.keep, codeAny_func ?_⟩
  obtain ⟨h₁, tk, rfl, _⟩ := x.done
  obtain ⟨cells, NC, Y⟩ := Cl.news (h₀ := s.heap) (Nat.le_refl _) fun n c hm => ⟨x.cell n c (lookup_of_mem_nodup (cellsFrom_names scope.names 0 (s.heap.objs.size + 1) [] [] rfl ▸ hnd) hm), x.above n c hm⟩
  exact wpAny_mono (h s.heap.objs.size h₁ tk cells ⟨x.toInCall.ns, fun b o e => x.toInCall.keep b o e, Nat.le_refl _⟩ NC Y) (fun _ _ x => x) (fun _ _ x => x.elim)
local macro_rules | `(tactic| walk_at "mine_inC") => `(tactic| (
  w_top off
  (case k6 => k_is); (case k7 => k_is); (case k8 => exact Rm.room (by assumption)); (case k9 => first | exact BindsTo.of_eq rfl | exact binds_K (by k_in) rfl (by k_is) rfl rfl rfl); (case kB => exact rfl); (case kD => decide +kernel)
  (case c2 => exact rfl); (case c3 => exact rfl); (case c4 => exact rfl)
  k_whole; intro L' h' tk' cells' F' N' Y'; k_cells Y'; (try simp only [List.cons_append, List.nil_append] at N'); (try dsimp only); (try k_fold)))
local macro_rules | `(tactic| walk_at "exec Try") => `(tactic| ((with_reducible show wpAny _ _ (exec (Stmt.Try _ (_ :: _) _ [] _) (envOfC _ _ _ _ _)) _ _ _); refine wpAny_Try_except ?_))
end
section
theorem tup_item {prog : Program} {w : World} {A : Around} {s : Shared} {value slice : Expr} {t : Addr} {vs : List Value} {i : Int} {y : Value} {u : Tok} {Q E : Value → Shared → Prop} (ht : IsTup s.heap t vs.toArray) (hi : 0 ≤ i) (hi2 : i < 100000) (hy : vs[i.toNat]? = some y) (h : Q y s)
    (hs : subscripted slice false (.ref t) (.int i u) = operate [.ref t, .int i u] (getItem (.ref t) (.int i u)) := by with_unfolding_all rfl) :
    wpAny (model prog w) A (subscriptTail value slice (.ref t) (.int i u)) Q E s := by
  refine tail_any ht.typeIs slot_tuple_getitem.lookup (getItem_tuple (j := i.toNat) ht (by omega) (by omega) ?_ (by simpa using hy) h) hs
  have hlt : i.toNat < vs.length := (List.getElem?_eq_some_iff.mp hy).1
  unfold seqIndex?
  simp only [List.size_toArray]
  first
    | (rw [if_neg (by omega)]; simp; omega)
    | (simp; omega)
theorem tup_truthy {prog : Program} {w : World} {A : Around} {s : Shared} {t : Addr} {vs : List Value} {Q : Bool → Shared → Prop} {E : Value → Shared → Prop} (ht : IsTup s.heap t vs.toArray) (hz : vs.length ≤ 100000) (h : Q (!vs.isEmpty) { s with toks := s.toks + 1 + 1 }) :
    wpAny (model prog w) A (truthy (.ref t)) Q E s := by
  refine truthy_tuple ht (by rw [List.size_toArray]; omega) ?_
  rw [List.isEmpty_toArray]; exact h
local macro_rules | `(tactic| walk_at "truthy ref") => `(tactic| (k_here; (with_reducible show wpAny _ _ (truthy (Value.ref _)) _ _ _); k_dflt (refine' tup_truthy (vs := (_ :: _)) ?hl ?hf ?_; (case hl => exact News.isTup (by k_asm) (by k_mem)); (case hf => walk_at "mine_fit"); k_whole); (try simp only [List.isEmpty_cons, Bool.not_false, Bool.not_true])))
local macro_rules | `(tactic| walk_at "subscriptTail Name Constant ref int") => `(tactic| (k_here; (with_reducible show wpAny _ _ (subscriptTail _ _ (Value.ref _) (Value.int _ _)) _ _ _); k_dflt (refine' tup_item ?hl ?h0 ?h2 ?hf ?_; (case hl => exact News.isTup (by k_asm) (by k_mem)); (case h0 => decide); (case h2 => decide); (case hf => exact rfl); k_whole)))
end
section
open LCg
/-- the turns of a comprehension by an invariant, that may lay objects -/
theorem rest_inv {prog : Program} {w : World} {A : Around} {h₀ : Heap} {L : Addr} {m : Str → Option Value} {env : Env} {elt : Expr} {x : Str} {scope : Scope} {cl : List (Str × Addr)} {s : Shared} {S : List (Addr × Obj) → Prop} {P : Nat → Value → Prop} {Fin : List Value → List (Addr × Obj) → Prop} {n : Nat} {news : List (Addr × Obj)}
    (J : Nat → List Value → List (Addr × Obj) → Prop) (hj : J 0 [] news)
    (turn : ∀ i v I oI C oC D m₂ ys nx h tk (E' : Value → Shared → Prop), i < n → P i v → J i ys nx → NsObj oC m₂ → m₂ x = some v → Fr h₀ L h m → News h₀ L h ((I, oI) :: (C, oC) :: (D, lst ys) :: nx) → Off3 I C D nx → ((@Ne Nat I C) ∧ (@Ne Nat I D) ∧ (@Ne Nat C D)) →
      wpAny (model prog w) A (eval elt (compEnvC scope cl C env)) (CompEnd h₀ L m { s with heap := h, toks := tk } I oI C oC D (lst ys) S (fun y nx' => J (i + 1) (ys ++ [y]) nx')) E' { s with heap := h, toks := tk })
    (fin : ∀ ys nx, J n ys nx → Fin ys nx) : CompRest prog w A h₀ L m env elt x scope cl s S P Fin n 0 [] news := by
  have key : ∀ (j i : Nat) (ys : List Value) (nx : List (Addr × Obj)), i + j = n → J i ys nx → CompRest prog w A h₀ L m env elt x scope cl s S P Fin j i ys nx := by
    intro j
    induction j with
    | zero =>
      intro i ys nx hi hy
      exact CompRest.zero (fin ys nx ((show i = n by omega) ▸ hy))
    | succ j ih =>
      intro i ys nx hi hy
      refine CompRest.succ ?_
      intro v I oI C oC D m₂ h tk E' hv hC hx F N off ne
      refine wpAny_mono (turn i v I oI C oC D m₂ ys nx h tk E' (by omega) hv hy hC hx F N off ne) (fun y s₂ hq => ?_) fun _ _ e => e
      obtain ⟨h', tk', nw, e, F', N', off', hS, hJ⟩ := hq
      exact ⟨h', tk', nw, e, F', N', off', hS, ih (i + 1) _ _ (by omega) hJ⟩
  exact key n 0 [] news (by omega) hj
/-- what a source must bring, its iterator made -/
def SrcW (prog : Program) (w : World) (A : Around) (h₀ : Heap) (L : Addr) (m : Str → Option Value) (env : Env) (elt : Expr) (x : Str) (scope : Scope) (cl : List (Str × Addr)) (Fin : Shared → List Value → List (Addr × Obj) → Prop) (it : Value) (s₂ : Shared) : Prop :=
  ∃ (I : Addr) (fp : List Addr) (n : Nat) (P : Nat → Value → Prop) (St : Nat → Heap → Prop) (S : List (Addr × Obj) → Prop) (news : List (Addr × Obj)), it = .ref I ∧ Walks prog w A I fp [I] n P St ∧ n ≤ sizeLine ∧ (∀ i h, St i h → ∃ o, h.get? I = some o) ∧
    (∀ i h h' o nw, St i h → h.get? I = some o → h'.get? I = some o → (∀ b o, h₀.get? b = some o → h'.get? b = some o) → News h₀ L h' nw → S nw → St i h') ∧ St 0 s₂.heap ∧ (∀ b ∈ fp, b < s₂.heap.objs.size) ∧
    Fr h₀ L s₂.heap m ∧ News h₀ L s₂.heap news ∧ L ≠ I ∧ h₀.get? I = none ∧ (∀ p ∈ news, p.1 ≠ I) ∧ S news ∧ CompRest prog w A h₀ L m env elt x scope cl s₂ S P (Fin s₂) n 0 [] news
section
variable {prog : Program} {w : World} {A : Around} {E : Value → Shared → Prop} {s : Shared} {h₀ : Heap} {L : Addr} {m : Str → Option Value} {env : Env}
theorem ListComp_V {elt iter : Expr} {x : Str} {px : Pos} {scope : Scope} {cl : List (Str × Addr)} {pos : Pos} {Q : Value → Shared → Prop} (_F₀ : Fr h₀ L s.heap m)
    (hclos : closureFor scope env = pure cl) (hcell : ∀ y ∈ scope.names, y.2 ≠ .cell) (hkind : scope.kind = .function)
    (hnames : ∀ y ∈ scope.names, y.2 = .local → scope.names.lookup y.1 = some .local) (hx : scope.names.lookup x = some .local)
    (h : wpAny (model prog w) A (eval iter env) (fun xv s₁ => wpAny (model prog w) A (pyIter xv) (SrcW prog w A h₀ L m env elt x scope cl (fun s₂ => FinE h₀ L m s₂ Q)) E s₁) E s)
    (hs : ∀ x, foldedSetIterable iter env x = pure x := by intro _; rfl) :
    wpAny (model prog w) A (eval (.ListComp elt [⟨.Name x px, iter, [], 0⟩] scope pos) env) Q E s := by
  rw [eval_ListComp]
  refine wpAny_comprehension_free (use := none) rfl hs hclos hkind hnames (wpAny_mono h (fun xv s₁ h₁ => wpAny_mono h₁ (fun it s₂ h₂ => ?_) fun _ _ e => e) fun _ _ e => e)
  obtain ⟨I, fp, n, P, St, S, news, rfl, W, hsz, hIo, hSt, hst, hfp, F, N, hIL, hI₀, off, hS, R⟩ := h₂
  refine block_U W hsz hIo hSt hcell hkind hx hst hfp F N hIL hI₀ off hS R ?_
  intro D C h tk m' ys news' F' N' o1 hn hC₀ hD₀ hCL hDL hCD offC fin
  refine ⟨m', hn, fun h'' hs'' => fin D h'' tk (F'.change hs'' hCL hC₀) (fun p hp => ?_) o1⟩
  refine ⟨hs''.extBut _ _ ?_ (N' p hp).1, (N' p hp).2⟩
  rcases List.mem_cons.mp hp with rfl | hp
  · exact Ne.symm hCD
  · exact offC p hp
theorem Assign_ListComp_V {elt iter : Expr} {x y : Str} {px py : Pos} {scope : Scope} {cl : List (Str × Addr)} {pos spos : Pos} {Q : Flow → Shared → Prop} (_F₀ : Fr h₀ L s.heap m) (hLe : env.locals = L)
    (hsw : swapsWith (.ListComp elt [⟨.Name x px, iter, [], 0⟩] scope pos) (some (.Name y py)) spos.line env = pure true)
    (hclos : closureFor scope env = pure cl) (hcell : ∀ z ∈ scope.names, z.2 ≠ .cell) (hkind : scope.kind = .function)
    (hnames : ∀ z ∈ scope.names, z.2 = .local → scope.names.lookup z.1 = some .local) (hx : scope.names.lookup x = some .local)
    (hy : env.kindOf y = some .local) (hp : (env.scope.kind == .class || (env.scope.kind == .module && env.locals != env.globals)) = false)
    (h : wpAny (model prog w) A (eval iter env) (fun xv s₁ => wpAny (model prog w) A (pyIter xv) (SrcW prog w A h₀ L m env elt x scope cl (fun s₂ => FinA h₀ L m s₂ y Q)) E s₁) E s)
    (hs : ∀ x, foldedSetIterable iter env x = pure x := by intro _; rfl) :
    wpAny (model prog w) A (exec (.Assign [.Name y py] (.ListComp elt [⟨.Name x px, iter, [], 0⟩] scope pos) spos) env) Q E s := by
  subst hLe
  rw [exec_Assign_Name_used _ _ _ _ hsw]
  refine wpAny_bind (wpAny_standAt (wpAny_bind ?_))
  show wpAny _ A (do let _ ← comprehension (.ListComp elt [⟨.Name x px, iter, [], 0⟩] scope pos) scope env _ (newList []) false (eval iter env) (some (assign (.Name y py) env))) _ _ s
  refine wpAny_bind (wpAny_mono (wpAny_comprehension_free (use := some (assign (.Name y py) env)) (Q := fun _ s' => Q .next s') rfl hs hclos hkind hnames
    (wpAny_mono h (fun xv s₁ h₁ => wpAny_mono h₁ (fun it s₂ h₂ => ?_) fun _ _ e => e) fun _ _ e => e)) (fun _ s' hq => wpAny_pure (wpAny_pure hq)) fun _ _ e => e)
  obtain ⟨I, fp, n, P, St, S, news, rfl, W, hsz, hIo, hSt, hst, hfp, F, N, hIL, hI₀, off, hS, R⟩ := h₂
  refine block_U W hsz hIo hSt hcell hkind hx hst hfp F N hIL hI₀ off hS R ?_
  intro D C h' tk m' ys news' F' N' o1 hn hC₀ hD₀ hCL hDL hCD offC fin
  show wpAny _ A (assign (.Name y py) env (.ref D)) _ _ _
  refine wpAny_assign_Name (wpAny_storeName_local hy F'.ns (fun h₂ hn₂ hs₂ => ?_) hp)
  have hL₀ : h₀.get? env.locals = none := Heap.get?_none_of_le F'.above
  have F₂ : Fr h₀ env.locals h₂ (fun z => if z = y then some (.ref D) else m z) := ⟨hn₂, fun b o e => hs₂.extBut b o (fun q => by rw [q, hL₀] at e; cases e) (F'.keep b o e), F'.above⟩
  refine ⟨m', hn.sameBut hs₂ hCL, fun h'' hs'' => fin D h'' _ (F₂.change hs'' hCL hC₀) (fun p hp => ?_) o1⟩
  have z : h₂.get? p.1 = some p.2 := hs₂.extBut _ _ (N' p hp).2.1 (N' p hp).1
  refine ⟨hs''.extBut _ _ ?_ z, (N' p hp).2⟩
  rcases List.mem_cons.mp hp with rfl | hp
  · exact Ne.symm hCD
  · exact offC p hp
/-- a tuple of the ledger as the source -/
def TupAt (h₀ : Heap) (ax : Addr) (its : Array Value) (news : List (Addr × Obj)) : Prop := ∃ o, (ax, o) ∈ news ∧ o.cls = .type "tuple" ∧ ∃ n, o.data = .seq its n
theorem src_tup {elt : Expr} {x : Str} {scope : Scope} {cl : List (Str × Addr)} {Fin : Shared → List Value → List (Addr × Obj) → Prop} {ax : Addr} {vs : List Value} {k : Nat} {news : List (Addr × Obj)}
    (hh : A.handled = none) (F : Fr h₀ L s.heap m) (N : News h₀ L s.heap news) (hm : (ax, ({ cls := .type "tuple", data := .seq vs.toArray k } : Obj)) ∈ news) (hsz : vs.length ≤ 100000)
    (h : ∀ g tk, CompRest prog w A h₀ L m env elt x scope cl { s with heap := g, toks := tk } (TupAt h₀ ax vs.toArray) (fun i v => vs[i]? = some v) (Fin { s with heap := g, toks := tk }) vs.length 0 [] news) :
    wpAny (model prog w) A (pyIter (.ref ax)) (SrcW prog w A h₀ L m env elt x scope cl Fin) E s := by
  have ht : s.heap.IsTuple ax vs.toArray := ⟨_, (N _ hm).1, rfl, _, rfl⟩
  have hlt : ax < s.heap.objs.size := Heap.lt_size (N _ hm).1
  refine wpAny_pyIter_tuple ht ?_
  have up : ∀ b o, s.heap.get? b = some o → (s.heap.push { cls := .type "tuple_iterator", data := .fields #[.ref ax, .int 0 0] }).get? b = some o := fun b o e => Heap.get?_push_of_some _ e
  have W := Walks.tuple (prog := prog) (w := w) hh s.heap.objs.size ax (Nat.ne_of_lt hlt) vs.toArray
  rw [show vs.toArray.size = vs.length by simp] at W
  refine ⟨_, _, vs.length, _, _, TupAt h₀ ax vs.toArray, news, rfl, W, (by rw [sizeLine_eq]; omega), (fun i h st => by obtain ⟨o, e, _⟩ := st.1; exact ⟨o, e⟩), ?_, ⟨⟨_, Heap.get?_push_size _ rfl, rfl, rfl⟩, ?_⟩, (fun b hb => ?_),
      F.keeps up, N.grown up, Nat.ne_of_lt F.ns.lt, next_is_new F, fun p hp => Nat.ne_of_lt (Heap.lt_size (N p hp).1), ⟨_, hm, rfl, _, rfl⟩, ?_⟩
  · intro i h h' o nw st e e' k N S
    refine ⟨by obtain ⟨o', q, r⟩ := st.1; rw [e] at q; cases q; exact ⟨o, e', r⟩, ?_⟩
    obtain ⟨o', hm', r⟩ := S
    exact ⟨o', (N _ hm').1, r⟩
  · obtain ⟨o, ho, r⟩ := ht
    exact ⟨o, up _ _ ho, r⟩
  · show b < (s.heap.push _).objs.size
    rw [Heap.size_push]
    rcases List.mem_cons.mp hb with rfl | hb
    · exact Nat.lt_succ_self _
    · rw [List.mem_singleton.mp hb]; exact Nat.lt_succ_of_lt hlt
  · simpa using h (s.heap.push { cls := .type "tuple_iterator", data := .fields #[.ref ax, .int 0 0] }) s.toks
/-- a list as the source, of the ledger or older -/
theorem src_lst {elt : Expr} {x : Str} {scope : Scope} {cl : List (Str × Addr)} {Fin : Shared → List Value → List (Addr × Obj) → Prop} {ax : Addr} {vs : List Value} {news : List (Addr × Obj)}
    (hh : A.handled = none) (F : Fr h₀ L s.heap m) (N : News h₀ L s.heap news) (S : SrcAt h₀ ax vs.toArray news) (hsz : vs.length ≤ 100000)
    (h : ∀ g tk, CompRest prog w A h₀ L m env elt x scope cl { s with heap := g, toks := tk } (SrcAt h₀ ax vs.toArray) (fun i v => vs[i]? = some v) (Fin { s with heap := g, toks := tk }) vs.length 0 [] news) :
    wpAny (model prog w) A (pyIter (.ref ax)) (SrcW prog w A h₀ L m env elt x scope cl Fin) E s := by
  have hl := S.list F.keep N
  have hlt : ax < s.heap.objs.size := by obtain ⟨_, e, _⟩ := hl; exact Heap.lt_size e
  refine wpAny_pyIter_list hl ?_
  have up : ∀ b o, s.heap.get? b = some o → (s.heap.push { cls := .type "list_iterator", data := .fields #[.ref ax, .int 0 0] }).get? b = some o := fun b o e => Heap.get?_push_of_some _ e
  have W := Walks.list (prog := prog) (w := w) hh s.heap.objs.size ax (Nat.ne_of_lt hlt) vs.toArray
  rw [show vs.toArray.size = vs.length by simp] at W
  refine ⟨_, _, vs.length, _, _, SrcAt h₀ ax vs.toArray, news, rfl, W, (by rw [sizeLine_eq]; omega), (fun i h st => by obtain ⟨o, e, _⟩ := st.1; exact ⟨o, e⟩), list_st, ⟨⟨_, Heap.get?_push_size _ rfl, rfl, rfl⟩, hl.push _⟩, (fun b hb => ?_),
      F.keeps up, N.grown up, Nat.ne_of_lt F.ns.lt, next_is_new F, fun p hp => Nat.ne_of_lt (Heap.lt_size (N p hp).1), S, ?_⟩
  · show b < (s.heap.push _).objs.size
    rw [Heap.size_push]
    rcases List.mem_cons.mp hb with rfl | hb
    · exact Nat.lt_succ_self _
    · rw [List.mem_singleton.mp hb]; exact Nat.lt_succ_of_lt hlt
  · simpa using h (s.heap.push { cls := .type "list_iterator", data := .fields #[.ref ax, .int 0 0] }) s.toks
end
local macro_rules | `(tactic| walk_at "exec Assign cons ListComp") => `(tactic| (k_here; k_dflt (refine Assign_ListComp_V (by k_asm) (by rfl) (by with_unfolding_all rfl) (by with_unfolding_all rfl) (by decide) (by rfl) (by decide) (by rfl) (by rfl) (by rfl) ?_)))
local macro_rules | `(tactic| walk_at "eval ListComp") => `(tactic| (k_here; k_dflt (refine ListComp_V (by k_asm) (by with_unfolding_all rfl) (by decide) (by rfl) (by decide) (by rfl) ?_)))
end
section
def LsIn (own : List (Addr × Obj)) (ys : List Value) (ks : List (List (Str × Tok))) : Prop := ys.length = ks.length ∧ ∀ (j : Nat) (v : Value) (kk : List (Str × Tok)), ys[j]? = some v → ks[j]? = some kk → ∃ a c, v = .ref a ∧ (a, listOf (strValues kk).toArray c) ∈ own
theorem LsIn.nil {own : List (Addr × Obj)} : LsIn own [] [] := ⟨rfl, fun j v kk h => by simp at h⟩
theorem LsIn.snoc {own own' : List (Addr × Obj)} {ys : List Value} {ks : List (List (Str × Tok))} {a : Addr} {kk : List (Str × Tok)} {c : Nat} (h : LsIn own ys ks) (hs : ∀ p ∈ own, p ∈ own') (hm : (a, listOf (strValues kk).toArray c) ∈ own') : LsIn own' (ys ++ [.ref a]) (ks ++ [kk]) := by
  refine ⟨by simp [h.1], fun j v k' hv hk => ?_⟩
  by_cases hj : j < ys.length
  · rw [List.getElem?_append_left hj] at hv
    rw [List.getElem?_append_left (by rw [← h.1]; exact hj)] at hk
    obtain ⟨a', c', e, m⟩ := h.2 j v k' hv hk
    exact ⟨a', c', e, hs _ m⟩
  · have e : j = ys.length := by
      have := (List.getElem?_eq_some_iff.mp hv).1
      simp at this; omega
    subst e
    rw [List.getElem?_append_right (Nat.le_refl _), Nat.sub_self] at hv
    rw [h.1, List.getElem?_append_right (Nat.le_refl _), Nat.sub_self] at hk
    cases hv; cases hk
    exact ⟨a, c, rfl, hm⟩
theorem LsIn.more {own own' : List (Addr × Obj)} {ys : List Value} {ks : List (List (Str × Tok))} (h : LsIn own ys ks) (hs : ∀ p ∈ own, p ∈ own') : LsIn own' ys ks :=
  ⟨h.1, fun j v kk hv hk => by obtain ⟨a, c, e, m⟩ := h.2 j v kk hv hk; exact ⟨a, c, e, hs _ m⟩⟩
theorem LsIn.are {h₀ h : Heap} {L : Addr} {nx own : List (Addr × Obj)} {ys : List Value} {ks : List (List (Str × Tok))} (H : LsIn own ys ks) (N : News h₀ L h nx) (hs : ∀ p ∈ own, p ∈ nx) : LsAre h ys ks :=
  ⟨H.1, fun i v k hv hk => by obtain ⟨a, c, rfl, m⟩ := H.2 i v k hv hk; exact ⟨a, rfl, N.isList (hs _ m)⟩⟩
theorem pick6 {h₀ h : Heap} {L : Addr} {a b c d e f : Addr × Obj} {r : List (Addr × Obj)} (N : News h₀ L h (a :: b :: c :: d :: e :: f :: r)) : News h₀ L h (a :: e :: f :: r) := fun p hp => N p (by
  simp only [List.mem_cons] at hp ⊢
  rcases hp with hp | hp | hp | hp <;> simp [hp])
theorem pick2 {h₀ h : Heap} {L : Addr} {a e f x y : Addr × Obj} {r : List (Addr × Obj)} (N : News h₀ L h (a :: e :: f :: r)) (hx : x ∈ r) (hy : y ∈ r) : News h₀ L h [x, y, e, f] := fun p hp => N p (by
  simp only [List.mem_cons] at hp ⊢
  rcases hp with rfl | rfl | rfl | rfl | hp
  · exact .inr (.inr (.inr hx))
  · exact .inr (.inr (.inr hy))
  · exact .inr (.inl rfl)
  · exact .inr (.inr (.inl rfl))
  · cases hp)
theorem swap4 {h₀ h : Heap} {L : Addr} {a b c d : Addr × Obj} {r : List (Addr × Obj)} (N : News h₀ L h (r ++ [a, b, c, d])) : News h₀ L h (a :: b :: c :: d :: r) := fun p hp => N p (by
  simp only [List.mem_cons, List.mem_append] at hp ⊢
  rcases hp with hp | hp | hp | hp | hp <;> simp [hp])
theorem swap4b {h₀ h : Heap} {L : Addr} {a b c d : Addr × Obj} {r : List (Addr × Obj)} (N : News h₀ L h (a :: b :: c :: d :: r)) : News h₀ L h (r ++ [a, b, c, d]) := fun p hp => N p (by
  simp only [List.mem_cons, List.mem_append] at hp ⊢
  rcases hp with hp | hp | hp | hp | hp
  · simp [hp]
  · simp [hp]
  · simp [hp]
  · simp [hp]
  · simp at hp; simp [hp])
end
section
/-- the table of a set whose one element is True -/
def t1 (led : Bool) : SetTable := (layNew (.fresh 0 0 led) #[] 1 (.bool true)).2.1
theorem lay1 (led : Bool) : layNew (.fresh 0 0 led) #[] 1 (.bool true) = (#[(1, .bool true)], t1 led, false, false) := by cases led <;> decide +kernel
theorem t1_fits (led : Bool) : (t1 led).fits 1 = true := by cases led <;> decide +kernel
theorem t1_plain (led : Bool) : (t1 led).plain = true := by cases led <;> decide +kernel
theorem t1_led (led : Bool) : (t1 led).led = led := by cases led <;> decide +kernel
theorem t1_full (led : Bool) : (t1 led).tooFull = false := by cases led <;> decide +kernel
theorem t1_place (led : Bool) : ∃ j, (t1 led).place = #[j] := by cases led <;> exact ⟨1, by decide +kernel⟩
def oSet0 (led : Bool) : Obj := { cls := .type "set", dict := none, data := .set #[] 0 (.fresh 0 0 led) }
def oSet1 (led : Bool) : Obj := { cls := .type "set", dict := none, data := .set #[(1, .bool true)] 1 (t1 led) }
section
variable {prog : Program} {w : World} {A : Around} {E : Value → Shared → Prop} {s : Shared}
theorem hash_true {Q : Int → Shared → Prop} (h : Q 1 { s with toks := s.toks + 1 }) : wpAny (model prog w) A (pyHash (.bool true)) Q E s := by
  have hT : s.TypeIs (.bool true) "bool" := rfl
  unfold pyHash
  have hv : [Value.bool true].any Value.onHeap = false := rfl
  refine wpAny_bind ?_
  rw [cRoomFor, if_neg (by rw [hv]; exact Bool.false_ne_true)]; refine wpAny_pure ?_
  refine wpAny_bind (wpAny_specialOf hT F.slot_bool_hash.lookup ?_)
  show wpAny _ _ (if (some (Value.builtin "int.__hash__") == some Value.none) = true then _ else _) Q E s
  rw [if_neg (by rw [beq_builtin_none]; exact Bool.false_ne_true)]
  refine wpAny_bind (wpAny_specialOf hT F.slot_bool_hash.lookup ?_)
  show wpAny _ _ (callSpecialIfBoundUnlessNone? (.bool true) "__hash__" _ >>= _) Q E s
  refine wpAny_bind (wpAny_callSpecialIfBoundUnlessNone?_slot hT F.slot_bool_hash
    (wpAny_call_entry F.slot_bool_hash hT F.entry_int_hash
      (show wpAny _ _ (do ret (← mkInt (rawHash 1))) _ _ s from wpAny_ret_mkInt ?_) (F.args_int_hash_1 _)))
  exact wpAny_pure h
theorem eq_true {Q : Bool → Shared → Prop} (h : Q true s) : wpAny (model prog w) A (eqBool (.bool true) (.bool true)) Q E s := by
  unfold eqBool
  refine wpAny_holding ?_
  rw [if_pos (by decide)]
  exact wpAny_bind (wpAny_rule (wpAny_pure h))
theorem add_first {D : Addr} {led : Bool} {Q : Bool → Shared → Prop} (hD : s.heap.get? D = some (oSet0 led))
    (h : ∀ h', Heap.SameBut D s.heap h' → h'.get? D = some (oSet1 led) → Q true { s with heap := h', toks := s.toks + 1 }) : wpAny (model prog w) A (setAdd D (.bool true)) Q E s := by
  unfold setAdd
  refine wpAny_holding (wpAny_bind (hash_true ?_))
  unfold setAddHashed setAddHashedIn
  refine wpAny_holding (wpAny_bind (wpAny_setState_of hD rfl (by cases led <;> decide +kernel) ?_))
  dsimp only
  rw [if_pos (by decide +kernel)]
  unfold setAddByScan
  refine wpAny_bind ?_
  refine wpAny_bind (wpAny_rule ?_)
  refine wpAny_bind (wpAny_pure ?_)
  rw [lay1]
  dsimp only
  refine wpAny_bind (wpAny_pure ?_)
  rw [if_pos (t1_plain led)]
  refine wpAny_bind (m := hashByValue 8 (.bool true)) (wpAny_pure ?_)
  rw [if_pos rfl]
  refine wpAny_bind (wpAny_storeSet_of (s := { s with toks := s.toks + 1 }) hD rfl ?_ (by rw [sizeLine_eq]; decide))
  rw [if_neg (by rw [t1_full]; decide)]
  refine wpAny_pure (wpAny_pure (h _ (Heap.SameBut.update ..) ?_))
  exact Heap.get?_update_self _ hD rfl
theorem add_again {D : Addr} {led : Bool} {Q : Bool → Shared → Prop} (hD : s.heap.get? D = some (oSet1 led))
    (h : Q false { s with toks := s.toks + 1 }) : wpAny (model prog w) A (setAdd D (.bool true)) Q E s := by
  unfold setAdd
  refine wpAny_holding (wpAny_bind (hash_true ?_))
  unfold setAddHashed setAddHashedIn
  refine wpAny_holding (wpAny_bind (wpAny_setState_of hD rfl (t1_fits led) ?_))
  dsimp only
  rw [if_pos (by decide +kernel)]
  unfold setAddByScan
  refine wpAny_bind ?_
  refine wpAny_bind (wpAny_rule ?_)
  refine wpAny_bind ?_
  show wpAny _ _ (setScanFrom D (.bool true) 1 true [(1, .bool true)] 0) _ _ _
  unfold setScanFrom
  rw [if_pos (by decide)]
  refine wpAny_bind (wpAny_setEpoch_of hD rfl (t1_fits led) ?_)
  refine wpAny_bind (eq_true ?_)
  rw [if_pos (by decide)]
  exact wpAny_pure (wpAny_pure (wpAny_pure h))
theorem call_add {D : Addr} {o : Obj} {Q : Value → Shared → Prop} (hT : s.heap.get? D = some o) (hc : o.cls = .type "set")
    (h : wpAny (model prog w) A.in1 (setAdd D (.bool true)) (fun _ => Q .none) (fun _ _ => False) s) : wpAny (model prog w) A (call (.builtin "set.add") [.ref D, .bool true]) Q E s := by
  refine wpAny_call_entry F.slot_set_add ⟨o, hT, hc⟩ F.entry_set_add ?_ (F.args_set_add_2 _ _)
  unfold Builtin.«set.add» Builtin.Frozenset.oneOther
  simp only [List.isEmpty_nil, bind_assoc]
  unfold Builtin.Frozenset.addrOf
  refine wpAny_bind (wpAny_pure ?_)
  try dsimp only
  refine wpAny_bind (wpAny_pure ?_)
  try dsimp only
  refine wpAny_bind (wpAny_mono h (fun _ _ q => ?_) fun _ _ e => e.elim)
  show wpAny _ _ (ret Value.none) _ _ _
  exact wpAny_pure ⟨_, rfl, q⟩
end
end
section
namespace SetF
open PySem.F
theorem owner_seti : Manifest.owners.lookup (String.ofList ['r', 'o', 't', 'a', 'r', 'e', 't', 'i', '_', 't', 'e', 's'].reverse) = some Manifest.sig_set_iterator := by kernel_rfl
theorem slot_seti_next : Slot "set_iterator" "__next__" "set_iterator.__next__" :=
  .of (owner := "set_iterator") (n := "__next__") (by rw [typeLookup_type, builtinLookup_eq_fast]; kernel_rfl) (by decide +kernel) (by decide +kernel) (by decide +kernel)
    (by first | exact .inl (by decide +kernel) | exact .inr (by decide +kernel)) (by rw [isSubtype_type]; kernel_rfl)
theorem args_seti_next (a : Value) : argsOk "set_iterator.__next__" ⟨[a], []⟩ := by
  unfold argsOk; rw [signature?_of (id := "set_iterator.__next__") (n := ['_', '_', 't', 'x', 'e', 'n', '_', '_']) (o := ['r', 'o', 't', 'a', 'r', 'e', 't', 'i', '_', 't', 'e', 's']) (by kernel_rfl) owner_seti]; kernel_rfl
theorem entry_seti_next : entryFor table "set_iterator.__next__" = some Builtin.«set_iterator.__next__» := entryFor_of_tree (by kernel_rfl)
theorem entry_set_iter : entryFor table "set.__iter__" = some Builtin.«frozenset.__iter__» :=
  entryFor_alias (id' := "frozenset.__iter__") (by kernel_rfl) (by first | rfl | decide +kernel | (unfold String.splitOn; simp +decide [String.splitOnAux])) (by decide +kernel) (by kernel_rfl)
end SetF
def ledOf (w : World) : Bool := !(w.params.followText "set-order")
section
variable {prog : Program} {w : World} {A : Around} {E : Value → Shared → Prop} {s : Shared}
theorem new_set {Q : Value → Shared → Prop} (h : Q (.ref s.heap.objs.size) { s with heap := s.heap.push (oSet0 (ledOf w)) }) : wpAny (model prog w) A (newSet (.type "set")) Q E s := by
  unfold newSet setsByText
  refine wpAny_bind (wpAny_bind (wpAny_askSetting (wpAny_pure ?_)))
  dsimp only
  simp only [newObj]
  exact wpAny_bind (wpAny_alloc (wpAny_pure h))
def SetIt (h : Heap) (it D : Addr) (slot given : Int) : Prop := ∃ o u v, h.get? it = some o ∧ o = { cls := .type "set_iterator", data := .fields #[.int slot u, .int given v, .ref D, .int 1 0, .int 1 0] }
theorem iter_set {D : Addr} {Q : Value → Shared → Prop} (hD : s.heap.get? D = some (oSet1 (ledOf w)))
    (h : ∀ h', (∀ b o, s.heap.get? b = some o → h'.get? b = some o) → SetIt h' s.heap.objs.size D 0 0 → Q (.ref s.heap.objs.size) { s with heap := h' }) : wpAny (model prog w) A (pyIter (.ref D)) Q E s := by
  have hT : s.TypeIs (.ref D) "set" := ⟨_, hD, rfl⟩
  refine wpAny_pyIter_slot hT F.slot_set_iter (wpAny_call_entry F.slot_set_iter hT SetF.entry_set_iter ?_ (F.args_set_iter_1 _))
  unfold Builtin.«frozenset.__iter__» Builtin.Frozenset.slot0
  refine wpAny_bind (m := Builtin.Frozenset.addrOf (.ref D)) (wpAny_pure ?_)
  unfold Builtin.Frozenset.sizeOf
  refine wpAny_bind (wpAny_bind (wpAny_setEntries_of hD rfl (t1_fits _) (wpAny_pure ?_)))
  refine wpAny_bind ?_
  unfold setDrawn setsByText
  refine wpAny_bind (wpAny_setState_of hD rfl (t1_fits _) ?_)
  refine wpAny_bind (wpAny_bind (wpAny_askSetting (wpAny_pure (wpAny_pure ?_))))
  split
  · rename_i hq
    rw [Bool.and_eq_true] at hq
    have h2 : ((!(t1 (ledOf w)).plain) && decide ((#[((1 : Int), Value.bool true)] : Array (Int × Value)).size > 1)) = true := hq.2
    rw [t1_plain] at h2
    cases h2
  · refine wpAny_bind (wpAny_pure ?_)
    refine wpAny_bind (wpAny_setEpoch_of hD rfl (t1_fits _) ?_)
    refine wpAny_bind (wpAny_newObj_type (wpAny_pure ⟨_, rfl, "set_iterator", _, ⟨_, Heap.get?_push_size _ rfl, rfl⟩, SetF.slot_seti_next.lookup, ?_⟩))
    exact h _ (fun b o e => Heap.get?_push_of_some _ e) ⟨_, _, _, Heap.get?_push_size _ rfl, rfl⟩
theorem pick_one (f : Nat → Nat) (x : Int × Value) : pickOrder f #[x] = #[x] := by
  unfold pickOrder pickOrder.go
  simp [Nat.mod_one, pickOrder.go]
abbrev slotOf (w : World) : Nat := if w.params.followText "set-order" = true then 0 else 2
theorem led_true {w : World} (h : w.params.followText "set-order" = false) : ledOf w = true := by unfold ledOf; rw [h]; rfl
theorem next_first {D : Addr} {Q : Option (Value × Nat) → Shared → Prop} (hD : s.heap.get? D = some (oSet1 (ledOf w))) (h : Q (some (.bool true, slotOf w)) s) : wpAny (model prog w) A (setNext D 0 0 1) Q E s := by
  unfold setNext
  refine wpAny_bind (wpAny_setState_of hD rfl (t1_fits _) ?_)
  unfold setsByText
  refine wpAny_bind (wpAny_bind (wpAny_askSetting (wpAny_pure ?_)))
  dsimp only
  cases hb : w.params.followText "set-order" with
  | true =>
    rw [if_pos (show (model prog w).w.params.followText "set-order" = true from hb), if_neg (by decide)]
    unfold setWalk setsByText
    refine wpAny_bind (wpAny_bind (wpAny_setState_of hD rfl (t1_fits _) ?_))
    refine wpAny_bind (wpAny_bind (wpAny_askSetting (wpAny_pure ?_)))
    dsimp only
    rw [if_pos (show (model prog w).w.params.followText "set-order" = true from hb)]
    refine wpAny_bind (wpAny_askSetting (wpAny_pure (wpAny_pure ?_)))
    rw [pick_one]
    simpa [slotOf, hb] using h
  | false =>
    rw [if_neg (show ¬ ((model prog w).w.params.followText "set-order" = true) from fun q => by rw [show (model prog w).w.params.followText "set-order" = false from hb] at q; cases q)]
    have hl := led_true hb
    rw [hl]
    have e : slotOf w = 2 := by unfold slotOf; rw [hb]; rfl
    rw [e] at h
    exact wpAny_bind (wpAny_pure (wpAny_pure h))
theorem next_last {D : Addr} {Q : Option (Value × Nat) → Shared → Prop} (hD : s.heap.get? D = some (oSet1 (ledOf w))) (h : Q none s) : wpAny (model prog w) A (setNext D (slotOf w) 1 1) Q E s := by
  unfold setNext
  refine wpAny_bind (wpAny_setState_of hD rfl (t1_fits _) ?_)
  unfold setsByText
  refine wpAny_bind (wpAny_bind (wpAny_askSetting (wpAny_pure ?_)))
  dsimp only
  cases hb : w.params.followText "set-order" with
  | true =>
    rw [if_pos (show (model prog w).w.params.followText "set-order" = true from hb), if_neg (by decide)]
    unfold setWalk setsByText
    refine wpAny_bind (wpAny_bind (wpAny_setState_of hD rfl (t1_fits _) ?_))
    refine wpAny_bind (wpAny_bind (wpAny_askSetting (wpAny_pure ?_)))
    dsimp only
    rw [if_pos (show (model prog w).w.params.followText "set-order" = true from hb)]
    refine wpAny_bind (wpAny_askSetting (wpAny_pure (wpAny_pure ?_)))
    rw [pick_one]
    exact h
  | false =>
    rw [if_neg (show ¬ ((model prog w).w.params.followText "set-order" = true) from fun q => by rw [show (model prog w).w.params.followText "set-order" = false from hb] at q; cases q)]
    have hl := led_true hb
    rw [hl]
    have e : slotOf w = 2 := by unfold slotOf; rw [hb]; rfl
    rw [e]
    exact wpAny_bind (wpAny_pure (wpAny_pure h))
theorem next_set_item {it D : Addr} {Q : Option Value → Shared → Prop} (hD : s.heap.get? D = some (oSet1 (ledOf w))) (hit : SetIt s.heap it D 0 0) (hne : D ≠ it)
    (h : ∀ h', Heap.SameBut it s.heap h' → SetIt h' it D (slotOf w) 1 → Q (some (.bool true)) { s with heap := h' }) : wpAny (model prog w) A (pyNext (.ref it)) Q E s := by
  obtain ⟨o, u, v, ho, rfl⟩ := hit
  have hT : s.TypeIs (.ref it) "set_iterator" := ⟨_, ho, rfl⟩
  unfold pyNext
  refine wpAny_bind (wpAny_attempt (wpAny_callSpecial?_slot (name := Str.ofString "__next__") hT SetF.slot_seti_next
    (wpAny_call_entry SetF.slot_seti_next hT SetF.entry_seti_next ?_ (SetF.args_seti_next _))))
  unfold Builtin.«set_iterator.__next__»
  refine wpAny_bind (wpAny_pure ?_)
  refine wpAny_bind (wpAny_fieldsOf ho rfl ?_)
  dsimp only
  refine wpAny_bind (wpAny_setEntries_of hD rfl (t1_fits _) ?_)
  rw [if_neg (by decide)]
  refine wpAny_bind (next_first hD ?_)
  dsimp only
  refine wpAny_bind (wpAny_setField_rec ho (by simp) fun h₁ ho₁ hs₁ => ?_)
  refine wpAny_bind (wpAny_setField_rec ho₁ (by simp) fun h₂ ho₂ hs₂ => ?_)
  exact wpAny_pure ⟨_, rfl, wpAny_pure (h h₂ (hs₁.trans hs₂) ⟨_, _, _, ho₂, rfl⟩)⟩
theorem next_set_end {it D : Addr} {Q : Option Value → Shared → Prop} (hh : A.handled = none) (hD : s.heap.get? D = some (oSet1 (ledOf w))) (hit : SetIt s.heap it D (slotOf w) 1)
    (h : ∀ h', Heap.ExtBut it s.heap h' → Q none { s with heap := h' }) : wpAny (model prog w) A (pyNext (.ref it)) Q E s := by
  obtain ⟨o, u, v, ho, rfl⟩ := hit
  have hT : s.TypeIs (.ref it) "set_iterator" := ⟨_, ho, rfl⟩
  unfold pyNext
  refine wpAny_bind (wpAny_attempt (wpAny_callSpecial?_slot (name := Str.ofString "__next__") hT SetF.slot_seti_next
    (wpAny_call_entry SetF.slot_seti_next hT SetF.entry_seti_next ?_ (SetF.args_seti_next _))))
  unfold Builtin.«set_iterator.__next__»
  refine wpAny_bind (wpAny_pure ?_)
  refine wpAny_bind (wpAny_fieldsOf ho rfl ?_)
  dsimp only
  refine wpAny_bind (wpAny_setEntries_of hD rfl (t1_fits _) ?_)
  rw [if_neg (by decide)]
  refine wpAny_bind (next_last hD ?_)
  dsimp only
  refine wpAny_bind (wpAny_setField_rec ho (by simp) fun h₁ ho₁ hs₁ => ?_)
  show wpAny _ _ (newExc (.type "StopIteration") [] >>= _) _ _ _
  refine wpAny_bind ?_
  simp only [newExc, newTuple]
  refine wpAny_bind (wpAny_newObj_type ?_ (by size_fits))
  refine wpAny_bind (m := firstArgMember _ _) (wpAny_of_eq (a := Value.none) (by first | rfl | (simp only [firstArgMember]; rfl)) ?_)
  refine wpAny_newObj_type ?_ (by size_fits)
  simp only [raiseNew]
  refine wpAny_bind (wpAny_handled ?_)
  first | rw [show A.in1.handled = none from hh] | rw [hh]
  refine wpAny_bind (wpAny_pure (wpAny_throw ?_))
  refine wpAny_bind (wpAny_isInstance (T := "StopIteration") (b := true) ⟨_, Heap.get?_push_size _ rfl, rfl⟩ isSubtype_stop ?_)
  exact wpAny_pure (h _ ((hs₁.extBut.push _).push _))
/-- a, = the set -/
theorem unpack_set {D : Addr} {targets : List (Bool × (Value → Sem Unit))} {Q : Unit → Shared → Prop} (hh : A.handled = none) (hD : s.heap.get? D = some (oSet1 (ledOf w)))
    (hn : targets.length = 1) (hstar : targets.findIdx? (·.1) = none)
    (h : ∀ h', (∀ b o, s.heap.get? b = some o → h'.get? b = some o) → wpAny (model prog w) A (assignInOrder (targets.map (·.2)) [.bool true]) Q E { s with heap := h' }) :
    wpAny (model prog w) A (unpack (.ref D) targets) Q E s := by
  have hT : s.TypeIs (.ref D) "set" := ⟨_, hD, rfl⟩
  have hlt : D < s.heap.objs.size := Heap.lt_size hD
  unfold unpack
  rw [hn, hstar]
  refine wpAny_bind (wpAny_holding ?_)
  unfold unpackItems
  refine wpAny_bind ?_
  unfold notIterableAtAll
  refine wpAny_bind (wpAny_specialOf hT F.slot_set_iter.lookup ?_)
  refine wpAny_pure ?_
  simp only [Bool.false_eq_true, if_false]
  refine wpAny_bind (wpAny_holding (iter_set hD fun h₁ hk₁ hit₁ => ?_))
  refine wpAny_bind (wpAny_holding ?_)
  show wpAny _ _ (pyNext (.ref s.heap.objs.size) >>= _) _ _ _
  refine wpAny_bind (next_set_item (hk₁ _ _ hD) hit₁ (Nat.ne_of_lt hlt) fun h₂ hs₂ hit₂ => ?_)
  refine wpAny_bind (wpAny_holding (wpAny_pure (wpAny_pure ?_)))
  rw [if_neg (by decide)]
  refine wpAny_bind (wpAny_holding (next_set_end hh (hs₂.extBut _ _ (Nat.ne_of_lt hlt) (hk₁ _ _ hD)) hit₂ fun h₃ he₃ => ?_))
  simp only [Option.isSome_none, Bool.false_eq_true, if_false]
  exact wpAny_pure (h h₃ fun b o e => he₃ b o (Nat.ne_of_lt (Heap.lt_size e)) (hs₂.extBut b o (Nat.ne_of_lt (Heap.lt_size e)) (hk₁ b o e)))
end
end
section
section
variable {prog : Program} {w : World} {A : Around} {R : Result → Shared → Prop} {s : Shared}
theorem compStart_set {elt target iter ifs rest scope pos it acc env}
    (h0 : codeAny (model prog w) A (.compLoop (.SetComp elt (⟨target, iter, ifs, 0⟩ :: rest) scope pos) 0 it acc env) R s)
    (h : wpAny (model prog w) A (pyIter it) (fun it' s' => codeAny (model prog w) A (.compLoop (.SetComp elt (⟨target, iter, ifs, 0⟩ :: rest) scope pos) 0 it' acc env) R s')
      (notedBy (model prog w) A env fun x s' => R (.error x) s') s) :
    codeAny (model prog w) A (.compStart (.SetComp elt (⟨target, iter, ifs, 0⟩ :: rest) scope pos) 0 it acc env) R s := by
  refine codeAny_of_tree ?_
  show wpAny _ _ ((compStart (.SetComp elt (⟨target, iter, ifs, 0⟩ :: rest) scope pos) 0 it acc env).onRaise (fun x => do noteFrame x env; standAt theWindowsPlace)) _ _ s
  refine wpAny_notedAt ?_
  unfold compStart
  show wpAny _ _ (ask >>= _) _ _ s
  refine wpAny_bind (wpAny_askSetting (wpAny_ite ?_))
  split
  · first
      | exact wpAny_bind (wpAny_pure (wpAny_pure (And.intro rfl h0)))
      | exact wpAny_pure (And.intro rfl h0)
  · first
      | exact wpAny_bind (wpAny_rule (wpAny_bind (wpAny_standAt (wpAny_bind (wpAny_mono h (fun it' s' h' => wpAny_pure (And.intro rfl h')) fun _ _ x => x)))))
      | (refine wpAny_bind (wpAny_rule ?_); show wpAny _ _ (standAt iter.pos >>= _) _ _ s; exact wpAny_bind (wpAny_standAt (wpAny_bind (wpAny_mono h (fun it' s' h' => wpAny_pure (And.intro rfl h')) fun _ _ x => x))))
theorem compTurn_set (elt target iter : Expr) (scope : Scope) (pos : Pos) (it acc : Value) (env : Env) :
    compTurn (.SetComp elt [⟨target, iter, [], 0⟩] scope pos) 0 it acc env = (standAt iter.pos >>= fun _ => pyNext it >>= fun r => match r with
      | none => pure (.done .next)
      | some v => letOwnedTupleGo target it v >>= fun _ => assign target env v >>= fun _ =>
        (eval elt env >>= fun x => standAt elt.pos >>= fun _ => call (.builtin "set.add") [acc, x] >>= fun _ => pure ()) >>= fun _ =>
          again (.compLoop (.SetComp elt [⟨target, iter, [], 0⟩] scope pos) 0 it acc env)) := by rfl
theorem compLoop_set {elt target iter : Expr} {scope : Scope} {pos : Pos} {it acc : Value} {env : Env} (I : Nat → Shared → Prop)
    (turn : ∀ n s, I n s → wpAny (model prog w) A (pyNext it) (fun r s₁ => match r with
      | none => R (.ok .next) s₁
      | some v => wpAny (model prog w) A (assign target env v) (fun _ s₂ => wpAny (model prog w) A (eval elt env) (fun x s₃ =>
          wpAny (model prog w) A (call (.builtin "set.add") [acc, x]) (fun _ s₄ => ∃ m, m < n ∧ I m s₄) (notedBy (model prog w) A env fun e s' => R (.error e) s') s₃)
          (notedBy (model prog w) A env fun e s' => R (.error e) s') s₂) (notedBy (model prog w) A env fun e s' => R (.error e) s') s₁) (notedBy (model prog w) A env fun e s' => R (.error e) s') s)
    (n : Nat) (h : I n s) (ht : ∀ v, letOwnedTupleGo target it v = pure () := by intro _; rfl) :
    codeAny (model prog w) A (.compLoop (.SetComp elt [⟨target, iter, [], 0⟩] scope pos) 0 it acc env) R s := by
  refine codeAny_loop rfl I (fun n s hI => ?_) n h
  show wpAny _ _ ((compTurn (.SetComp elt [⟨target, iter, [], 0⟩] scope pos) 0 it acc env).onRaise (fun x => do noteFrame x env; theTreesLotGoes x)) _ _ s
  refine wpAny_noted ?_
  rw [compTurn_set]
  refine wpAny_bind (wpAny_standAt (wpAny_bind (wpAny_mono (turn n s hI) (fun r s₁ h₁ => ?_) fun _ _ h' => h')))
  cases r with
  | none => exact wpAny_pure h₁
  | some v =>
    refine wpAny_bind (wpAny_of_eq (ht v) ?_)
    exact wpAny_bind (wpAny_mono h₁ (fun _ s₂ h₂ => wpAny_bind (wpAny_bind (wpAny_mono h₂ (fun x s₃ h₃ => wpAny_bind (wpAny_standAt (wpAny_bind (wpAny_mono h₃
      (fun _ s₄ h₄ => wpAny_pure (wpAny_pure ⟨rfl, h₄⟩)) fun _ _ h' => h')))) fun _ _ h' => h'))) fun _ _ h' => h')
end
end
section
open LCg
section
variable {prog : Program} {w : World} {A : Around} {E : Value → Shared → Prop} {s : Shared} {h₀ : Heap} {L : Addr} {m : Str → Option Value} {env : Env}
def accAt (w : World) : Nat → Obj
  | 0 => oSet0 (ledOf w)
  | _ + 1 => oSet1 (ledOf w)
theorem acc_add {D : Addr} {i : Nat} {Q : Value → Shared → Prop} (hD : s.heap.get? D = some (accAt w i))
    (h : ∀ h' tk, Heap.SameBut D s.heap h' → h'.get? D = some (accAt w (i + 1)) → Q .none { s with heap := h', toks := tk }) : wpAny (model prog w) A (call (.builtin "set.add") [.ref D, .bool true]) Q E s := by
  cases i with
  | zero => exact call_add hD rfl (add_first hD fun h' hs hd => h h' _ hs hd)
  | succ i => exact call_add hD rfl (add_again hD (h s.heap _ (Heap.SameBut.refl ..) hD))
def SetSrc (prog : Program) (w : World) (A : Around) (h₀ : Heap) (L : Addr) (m : Str → Option Value) (env : Env) (elt : Expr) (x : Str) (scope : Scope) (cl : List (Str × Addr)) (news : List (Addr × Obj)) (Q : Value → Shared → Prop) (it : Value) (s₂ : Shared) : Prop :=
  ∃ (I : Addr) (fp : List Addr) (n : Nat) (P : Nat → Value → Prop) (St : Nat → Heap → Prop), it = .ref I ∧ Walks prog w A I fp [I] n P St ∧ 0 < n ∧ (∀ i h, St i h → ∃ o, h.get? I = some o) ∧
      (∀ i h h' o, St i h → h.get? I = some o → h'.get? I = some o → News h₀ L h' news → St i h') ∧ St 0 s₂.heap ∧ (∀ b ∈ fp, b < s₂.heap.objs.size) ∧
      Fr h₀ L s₂.heap m ∧ News h₀ L s₂.heap news ∧ L ≠ I ∧ h₀.get? I = none ∧ (∀ p ∈ news, p.1 ≠ I) ∧
      (∀ i v I oI C oC D oD m₂ h tk (E' : Value → Shared → Prop), i < n → P i v → NsObj oC m₂ → m₂ x = some v → Fr h₀ L h m → News h₀ L h ((I, oI) :: (C, oC) :: (D, oD) :: news) → Off3 I C D news → ((@Ne Nat I C) ∧ (@Ne Nat I D) ∧ (@Ne Nat C D)) →
        wpAny (model prog w) A (eval elt (compEnvC scope cl C env)) (fun y s₃ => y = .bool true ∧ ∃ h' tk', s₃ = { s₂ with heap := h', toks := tk' } ∧ Fr h₀ L h' m ∧ News h₀ L h' ((I, oI) :: (C, oC) :: (D, oD) :: news)) E' { s₂ with heap := h, toks := tk }) ∧
      (∀ D h tk, Fr h₀ L h m → News h₀ L h ((D, oSet1 (ledOf w)) :: news) → Q (.ref D) { s₂ with heap := h, toks := tk })
/-- a set comprehension whose every item is True -/
theorem SetComp_true {elt iter : Expr} {x : Str} {px : Pos} {scope : Scope} {cl : List (Str × Addr)} {pos : Pos} {Q : Value → Shared → Prop} {news : List (Addr × Obj)} (_F₀ : Fr h₀ L s.heap m) (_N₀ : News h₀ L s.heap news)
    (hclos : closureFor scope env = pure cl) (hcell : ∀ y ∈ scope.names, y.2 ≠ .cell) (hkind : scope.kind = .function)
    (hnames : ∀ y ∈ scope.names, y.2 = .local → scope.names.lookup y.1 = some .local) (hx : scope.names.lookup x = some .local)
    (h : wpAny (model prog w) A (eval iter env) (fun xv s₁ => wpAny (model prog w) A (pyIter xv) (fun it s₂ => SetSrc prog w A h₀ L m env elt x scope cl news Q it s₂) E s₁) E s)
    (hs : ∀ x, foldedSetIterable iter env x = pure x := by intro _; rfl) :
    wpAny (model prog w) A (eval (.SetComp elt [⟨.Name x px, iter, [], 0⟩] scope pos) env) Q E s := by
  show wpAny _ _ (comprehension (.SetComp elt [⟨.Name x px, iter, [], 0⟩] scope pos) scope env _ (newSet (.type "set")) false (eval iter env) none) Q E s
  refine wpAny_comprehension_free (use := none) rfl hs hclos hkind hnames (wpAny_mono h (fun xv s₁ h₁ => wpAny_mono h₁ (fun it s₂ h₂ => ?_) fun _ _ e => e) fun _ _ e => e)
  obtain ⟨I, fp, n, P, St, rfl, W, hpos, hIo, hSt, hst, hfp, F, N, hIL, hI₀, off, turn, fin⟩ := h₂
  refine new_set (wpAny_newFunctionEnv hcell (by intro y hy; simp at hy) (fun h₁ hns₁ hsb₁ => ?_) hkind)
  dsimp only at hns₁ hsb₁ ⊢
  generalize hH2 : s₂.heap.push (oSet0 (ledOf w)) = H2 at hns₁ hsb₁ ⊢
  have hC : H2.objs.size = s₂.heap.objs.size + 1 := by rw [← hH2, Heap.size_push]
  have hDC : s₂.heap.objs.size ≠ H2.objs.size := by rw [hC]; exact Nat.ne_of_lt (Nat.lt_succ_self _)
  have below : ∀ b, b < s₂.heap.objs.size → b ≠ H2.objs.size ∧ b ≠ s₂.heap.objs.size := fun b hb => ⟨by rw [hC]; exact Nat.ne_of_lt (Nat.lt_succ_of_lt hb), Nat.ne_of_lt hb⟩
  have hDf : s₂.heap.objs.size ∉ fp := fun hm => Nat.lt_irrefl _ (hfp _ hm)
  have hCf : H2.objs.size ∉ fp := fun hm => by have := hfp _ hm; rw [hC] at this; exact Nat.lt_irrefl _ (Nat.lt_of_succ_lt this)
  have hIf : I ∈ fp := W.sub I (List.mem_singleton.mpr rfl)
  have hIlt : I < s₂.heap.objs.size := hfp I hIf
  have old : ∀ b o, s₂.heap.get? b = some o → h₁.get? b = some o := fun b o e => hsb₁.extBut b o (below b (Heap.lt_size e)).1 (Heap.get?_push_of_some _ (hH2 ▸ Heap.get?_push_of_some _ e))
  have hacc : h₁.get? s₂.heap.objs.size = some (accAt w 0) := hsb₁.extBut _ _ hDC (Heap.get?_push_of_some _ (hH2 ▸ Heap.get?_push_size _ rfl))
  have hst₁ : St 0 h₁ := W.frame _ _ _ hst fun b _ o e => old b o e
  have fresh : ∀ a, s₂.heap.objs.size ≤ a → s₂.heap.get? a = none := fun a ha => by
    cases e : s₂.heap.get? a with
    | none => rfl
    | some o' => exact absurd (Heap.lt_size e) (Nat.not_lt.mpr ha)
  have fresh₀ : ∀ a, s₂.heap.objs.size ≤ a → h₀.get? a = none := fun a ha => by
    cases e : h₀.get? a with
    | none => rfl
    | some o' => have := F.keep a o' e; rw [fresh a ha] at this; cases this
  have hD₀ : h₀.get? s₂.heap.objs.size = none := fresh₀ _ (Nat.le_refl _)
  have hC₀ : h₀.get? H2.objs.size = none := fresh₀ _ (by rw [hC]; exact Nat.le_succ _)
  have hLlt : L < s₂.heap.objs.size := F.ns.lt
  have hDL : s₂.heap.objs.size ≠ L := Ne.symm (below L hLlt).2
  have hCL : H2.objs.size ≠ L := Ne.symm (below L hLlt).1
  have hCI : I ≠ H2.objs.size := (below I hIlt).1
  have hDI : I ≠ s₂.heap.objs.size := (below I hIlt).2
  have off3 : ∀ p ∈ news, p.1 ≠ I ∧ p.1 ≠ H2.objs.size ∧ p.1 ≠ s₂.heap.objs.size := fun p hp => ⟨off p hp, (below _ (Heap.lt_size (N p hp).1)).1, (below _ (Heap.lt_size (N p hp).1)).2⟩
  have off₀ : Off3 I H2.objs.size s₂.heap.objs.size news := Off3.of off3
  have loop : ∀ s₃ : Shared, s₃ = { s₂ with heap := h₁, toks := s₂.toks + ([] : List (Str × Value)).length } →
      codeAny (model prog w) A (.compLoop (.SetComp elt [⟨.Name x px, iter, [], 0⟩] scope pos) 0 (.ref I) (.ref s₂.heap.objs.size) (compEnvC scope cl H2.objs.size env))
        (compPost (model prog w) A E none Q (.ref s₂.heap.objs.size) H2.objs.size) s₃ := by
    rintro s₃ rfl
    refine compLoop_set
      (fun k s' => ∃ h' tk i m', s' = { s₂ with heap := h', toks := tk } ∧ i ≤ n ∧ k = n + 1 - i ∧ St i h' ∧ Fr h₀ L h' m ∧ h'.Ns H2.objs.size m' ∧ News h₀ L h' ((s₂.heap.objs.size, accAt w i) :: news)) ?_ (n + 1)
      ⟨h₁, _, 0, _, rfl, Nat.zero_le _, rfl, hst₁, F.keeps old, hns₁, fun p hp => ?_⟩
    · rintro k s' ⟨h', tk, i, m', rfl, hi, rfl, hst', F', hn', N'⟩
      by_cases hlt : i < n
      · refine W.item i _ _ _ hlt hst' fun v h₂ tk₂ hPv hst₂ hk₂ => ?_
        refine wpAny_assign_Name (wpAny_storeName_local (lookup_relabel_local hx) (hn'.at' fun o e => hk₂ _ o (by simpa using Ne.symm hCI) e) (fun h₃ hn₃ hs₃ => ?_) (by simp [compEnvC, relabel, hkind]))
        have hst₃ : St (i + 1) h₃ := W.frame _ _ _ hst₂ fun b hb o e => hs₃.extBut b o (fun q => hCf (by have q' : b = H2.objs.size := q; rw [← q']; exact hb)) e
        obtain ⟨oI, heI⟩ := hIo _ _ hst₃
        obtain ⟨oC, heC, hoC⟩ := ns_obj hn₃
        have F₃ : Fr h₀ L h₃ m := (fr_but F' hk₂ hIL hI₀).change hs₃ hCL hC₀
        have N₂ : News h₀ L h₂ ((s₂.heap.objs.size, accAt w i) :: news) := news_but N' hk₂ fun p hp => by
          rcases List.mem_cons.mp hp with rfl | hp
          · exact Ne.symm hDI
          · exact (off3 p hp).1
        have N₃ : News h₀ L h₃ ((I, oI) :: (H2.objs.size, oC) :: (s₂.heap.objs.size, accAt w i) :: news) := fun p hp => by
          rcases List.mem_cons.mp hp with rfl | hp
          · exact ⟨heI, Ne.symm hIL, hI₀⟩
          · rcases List.mem_cons.mp hp with rfl | hp
            · exact ⟨heC, hCL, hC₀⟩
            · have z := N₂ p hp
              refine ⟨hs₃.extBut _ _ ?_ z.1, z.2⟩
              rcases List.mem_cons.mp hp with rfl | hp
              · exact hDC
              · exact (off3 p hp).2.1
        refine wpAny_mono (turn i v I oI H2.objs.size oC s₂.heap.objs.size _ _ h₃ _ _ hlt hPv hoC (by simp) F₃ N₃ off₀ ⟨hCI, hDI, Ne.symm hDC⟩) (fun y s₄ h₄ => ?_) fun _ _ e => e
        obtain ⟨rfl, h₄, tk₄, rfl, F₄, N₄⟩ := h₄
        have zI := (N₄ (I, oI) List.mem_cons_self).1
        have zC := (N₄ (H2.objs.size, oC) (List.mem_cons_of_mem _ List.mem_cons_self)).1
        have zD := (N₄ (s₂.heap.objs.size, accAt w i) (List.mem_cons_of_mem _ (List.mem_cons_of_mem _ List.mem_cons_self))).1
        have N₄' : News h₀ L h₄ news := fun p hp => N₄ p (List.mem_cons_of_mem _ (List.mem_cons_of_mem _ (List.mem_cons_of_mem _ hp)))
        have hst₄ : St (i + 1) h₄ := hSt _ _ _ _ hst₃ heI zI N₄'
        refine acc_add zD fun h₅ tk₅ hs₅ hD₅ => ?_
        refine ⟨n + 1 - (i + 1), by omega, h₅, tk₅, i + 1, _, rfl, hlt, rfl, W.frame _ _ _ hst₄ fun b hb o e => hs₅.extBut b o (fun q => hDf (q ▸ hb)) e, F₄.change hs₅ hDL hD₀,
          (hoC.ns zC).sameBut hs₅ (Ne.symm hDC), fun p hp => ?_⟩
        rcases List.mem_cons.mp hp with rfl | hp
        · exact ⟨hD₅, hDL, hD₀⟩
        · exact ⟨hs₅.extBut _ _ (off3 p hp).2.2 (N₄' p hp).1, (N₄' p hp).2⟩
      · obtain rfl : i = n := Nat.le_antisymm hi (Nat.not_lt.mp hlt)
        refine W.done _ _ _ hst' fun h₂ tk₂ hk₂ => ?_
        obtain ⟨j, rfl⟩ : ∃ j, i = j + 1 := ⟨i - 1, by omega⟩
        refine ⟨m', hn'.at' fun o e => hk₂ _ o (by simpa using Ne.symm hCI) e, fun h'' hs'' => fin _ h'' tk₂ ((fr_but F' hk₂ hIL hI₀).change hs'' hCL hC₀) fun p hp => ?_⟩
        have N₂ : News h₀ L h₂ ((s₂.heap.objs.size, accAt w (j + 1)) :: news) := news_but N' hk₂ fun p hp => by
          rcases List.mem_cons.mp hp with rfl | hp
          · exact Ne.symm hDI
          · exact (off3 p hp).1
        refine ⟨hs''.extBut _ _ ?_ (N₂ p hp).1, (N₂ p hp).2⟩
        rcases List.mem_cons.mp hp with rfl | hp
        · exact hDC
        · exact (off3 p hp).2.1
    · rcases List.mem_cons.mp hp with rfl | hp
      · exact ⟨hacc, hDL, hD₀⟩
      · exact ⟨old _ _ (N p hp).1, (N p hp).2⟩
  exact compStart_set (loop _ rfl) (W.self 0 _ _ _ hst₁ (loop _ rfl))
/-- its source a tuple of the ledger -/
theorem set_tup {elt : Expr} {x : Str} {scope : Scope} {cl : List (Str × Addr)} {ax : Addr} {vs : List Value} {k : Nat} {news : List (Addr × Obj)} {E : Value → Shared → Prop} {Q : Value → Shared → Prop}
    (hh : A.handled = none) (F : Fr h₀ L s.heap m) (N : News h₀ L s.heap news) (hm : (ax, ({ cls := .type "tuple", data := .seq vs.toArray k } : Obj)) ∈ news) (hpos : 0 < vs.length)
    (turn : ∀ (g : Heap) (tk₀ i : Nat) v I oI C oC D oD m₂ h tk (E' : Value → Shared → Prop), vs[i]? = some v → NsObj oC m₂ → m₂ x = some v → Fr h₀ L h m → News h₀ L h ((I, oI) :: (C, oC) :: (D, oD) :: news) → Off3 I C D news → ((@Ne Nat I C) ∧ (@Ne Nat I D) ∧ (@Ne Nat C D)) →
        wpAny (model prog w) A (eval elt (compEnvC scope cl C env)) (fun y s₃ => y = .bool true ∧ ∃ h' tk', s₃ = { s with heap := h', toks := tk' } ∧ Fr h₀ L h' m ∧ News h₀ L h' ((I, oI) :: (C, oC) :: (D, oD) :: news)) E' { ({ s with heap := g, toks := tk₀ } : Shared) with heap := h, toks := tk })
    (fin : ∀ (g : Heap) (tk₀ : Nat) D h tk, Fr h₀ L h m → News h₀ L h ((D, oSet1 (ledOf w)) :: news) → Q (.ref D) { ({ s with heap := g, toks := tk₀ } : Shared) with heap := h, toks := tk }) :
    wpAny (model prog w) A (pyIter (.ref ax)) (fun it s₂ => SetSrc prog w A h₀ L m env elt x scope cl news Q it s₂) E s := by
  have ht : s.heap.IsTuple ax vs.toArray := ⟨_, (N _ hm).1, rfl, _, rfl⟩
  have hlt : ax < s.heap.objs.size := Heap.lt_size (N _ hm).1
  refine wpAny_pyIter_tuple ht ?_
  have up : ∀ b o, s.heap.get? b = some o → (s.heap.push { cls := .type "tuple_iterator", data := .fields #[.ref ax, .int 0 0] }).get? b = some o := fun b o e => Heap.get?_push_of_some _ e
  have W := Walks.tuple (prog := prog) (w := w) hh s.heap.objs.size ax (Nat.ne_of_lt hlt) vs.toArray
  rw [show vs.toArray.size = vs.length by simp] at W
  refine ⟨_, _, vs.length, _, _, rfl, W, hpos, (fun i h st => by obtain ⟨o, e, _⟩ := st.1; exact ⟨o, e⟩), ?_, ⟨⟨_, Heap.get?_push_size _ rfl, rfl, rfl⟩, ?_⟩, (fun b hb => ?_),
      F.keeps up, N.grown up, Nat.ne_of_lt F.ns.lt, next_is_new F, fun p hp => Nat.ne_of_lt (Heap.lt_size (N p hp).1), ?_, ?_⟩
  · intro i h h' o st e e' N
    refine ⟨by obtain ⟨o', q, r⟩ := st.1; rw [e] at q; cases q; exact ⟨o, e', r⟩, ?_⟩
    exact ⟨_, (N _ hm).1, rfl, _, rfl⟩
  · obtain ⟨o, ho, r⟩ := ht
    exact ⟨o, up _ _ ho, r⟩
  · show b < (s.heap.push _).objs.size
    rw [Heap.size_push]
    rcases List.mem_cons.mp hb with rfl | hb
    · exact Nat.lt_succ_self _
    · rw [List.mem_singleton.mp hb]; exact Nat.lt_succ_of_lt hlt
  · intro i v I oI C oC D oD m₂ h tk E' _ hv
    exact turn _ _ i v I oI C oC D oD m₂ h tk E' (by simpa using hv)
  · exact fin _ _
end
end
section
open LCg LCt
theorem restT_inv {prog : Program} {w : World} {A : Around} {h₀ : Heap} {L : Addr} {m : Str → Option Value} {env : Env} {ct elt : Expr} {x : Str} {scope : Scope} {cl : List (Str × Addr)} {s : Shared} {S : List (Addr × Obj) → Prop} {P : Nat → Value → Prop} {Fin : List Value → List (Addr × Obj) → Prop} {n : Nat} {news : List (Addr × Obj)}
    (J : Nat → List Value → List (Addr × Obj) → Prop) (hj : J 0 [] news)
    (turn : ∀ i v I oI C oC D m₂ ys nx h tk (E' : Value → Shared → Prop), i < n → P i v → J i ys nx → NsObj oC m₂ → m₂ x = some v → Fr h₀ L h m → News h₀ L h ((I, oI) :: (C, oC) :: (D, lst ys) :: nx) → Off3 I C D nx → ((@Ne Nat I C) ∧ (@Ne Nat I D) ∧ (@Ne Nat C D)) →
      wpAny (model prog w) A (isTrue ct (compEnvC scope cl C env) (eval ct (compEnvC scope cl C env))) (fun ok s' => if ok = true then
        wpAny (model prog w) A (eval elt (compEnvC scope cl C env)) (CompEnd h₀ L m { s with heap := h, toks := tk } I oI C oC D (lst ys) S (fun y nx' => J (i + 1) (ys ++ [y]) nx')) E' s'
        else CompEnd h₀ L m { s with heap := h, toks := tk } I oI C oC D (lst ys) S (fun _ nx' => J (i + 1) ys nx') Value.none s') E' { s with heap := h, toks := tk })
    (fin : ∀ ys nx, J n ys nx → Fin ys nx) : CompRestT prog w A h₀ L m env ct elt x scope cl s S P Fin n 0 [] news := by
  have key : ∀ (j i : Nat) (ys : List Value) (nx : List (Addr × Obj)), i + j = n → J i ys nx → CompRestT prog w A h₀ L m env ct elt x scope cl s S P Fin j i ys nx := by
    intro j
    induction j with
    | zero =>
      intro i ys nx hi hy
      exact CompRestT.zero (fin ys nx ((show i = n by omega) ▸ hy))
    | succ j ih =>
      intro i ys nx hi hy
      refine CompRestT.succ ?_
      intro v I oI C oC D m₂ h tk E' hv hC hx F N off ne
      refine wpAny_mono (turn i v I oI C oC D m₂ ys nx h tk E' (by omega) hv hy hC hx F N off ne) (fun ok s₂ hq => ?_) fun _ _ e => e
      cases ok with
      | true =>
        rw [if_pos rfl] at hq ⊢
        refine wpAny_mono hq (fun y s₃ hq => ?_) fun _ _ e => e
        obtain ⟨h', tk', nw, e, F', N', off', hS, hJ⟩ := hq
        exact ⟨h', tk', nw, e, F', N', off', hS, ih (i + 1) _ _ (by omega) hJ⟩
      | false =>
        rw [if_neg Bool.false_ne_true] at hq ⊢
        obtain ⟨h', tk', nw, e, F', N', off', hS, hJ⟩ := hq
        exact ⟨h', tk', nw, e, F', N', off', hS, ih (i + 1) _ _ (by omega) hJ⟩
  exact key n 0 [] news (by omega) hj
end
section
def PairSrc2 {α : Type} (prog : Program) (w : World) (A : Around) (E : Value → Shared → Prop) (h₀ : Heap) (L : Addr) (K : ItemKind α) (as : List α) (xv : Value) (s : Shared) (m : Str → Option Value) (news : List (Addr × Obj)) : Prop :=
  ∀ env : Env, env.locals = L → ∀ (xi xc : Str) (body : List Stmt) (Q : Flow → Shared → Prop) (J : Nat → (Str → Option Value) → List (Addr × Obj) → Prop), J 0 m news →
    (∀ (i : Nat) a t v m₁ news₁ s₁ own, (∃ h tk, s₁ = { s with heap := h, toks := tk }) → as[i]? = some a → K.is a v → J i m₁ news₁ → news₁.map (·.1) = news.map (·.1) →
      Fr h₀ env.locals s₁.heap (fun y => if y = xc then some v else if y = xi then some (.int i t) else m₁ y) → News h₀ env.locals s₁.heap (own ++ news₁) →
      wpAny (model prog w) A (execs body env) (LoopStep3 h₀ env.locals own news₁ (J (i + 1)) s₁ (fun v s' => Q (.ret v) s') fun s' => Q .next s') E s₁) →
    (∀ h' tk m' news', Fr h₀ env.locals h' m' → News h₀ env.locals h' news' → news'.map (·.1) = news.map (·.1) → J as.length m' news' → Q .next { s with heap := h', toks := tk }) →
    wpAny (model prog w) A (pyIter xv) (fun it s₂ => PairAt3 prog w A h₀ env xi xc body Q E it s₂) E s
section
variable {prog : Program} {w : World} {A : Around} {E : Value → Shared → Prop} {s : Shared} {h₀ : Heap} {L : Addr} {m : Str → Option Value} {news : List (Addr × Obj)}
/-- enumerate over a list of the ledger, that stays in the ledger -/
theorem call_enum_led {α : Type} {K : ItemKind α} {as : List α} {l : Addr} {vs : List Value} {c : Nat} {Q : Value → Shared → Prop} (hh : A.handled = none) (hm : (l, listOf vs.toArray c) ∈ news) (hi : AreOf K vs as)
    (F : Fr h₀ L s.heap m) (N : News h₀ L s.heap news)
    (h : ∀ h' e, Fr h₀ L h' m → News h₀ L h' news → PairSrc2 prog w A E h₀ L K as (.ref e) { s with heap := h' } m news → Q (.ref e) { s with heap := h' }) :
    wpAny (model prog w) A (call (.type "enumerate") [.ref l]) Q E s := by
  have hls : s.heap.IsList l vs.toArray := N.isList hm
  have hl2 : l < s.heap.objs.size := Heap.lt_size (N _ hm).1
  have hLs : L < s.heap.objs.size := F.ns.lt
  have hab : h₀.objs.size ≤ L := F.above
  refine call_enumerate_list hls fun h' he hit hsz hk => ?_
  have F' : Fr h₀ L h' m := ⟨F.ns.keeps hk, fun b o e => hk b o (F.keep b o e), F.above⟩
  have N' : News h₀ L h' news := fun p hp => ⟨hk _ _ (N p hp).1, (N p hp).2⟩
  refine h h' _ F' N' fun env hL => ?_
  subst hL
  intro xi xc body Q J h0 step done
  refine wpAny_pyIter_enum he ?_
  have D := Draws.list (prog := prog) (w := w) (A := A.in1) hh s.heap.objs.size l (Nat.ne_of_lt hl2) vs.toArray
  have hef : s.heap.objs.size + 1 ∉ [s.heap.objs.size, l] := by
    intro hm
    rcases List.mem_cons.mp hm with e | hm
    · exact Nat.succ_ne_self _ e
    · exact Nat.ne_of_gt (Nat.lt_succ_of_lt hl2) (List.mem_singleton.mp hm)
  refine ⟨_, _, [s.heap.objs.size + 1, s.heap.objs.size], _, _, _, _, (fun i v0 v1 => ∃ t, v0 = .int i t ∧ vs.toArray[i]? = some v1), m, news, J, rfl, WalksT.enumerateD D _ (Nat.succ_ne_self _) hef (by simp), ?_, ?_, ?_, ?_, ⟨⟨_, by simpa using he⟩, ⟨hit, hls.at fun o e => hk l o e⟩⟩, F', N', h0, ?_, ?_⟩
  · rintro i vals ⟨t, x, hPx, rfl⟩
    exact ⟨_, _, rfl, t, rfl, hPx⟩
  · intro hm'
    rcases List.mem_cons.mp hm' with e | hm'
    · exact Nat.ne_of_lt (Nat.lt_succ_of_lt hLs) e
    · rcases List.mem_cons.mp hm' with e | hm'
      · exact Nat.ne_of_lt hLs e
      · exact (N _ hm).2.1 (List.mem_singleton.mp hm').symm
  · intro b hb
    rcases List.mem_cons.mp hb with rfl | hb
    · exact Heap.get?_none_of_le (Nat.le_trans hab (Nat.le_of_lt (Nat.lt_succ_of_lt hLs)))
    · rw [List.mem_singleton.mp hb]; exact Heap.get?_none_of_le (Nat.le_trans hab (Nat.le_of_lt hLs))
  · intro p hp hb
    have hq1 : p.1 < s.heap.objs.size := Heap.lt_size (N p hp).1
    rcases List.mem_cons.mp hb with e1 | hb
    · exact Nat.ne_of_lt (Nat.lt_succ_of_lt hq1) e1
    · exact Nat.ne_of_lt hq1 (List.mem_singleton.mp hb)
  · rintro i v0 v1 m₁ news₁ s₁ own hs₁ _ ⟨t, rfl, hPx⟩ hJ ha hsub F₁ N₁
    obtain ⟨a, hga, hk⟩ := hi.get i v1 (by simpa using hPx)
    exact step i a t v1 m₁ news₁ s₁ own hs₁ hga hk hJ ha F₁ N₁
  · have e : vs.toArray.size = as.length := by simp [hi.length]
    exact e ▸ done
end
end
section
theorem lexLt_trans : ∀ {a b c : List Str}, lexLt a b = true → lexLt b c = true → lexLt a c = true
  | [], [], _, h, _ => by simp [lexLt] at h
  | [], _ :: _, [], _, h => by simp [lexLt] at h
  | [], _ :: _, _ :: _, _, _ => rfl
  | _ :: _, [], _, h, _ => by simp [lexLt] at h
  | _ :: _, _ :: _, [], _, h => by simp [lexLt] at h
  | x :: xs, y :: ys, z :: zs, h, g => by
    rw [lexLt] at h g ⊢
    by_cases e : x = y
    · subst e
      rw [if_pos (beq_self_eq_true x)] at h
      by_cases e2 : x = z
      · subst e2
        rw [if_pos (beq_self_eq_true x)] at g ⊢
        exact lexLt_trans h g
      · rw [if_neg (by simpa using e2)] at g ⊢
        exact g
    · rw [if_neg (by simpa using e)] at h
      by_cases e2 : y = z
      · subst e2
        rw [if_neg (by simpa using e)]
        exact h
      · rw [if_neg (by simpa using e2)] at g
        unfold ltS at h g
        rw [decide_eq_true_eq] at h g
        have h3 : x.cps.toList < z.cps.toList := List.lt_trans h g
        by_cases e3 : x = z
        · subst e3; exact absurd h3 (List.lt_irrefl _)
        · rw [if_neg (by simpa using e3)]
          unfold ltS
          exact decide_eq_true h3
theorem bestL_le (ks : List (List (Str × Tok))) : ∀ n j, j ≤ n → btL ks j (argBest (btL ks) n) = false
  | 0, j, h => by
    obtain rfl := Nat.le_zero.mp h
    exact lexLt_irrefl _
  | n + 1, j, h => by
    have ih := bestL_le ks n
    rw [argBest]
    cases c : btL ks (n + 1) (argBest (btL ks) n) with
    | true =>
      rw [if_pos rfl]
      rcases Nat.lt_or_eq_of_le h with h | rfl
      · cases q : btL ks j (n + 1) with
        | false => rfl
        | true => exact absurd (lexLt_trans q c) (by rw [show lexLt _ _ = false from ih j (Nat.le_of_lt_succ h)]; exact Bool.false_ne_true)
      · exact lexLt_irrefl _
    | false =>
      rw [if_neg Bool.false_ne_true]
      rcases Nat.lt_or_eq_of_le h with h | rfl
      · exact ih j (Nat.le_of_lt_succ h)
      · exact c
theorem bestG_le (ks : List (List (Str × Tok))) : ∀ n j, j ≤ n → btG ks j (argBest (btG ks) n) = false
  | 0, j, h => by
    obtain rfl := Nat.le_zero.mp h
    exact lexLt_irrefl _
  | n + 1, j, h => by
    have ih := bestG_le ks n
    rw [argBest]
    cases c : btG ks (n + 1) (argBest (btG ks) n) with
    | true =>
      rw [if_pos rfl]
      rcases Nat.lt_or_eq_of_le h with h | rfl
      · cases q : btG ks j (n + 1) with
        | false => rfl
        | true => exact absurd (lexLt_trans c q) (by rw [show lexLt _ _ = false from ih j (Nat.le_of_lt_succ h)]; exact Bool.false_ne_true)
      · exact lexLt_irrefl _
    | false =>
      rw [if_neg Bool.false_ne_true]
      rcases Nat.lt_or_eq_of_le h with h | rfl
      · exact ih j (Nat.le_of_lt_succ h)
      · exact c
theorem best_min {ks : List (List (Str × Tok))} {k1 k : List (Str × Tok)} (h1 : ks[argBest (btL ks) (ks.length - 1)]? = some k1) (hk : k ∈ ks) : lexLt (k.map (·.1)) (k1.map (·.1)) = false := by
  obtain ⟨j, hj, rfl⟩ := List.mem_iff_getElem.mp hk
  have h : lexLt ((ks.getD j []).map (·.1)) ((ks.getD (argBest (btL ks) (ks.length - 1)) []).map (·.1)) = false := bestL_le ks (ks.length - 1) j (by omega)
  rw [show ks.getD (argBest (btL ks) (ks.length - 1)) [] = k1 by rw [List.getD_eq_getElem?_getD, h1]; rfl, show ks.getD j [] = ks[j] by rw [List.getD_eq_getElem?_getD, List.getElem?_eq_getElem hj]; rfl] at h
  exact h
theorem best_max {ks : List (List (Str × Tok))} {k2 k : List (Str × Tok)} (h2 : ks[argBest (btG ks) (ks.length - 1)]? = some k2) (hk : k ∈ ks) : lexLt (k2.map (·.1)) (k.map (·.1)) = false := by
  obtain ⟨j, hj, rfl⟩ := List.mem_iff_getElem.mp hk
  have h : lexLt ((ks.getD (argBest (btG ks) (ks.length - 1)) []).map (·.1)) ((ks.getD j []).map (·.1)) = false := bestG_le ks (ks.length - 1) j (by omega)
  rw [show ks.getD (argBest (btG ks) (ks.length - 1)) [] = k2 by rw [List.getD_eq_getElem?_getD, h2]; rfl, show ks.getD j [] = ks[j] by rw [List.getD_eq_getElem?_getD, List.getElem?_eq_getElem hj]; rfl] at h
  exact h
theorem best_lt {ks : List (List (Str × Tok))} {k1 k2 : List (Str × Tok)} (h1 : ks[argBest (btL ks) (ks.length - 1)]? = some k1) (h2 : ks[argBest (btG ks) (ks.length - 1)]? = some k2) : lexLt (k2.map (·.1)) (k1.map (·.1)) = false :=
  best_min h1 (List.mem_of_getElem? h2)
end
section
local macro_rules | `(tactic| walk_at "subscriptTail Name Name ref int") => `(tactic| (k_here; k_dflt (refine' item_str_at ?hl ?hy ?hi ?_; (case hl => walk_at "mine_list"); (case hy => assumption); (case hi => walk_at "mine_fit"); k_whole)))
local macro_rules | `(tactic| walk_at "call builtin:isinstance") => `(tactic| (k_here; k_dflt (refine' isi_list ?hl ?ht ?_; (case hl => walk_at "mine_list"); (case ht => exact News.get (by k_asm) (by k_mem)); k_whole); intro tk'))
local macro_rules | `(tactic| walk_at "mine_ls") => `(tactic| first | assumption )
local macro_rules | `(tactic| walk_at "mine_line") => `(tactic| (have hr9 := Rm.line (by assumption); (try dsimp only); have hr8 := Rm.hu (by assumption); show _ < 9900; omega))
local macro_rules | `(tactic| walk_at "call builtin:min") => `(tactic| (k_here; k_dflt (refine' min_lists ?hl ?H ?sB ?hn ?hh ?hu ?_; (case hl => walk_at "mine_list"); (case H => walk_at "mine_ls"); (case sB => first | exact stays_refl | exact Fr.keep (by k_asm)); (case hn => first | assumption | exact Nat.zero_lt_succ _); (case hh => exact rfl); (case hu => walk_at "mine_line"); k_whole); intro a' k' h' tk' hk' hv' ha' st'; (have F' := fr_stays (by assumption) st'); (have N' := news_stays (by assumption) st'); (try clear st'); (try k_sweep)))
local macro_rules | `(tactic| walk_at "call builtin:max") => `(tactic| (k_here; k_dflt (refine' max_lists ?hl ?H ?sB ?hn ?hh ?hu ?_; (case hl => walk_at "mine_list"); (case H => walk_at "mine_ls"); (case sB => first | exact stays_refl | exact Fr.keep (by k_asm)); (case hn => first | assumption | exact Nat.zero_lt_succ _); (case hh => exact rfl); (case hu => walk_at "mine_line"); k_whole); intro a' k' h' tk' hk' hv' ha' st'; (have F' := fr_stays (by assumption) st'); (have N' := news_stays (by assumption) st'); (try clear st'); (try k_sweep)))
section
local macro_rules | `(tactic| walk_at "call ref") => `(tactic| (k_here; k_dflt (refine' wpAny_call (c_commonprefix ?X ?T ?r ?hm ?ha ?hb ?za ?zb ?_); walk_at "mine_xtr"; (case hm => walk_at "mine_list"); (case ha => walk_at "mine_list"); (case hb => walk_at "mine_list"); (case za => walk_at "mine_len"); (case zb => walk_at "mine_len"); k_whole); intro h' q' kq' tk' st' hq' hlen'; walk_at "mine_post"))
section
local macro_rules | `(tactic| walk_at "mine_fit") => `(tactic| ((try simp only [List.size_toArray, sv_len, List.length_map, List.length_append, List.length_cons, List.length_nil, Array.size_push, List.length_replicate, List.length_drop, List.length_take]); omega))
local macro_rules | `(tactic| walk_at "mine_pick") => `(tactic| first | exact pick_to_sv _ _ | exact pick_from_sv _ _)
local macro_rules | `(tactic| walk_at "call builtin:len") => `(tactic| (k_here; (with_reducible show wpAny _ _ (call (Value.builtin "len") [Value.ref _]) _ _ _); k_dflt (refine' len_vals ?hl ?hz ?_; (case hl => walk_at "mine_list"); (case hz => walk_at "mine_fit"); k_whole); (try simp only [sv_len, List.length_cons, List.length_nil])))
local macro_rules | `(tactic| walk_at "binaryOp Mult ref int") => `(tactic| (k_here; k_dflt (refine' mul_one ?F ?N ?hl ?h0 ?hx ?_; (case F => k_asm); (case N => k_asm); (case hl => walk_at "mine_list"); (case h0 => omega); (case hx => omega); k_whole); intro D' h' F' N' l'; (try k_lt l'); (try k_sweep)))
local macro_rules | `(tactic| walk_at "binaryOp Add ref ref") => `(tactic| (k_here; k_dflt (refine' add_strs ?F ?N ?ha ?hb ?hz ?_; (case F => k_asm); (case N => k_asm); (case ha => walk_at "mine_list"); (case hb => walk_at "mine_list"); (case hz => walk_at "mine_fit"); k_whole); intro D' h' F' N' l'; (try k_lt l'); (try k_sweep)))
local macro_rules | `(tactic| walk_at "call builtin:str.join") => `(tactic| (k_here; (with_reducible show wpAny _ _ (call (Value.builtin "str.join") [Value.str _ _, Value.ref _]) _ _ _); k_dflt (refine' join_strs ?hl ?hok ?hk ?_; (case hl => walk_at "mine_list"); (case hok => assumption); (case hk => walk_at "mine_names"); k_whole); intro t' k'))
section
local macro_rules | `(tactic| walk_at "mine_inC") => `(tactic| (
  w_top off
  (case k6 => k_is); (case k7 => k_is); (case k8 => exact Rm.room (by assumption)); (case k9 => first | exact BindsTo.of_eq rfl | exact binds_K (by k_in) rfl (by k_is) rfl rfl rfl); (case kB => exact rfl); (case kD => decide +kernel)
  (case c2 => exact rfl); (case c3 => exact rfl); (case c4 => exact rfl)
  k_whole; intro L' h' tk' cells' F' N' Y'; k_cells Y'; (try simp only [List.cons_append, List.nil_append] at N'); (try dsimp only); (try k_fold)))
local macro_rules | `(tactic| walk_at "exec Try") => `(tactic| ((with_reducible show wpAny _ _ (exec (Stmt.Try _ (_ :: _) _ [] _) (envOfC _ _ _ _ _)) _ _ _); refine wpAny_Try_except ?_))
section
local macro_rules | `(tactic| walk_at "truthy ref") => `(tactic| (k_here; (with_reducible show wpAny _ _ (truthy (Value.ref _)) _ _ _); k_dflt (refine' tup_truthy (vs := (_ :: _)) ?hl ?hf ?_; (case hl => exact News.isTup (by k_asm) (by k_mem)); (case hf => walk_at "mine_fit"); k_whole); (try simp only [List.isEmpty_cons, Bool.not_false, Bool.not_true])))
local macro_rules | `(tactic| walk_at "subscriptTail Name Constant ref int") => `(tactic| (k_here; (with_reducible show wpAny _ _ (subscriptTail _ _ (Value.ref _) (Value.int _ _)) _ _ _); k_dflt (refine' tup_item ?hl ?h0 ?h2 ?hf ?_; (case hl => exact News.isTup (by k_asm) (by k_mem)); (case h0 => decide); (case h2 => decide); (case hf => exact rfl); k_whole)))
section
local macro_rules | `(tactic| walk_at "exec Assign cons ListComp") => `(tactic| (k_here; k_dflt (refine Assign_ListComp_V (by k_asm) (by rfl) (by with_unfolding_all rfl) (by with_unfolding_all rfl) (by decide) (by rfl) (by decide) (by rfl) (by rfl) (by rfl) ?_)))
local macro_rules | `(tactic| walk_at "eval ListComp") => `(tactic| (k_here; k_dflt (refine ListComp_V (by k_asm) (by with_unfolding_all rfl) (by decide) (by rfl) (by decide) (by rfl) ?_)))
section
local macro_rules | `(tactic| walk_at "mine_names") => `(tactic| exact rfl)
def keepB (c : Str × Tok) : Bool := decide ((c.1.length : Int) ≠ 0) && (c.1 != Str.ofString ".")
def flt (x : Str) : List Str := (Txt.split x (Str.ofString "/")).filter fun c => decide ((c.length : Int) ≠ 0) && (c != Str.ofString ".")
theorem keep_map (kk : List (Str × Tok)) : (kk.filter keepB).map (·.1) = (kk.map (·.1)).filter fun c => decide ((c.length : Int) ≠ 0) && (c != Str.ofString ".") := by
  rw [List.filter_map]; rfl
def Nest5 (e1 e2 e3 e4 e5 : Addr × Obj) (own : List (Addr × Obj)) (ks : List (List (Str × Tok))) (i : Nat) (zs : List Value) (nx : List (Addr × Obj)) : Prop :=
  ∃ own' ks', nx = e1 :: e2 :: e3 :: e4 :: e5 :: own' ∧ (∀ p ∈ own, p ∈ own') ∧ LsIn own' zs ks' ∧ ks' = (ks.take i).map (·.filter keepB)
theorem Nest5.start {e1 e2 e3 e4 e5 : Addr × Obj} {own : List (Addr × Obj)} {ks : List (List (Str × Tok))} : Nest5 e1 e2 e3 e4 e5 own ks 0 [] (e1 :: e2 :: e3 :: e4 :: e5 :: own) := ⟨own, [], rfl, fun _ h => h, .nil, rfl⟩
def TxJ (kk : List (Str × Tok)) (news : List (Addr × Obj)) (i : Nat) (zs : List Value) (nx : List (Addr × Obj)) : Prop := nx = news ∧ zs = strValues ((kk.take i).filter keepB)
theorem TxJ.start {kk : List (Str × Tok)} {news : List (Addr × Obj)} : TxJ kk news 0 [] news := ⟨rfl, rfl⟩
theorem TxJ.keep {kk : List (Str × Tok)} {news : List (Addr × Obj)} {i : Nat} {y : Str} {ty : Tok} (hc : kk[i]? = some (y, ty)) (hk : keepB (y, ty) = true) : TxJ kk news (i + 1) (strValues ((kk.take i).filter keepB) ++ [.str y ty]) news :=
  ⟨rfl, by rw [List.take_add_one, hc, List.filter_append]; simp [hk, strValues]⟩
theorem TxJ.drop {kk : List (Str × Tok)} {news : List (Addr × Obj)} {i : Nat} {y : Str} {ty : Tok} (hc : kk[i]? = some (y, ty)) (hk : keepB (y, ty) = false) : TxJ kk news (i + 1) (strValues ((kk.take i).filter keepB)) news :=
  ⟨rfl, by rw [List.take_add_one, hc, List.filter_append]; simp [hk, strValues]⟩
theorem rot6 {α : Type} {p a b c d e f x : α} {r : List α} (h : p ∈ a :: b :: c :: d :: e :: f :: x :: r) : p ∈ x :: a :: b :: c :: d :: e :: f :: r := by
  simp only [List.mem_cons] at h ⊢
  rcases h with h | h | h | h | h | h | h | h <;> simp [h]
theorem rot8 {α : Type} {p a b c d e f g i x : α} {r : List α} (h : p ∈ a :: b :: c :: d :: e :: f :: g :: i :: x :: r) : p ∈ x :: a :: b :: c :: d :: e :: f :: g :: i :: r := by
  simp only [List.mem_cons] at h ⊢
  rcases h with h | h | h | h | h | h | h | h | h | h <;> simp [h]
set_option maxHeartbeats 4000000 in
theorem c_commonpath {prog : Program} {w : World} {dp un : Nat} {fr : Option (List Env)} {gd : Option (List Code)} {R : Result → Shared → Prop} {s : Shared} {mean : ExcName → Option Value} {mg mb : Str → Option Value}
    {l : Addr} {k : List (Str × Tok)}
    (X : (tp.heap_39 w.params).In s.heap) (T : Top tp.view_39 [Str.ofString "relpath"] mean mg mb s.heap) (r : Rm dp un 10) (hl : s.heap.IsList l (strValues k).toArray) (hz : k.length ≤ 20) (hn : 0 < k.length)
    (hk : ∀ x ∈ k.map (·.1), Txt.startswith x (Str.ofString "/") = true) (hkl : ∀ x ∈ k.map (·.1), x.length ≤ 1000)
    (h : ∀ h' ks k1 k2 tk tk', ks.map (·.map (·.1)) = (k.map (·.1)).map flt → ks[argBest (btL ks) (ks.length - 1)]? = some k1 → ks[argBest (btG ks) (ks.length - 1)]? = some k2 → s.heap.StaysIn h' →
      R (.ok (.ret (.str (Str.ofString "/" ++ Txt.join (Str.ofString "/") ((k1.map (·.1)).take (cpl (k1.map (·.1)) (k2.map (·.1))))) tk))) { s with heap := h', toks := tk' }) :
    codeAny (model prog w) (AA dp un fr gd) (.call (.ref 194) ⟨[.ref l], []⟩) R s := by
  refine' enterC [(Str.ofString "paths", .ref l)] X T ?k6 ?k7 ?k8 ?k9 ?kB ?kD ?_ ?c2 ?c3 ?c4
  walk_at "mine_inC"
  walk_at "mine_go"
  rename Fr _ _ _ _ => F
  rename News _ _ _ _ => N
  refine call_map_1 (Fr.lst F hl) fun hm hzm hTI hit hsz hkp => ?_
  have Fb := F
  have Nb := N
  have F1 := fr_stays F hkp
  have N1 := news_stays N hkp
  clear F N
  walk_at "mine_go"
  refine tuple_fspath (X.keeps Fb.keep) (Top.keeps T Fb.keep) (Rm.less (Rm.deeper r) (by decide)) (Fr.lst Fb hl) (by omega) hzm hTI hit hsz hkp fun h2 D tk2 st hD hn => ?_
  rename Fr s.heap _ hm _ => F1
  rename News s.heap _ hm _ => N1
  have F2 := fr_stays Fb st
  have N2 := news_new Fb Nb st hD hn
  clear F1 N1 Fb Nb st hD hn hzm hTI hit hsz hkp
  obtain ⟨⟨x0, t0⟩, kr, rfl⟩ : ∃ a r, k = a :: r := by
    cases k with
    | nil => exact absurd hn (Nat.lt_irrefl _)
    | cons a r => exact ⟨a, r, rfl⟩
  rw [show strValues ((x0, t0) :: kr) = .str x0 t0 :: strValues kr from rfl] at N2
  rw [List.length_cons] at hz
  walk_at "mine_go"
  rename Fr _ _ _ _ => F
  rename News _ _ _ _ => N
  simp only [List.cons_append, List.nil_append] at N
  refine src_tup rfl F N (.head _) (by rw [List.length_cons, sv_len]; omega) fun g tk => rest_inv (fun i ys nx => ∃ own ks, nx = (_ :: _ :: _ :: own) ∧ LsIn own ys ks ∧ (∀ kk ∈ ks, kk.length ≤ 1002 ∧ ∀ c ∈ kk, c.1.length ≤ 1000) ∧ ks.map (·.map (·.1)) = ((((x0, t0) :: kr).map (·.1)).take i).map fun x => Txt.split x (Str.ofString "/")) ⟨[], [], rfl, .nil, (fun _ h => nomatch h), rfl⟩ ?_ ?_
  · clear F N
    rintro i v I oI C oC D' m₂ ys nx h3 tk3 E' hi hv ⟨own, ks, rfl, hL, hsz, hks⟩ hC hx F N off ne
    obtain ⟨⟨y, ty⟩, hc, rfl⟩ : ∃ c, ((x0, t0) :: kr)[i]? = some c ∧ v = .str c.1 c.2 := by
      rw [show (Value.str x0 t0 :: strValues kr) = strValues ((x0, t0) :: kr) from rfl] at hv
      simp only [strValues, List.getElem?_map, Option.map_eq_some_iff] at hv
      obtain ⟨c, h1, h2⟩ := hv
      exact ⟨c, h1, h2.symm⟩
    simp only [LCg.Off3] at off
    have hmem : y ∈ ((x0, t0) :: kr).map (·.1) := List.mem_map.mpr ⟨_, List.mem_of_getElem? hc, rfl⟩
    have hy := hkl y hmem
    have hy2 := hk y hmem
    have lI : I < h3.objs.size := Heap.lt_size (N _ (.head _)).1
    have lC : C < h3.objs.size := Heap.lt_size (N _ (.tail _ (.head _))).1
    have lD : D' < h3.objs.size := Heap.lt_size (N _ (.tail _ (.tail _ (.head _)))).1
    walk_at "mine_go"
    rename List (Str × Tok) => kl
    have hkl' : List.map (fun x => x.1) kl = Txt.split y (Str.ofString "/") := by assumption
    have hle : ∀ a ∈ List.map (fun x => x.1) kl, a.length ≤ y.length := by assumption
    have hll := len_le_of_split hkl'
    refine LCg.CompEnd.intro (by assumption) (by assumption) (_ :: _ :: _ :: (h3.objs.size, listOf (strValues kl).toArray 0) :: own) (fun p hp => ?_) ⟨off.1, off.2.1, off.2.2.1, ⟨Nat.ne_of_gt lI, Nat.ne_of_gt lC, Nat.ne_of_gt lD⟩, off.2.2.2⟩ ⟨_, .head _, rfl, _, rfl⟩ ⟨_, ks ++ [kl], rfl, hL.snoc (fun p hp => .tail _ hp) (.head _), ?_, ?_⟩
    · exact rot6 hp
    · intro kk hkk
      rcases List.mem_append.mp hkk with hkk | hkk
      · exact hsz kk hkk
      · rw [List.mem_singleton.mp hkk]
        exact ⟨by omega, fun c hc => Nat.le_trans (hle _ (List.mem_map.mpr ⟨_, hc, rfl⟩)) hy⟩
    · rw [List.map_append, hks, List.take_add_one, List.map_append, List.getElem?_map, hc]
      simp [hkl']
  · rintro ys nx ⟨own, ks, rfl, hL, hsz, hks⟩
    walk_at "mine_go"
    rename Fr _ _ _ _ => F
    rename News _ _ _ _ => N
    refine SetComp_true F N (by with_unfolding_all rfl) (by decide) (by rfl) (by decide) (by rfl) ?_
    walk_at "mine_go"
    refine set_tup (vs := .str x0 t0 :: strValues kr) rfl (by assumption) (by assumption) (.tail _ (.head _)) (Nat.zero_lt_succ _) ?_ ?_
    · clear F N
      rintro g0 tk0 i v I oI C oC D1 oD m₂ h3 tk3 E' hv hC hx F N off ne
      obtain ⟨⟨y, ty⟩, hc, rfl⟩ : ∃ c, ((x0, t0) :: kr)[i]? = some c ∧ v = .str c.1 c.2 := by
        rw [show (Value.str x0 t0 :: strValues kr) = strValues ((x0, t0) :: kr) from rfl] at hv
        simp only [strValues, List.getElem?_map, Option.map_eq_some_iff] at hv
        obtain ⟨c, h1, h2⟩ := hv
        exact ⟨c, h1, h2.symm⟩
      have hmem : y ∈ ((x0, t0) :: kr).map (·.1) := List.mem_map.mpr ⟨_, List.mem_of_getElem? hc, rfl⟩
      have hy := hkl y hmem
      have hy2 := hk y hmem
      walk_at "mine_go"
      · exact congrArg _ hy2
      · assumption
      · assumption
    · clear F N
      rintro g0 tk0 DS h3 tk3 F N
      rw [assign_Tuple]
      refine wpAny_bind (wpAny_standAt (unpack_set rfl (N _ (.head _)).1 rfl rfl fun h4 hk4 => ?_))
      have F4 := fr_stays F hk4
      have N4 := news_stays N hk4
      clear F N hk4
      walk_at "mine_go"
      have hyl : ys.length ≤ 20 := by
        have h1 := congrArg List.length hks
        simp at h1
        rw [hL.1]; omega
      refine src_lst (vs := ys) rfl (by assumption) (by assumption) (.inr ⟨_, .tail _ (.head _), rfl, _, rfl⟩) (by omega) fun g tk => rest_inv (Nest5 _ _ _ _ _ own ks) Nest5.start ?_ ?_
      · rintro i v I oI C oC D2 m₂ zs nx h3 tk3 E' hi hv ⟨own', ks', rfl, hsub, hL', hks'⟩ hC hx F N off ne
        obtain ⟨kk, hkk⟩ : ∃ kk, ks[i]? = some kk := ⟨ks[i]'(by rw [← hL.1]; exact hi), List.getElem?_eq_getElem _⟩
        obtain ⟨a, c, rfl, hm⟩ := hL.2 i v kk hv hkk
        simp only [LCg.Off3] at off
        refine LCt.ListComp_T (F₀ := F) (by with_unfolding_all rfl) (by decide) (by rfl) (by decide) (by rfl) ?_
        walk_at "mine_go"
        have hkl2 := (hsz kk (List.mem_of_getElem? hkk)).1
        refine LCt.CompSrcT.ledger rfl (by assumption) (by assumption) (.tail _ (.tail _ (.tail _ (.tail _ (.tail _ (.tail _ (.tail _ (.tail _ (hsub _ hm))))))))) (by rw [List.size_toArray, sv_len, sizeLine_eq]; omega) fun g => restT_inv (TxJ kk _) TxJ.start ?_ ?_
        · clear F N
          rintro i2 v2 I2 oI2 C2 oC2 D3 m3 zs2 nx2 h5 tk5 E5 hi2 hv2 ⟨rfl, rfl⟩ hC2 hx2 F N off2 ne2
          obtain ⟨⟨y, ty⟩, hc, rfl⟩ : ∃ c, kk[i2]? = some c ∧ v2 = .str c.1 c.2 := by
            simp only [strValues, List.getElem?_toArray, List.getElem?_map, Option.map_eq_some_iff] at hv2
            obtain ⟨c, h1, h2⟩ := hv2
            exact ⟨c, h1, h2.symm⟩
          have hy := (hsz kk (List.mem_of_getElem? hkk)).2 _ (List.mem_of_getElem? hc)
          dsimp only at hx2 hy
          walk_at "mine_go"
          · exact LCg.CompEnd.intro (by assumption) (by assumption) _ (fun p hp => hp) off2 (.inr ⟨_, .tail _ (.tail _ (.tail _ (.tail _ (.tail _ (.tail _ (.tail _ (.tail _ (hsub _ hm)))))))), rfl, _, rfl⟩) (TxJ.keep hc (by unfold keepB; rw [Bool.and_eq_true]; exact ⟨decide_eq_true (by assumption), by assumption⟩))
          · refine LCg.CompEnd.intro (by assumption) (by assumption) _ (fun p hp => hp) off2 (.inr ⟨_, .tail _ (.tail _ (.tail _ (.tail _ (.tail _ (.tail _ (.tail _ (.tail _ (hsub _ hm)))))))), rfl, _, rfl⟩) (TxJ.drop hc ?_)
            have e : (y != Str.ofString ".") = false := by assumption
            unfold keepB
            rw [show ((y, ty).1 != Str.ofString ".") = false from e]
            exact Bool.and_false _
          · refine LCg.CompEnd.intro (by assumption) (by assumption) _ (fun p hp => hp) off2 (.inr ⟨_, .tail _ (.tail _ (.tail _ (.tail _ (.tail _ (.tail _ (.tail _ (.tail _ (hsub _ hm)))))))), rfl, _, rfl⟩) (TxJ.drop hc ?_)
            have e : (y.length : Int) = 0 := by assumption
            unfold keepB
            rw [decide_eq_false (fun q => q e)]
            rfl
        · rintro zs2 nx2 ⟨rfl, rfl⟩
          walk_at "mine_go"
          rename_i D9 h9 tk9 F9 N9 o9
          rw [show (strValues kk).toArray.size = kk.length by simp [strValues], List.take_length] at N9
          refine LCg.CompEnd.intro F9 N9 (_ :: _ :: _ :: _ :: _ :: (D9, LCg.lst (strValues (kk.filter keepB))) :: own') (fun p hp => ?_) ⟨off.1, off.2.1, off.2.2.1, off.2.2.2.1, off.2.2.2.2.1, ⟨Ne.symm o9.1, Ne.symm o9.2.1, Ne.symm o9.2.2.1⟩, off.2.2.2.2.2⟩ (.inr ⟨_, .tail _ (.head _), rfl, _, rfl⟩) ⟨_, ks' ++ [kk.filter keepB], rfl, fun p hp => .tail _ (hsub p hp), hL'.snoc (fun p hp => .tail _ hp) (.head _), ?_⟩
          · exact rot8 hp
          · rw [hks', List.take_add_one, hkk, List.map_append]
            rfl
      · rintro zs nx ⟨own', ks', rfl, hsub, hL', hks'⟩
        walk_at "mine_go"
        rename Fr _ _ _ _ => F
        rename News _ _ _ _ => N
        have N1 := pick6 N
        clear N
        have hkn : 0 < ks'.length := by
          have h1 := congrArg List.length hks
          simp only [List.length_map, List.length_take, List.length_cons, sv_len] at h1
          rw [hks', List.length_map, List.length_take, hL.1, h1]
          omega
        refine min_lists (vs := zs) (ks := ks') (News.isList N1 (.head _)) (hL'.are N1 fun p hp => .tail _ (.tail _ (.tail _ hp))) stays_refl hkn rfl ?_ fun a1 k1 h5 tk5 hk1 hv1 _ st5 => ?_
        · walk_at "mine_line"
        have F5 := fr_stays F st5
        have N5 := news_stays N1 st5
        clear F N1 st5
        walk_at "mine_go"
        rename Fr _ _ _ _ => F
        rename News _ _ _ _ => N
        refine max_lists (vs := zs) (ks := ks') (News.isList N (.head _)) (hL'.are N fun p hp => .tail _ (.tail _ (.tail _ hp))) stays_refl hkn rfl ?_ fun a2 k2 h6 tk6 hk2 hv2 _ st6 => ?_
        · walk_at "mine_line"
        obtain ⟨b1, c1, e1, m1⟩ := hL'.2 _ _ _ hv1 hk1
        obtain ⟨b2, c2, e2, m2⟩ := hL'.2 _ _ _ hv2 hk2
        cases e1
        cases e2
        have F6 := fr_stays F st6
        have N6 := pick2 (news_stays N st6) m1 m2
        clear F N st6
        walk_at "mine_go"
        rename Fr _ _ _ _ => F
        rename News _ _ _ _ => N
        have hbk : ∀ kk ∈ ks', kk.length ≤ 1002 ∧ ∀ c ∈ kk, c.1.length ≤ 1000 := by
          rw [hks']
          intro kk hkk
          obtain ⟨k0, h0, rfl⟩ := List.mem_map.mp hkk
          have h1 := hsz k0 (List.mem_of_mem_take h0)
          exact ⟨Nat.le_trans (List.length_filter_le _ _) h1.1, fun c hc => h1.2 c (List.mem_filter.mp hc).1⟩
        have hz1 := hbk k1 (List.mem_of_getElem? hk1)
        have hz2 := hbk k2 (List.mem_of_getElem? hk2)
        have hlt : lexLt (k2.map (·.1)) (k1.map (·.1)) = false := best_lt hk1 hk2
        have hfl : ks'.map (·.map (·.1)) = (((x0, t0) :: kr).map (·.1)).map flt := by
          rw [List.take_of_length_le (by simp [strValues])] at hks
          rw [hks', List.take_of_length_le (by rw [hL.1]; exact Nat.le_refl _), List.map_map]
          have e : (fun x : List (Str × Tok) => List.map (fun x => x.1) x) ∘ (fun x => List.filter keepB x) = (fun x : List Str => x.filter fun c => decide ((c.length : Int) ≠ 0) && (c != Str.ofString ".")) ∘ (fun x : List (Str × Tok) => List.map (fun x => x.1) x) := by
            funext x; exact keep_map x
          rw [e, ← List.map_map, hks, List.map_map]
          rfl
        refine call_enum_led rfl (.head _) (StrsAre.areOf (sv_are k1)) F N ?_
        clear F N
        intro h1 e1 F N hS
        dsimp only
        refine hS _ rfl _ _ _ _ (EJ k1 k2 _ _) ⟨rfl, rfl, fun _ _ _ => rfl⟩ ?_ ?_
        · clear F N hS
          rintro i y t v m₁ news₁ s₁ own ⟨h2, tk2, rfl⟩ hy hv ⟨rfl, hpre, hm⟩ _ F N
          obtain ⟨ty, rfl⟩ := ItemKind.str_is hv
          replace F := Fr.names2 F hm
          dsimp only at F
          have hi1 : i < k1.length := by have := (List.getElem?_eq_some_iff.mp hy).1; simpa using this
          have hi2 : i < k2.length := by have := lexLt_pre hlt hpre (by simpa using hi1); simpa using this
          obtain ⟨⟨y2, ty2⟩, hy2⟩ : ∃ p, k2[i]? = some p := ⟨_, List.getElem?_eq_getElem hi2⟩
          have hz3 := hz1.1
          have hz4 := hz2.1
          have N' := swap4 N
          have hok := hok_of (ys := (k1.take i).map (·.1)) (sep := Str.ofString "/") (fun y hy => by
            obtain ⟨c, hc, rfl⟩ := List.mem_map.mp hy
            exact Nat.le_trans (hz1.2 c (List.mem_of_mem_take hc)) (by decide)) (by rw [List.length_map, List.length_take]; omega) (by decide)
          have hjl := Nat.le_trans (join_le (ys := (k1.take i).map (·.1)) (sep := Str.ofString "/")) hok
          clear N
          walk_at "mine_go"
          · have e : (k1.map (·.1)).take (cpl (k1.map (·.1)) (k2.map (·.1))) = (k1.take i).map (·.1) := by
              rw [cpl_at hpre hy (by rw [List.getElem?_map, hy2]; rfl) (by simpa using ‹(y != y2) = true›), ← List.map_take]
            rw [← e]
            exact h _ ks' k1 k2 _ _ hfl hk1 hk2 (Fr.keep (by assumption))
          · have e : y = y2 := by simpa using ‹(y != y2) = false›
            subst e
            refine LoopStep2.intro (by assumption) (swap4b (by assumption)) rfl ⟨rfl, ?_, fun z h1 h2 => by simp only [if_neg h1, if_neg h2]⟩
            rw [List.take_add_one, List.take_add_one, hpre, hy, List.getElem?_map, hy2]
            rfl
        · clear F N hS
          rintro h2 tk2 m₁ nx F N _ ⟨rfl, hpre, hm⟩
          replace F := Fr.only2 F hm
          (try dsimp only at F)
          have hz3 := hz1.1
          have hok := hok_of (ys := k1.map (·.1)) (sep := Str.ofString "/") (fun y hy => by
            obtain ⟨c, hc, rfl⟩ := List.mem_map.mp hy
            exact Nat.le_trans (hz1.2 c hc) (by decide)) (by rw [List.length_map]; omega) (by decide)
          have hjl := Nat.le_trans (join_le (ys := k1.map (·.1)) (sep := Str.ofString "/")) hok
          walk_at "mine_go"
          have e : (k1.map (·.1)).take (cpl (k1.map (·.1)) (k2.map (·.1))) = k1.map (·.1) := by
            rw [cpl_whole hpre, List.take_of_length_le (Nat.le_refl _)]
          rw [← e]
          exact h _ ks' k1 k2 _ _ hfl hk1 hk2 (Fr.keep (by assumption))
end
end
end
end
end
end
section
local macro_rules | `(tactic| walk_at "mine_fit") => `(tactic| ((try simp only [List.size_toArray, sv_len, List.length_map, List.length_append, List.length_cons, List.length_nil, Array.size_push, List.length_replicate, List.length_drop, List.length_take]); omega))
local macro_rules | `(tactic| walk_at "mine_pick") => `(tactic| first | exact pick_to_sv _ _ | exact pick_from_sv _ _)
local macro_rules | `(tactic| walk_at "call builtin:len") => `(tactic| (k_here; (with_reducible show wpAny _ _ (call (Value.builtin "len") [Value.ref _]) _ _ _); k_dflt (refine' len_vals ?hl ?hz ?_; (case hl => walk_at "mine_list"); (case hz => walk_at "mine_fit"); k_whole); (try simp only [sv_len, List.length_cons, List.length_nil])))
local macro_rules | `(tactic| walk_at "binaryOp Mult ref int") => `(tactic| (k_here; k_dflt (refine' mul_one ?F ?N ?hl ?h0 ?hx ?_; (case F => k_asm); (case N => k_asm); (case hl => walk_at "mine_list"); (case h0 => omega); (case hx => omega); k_whole); intro D' h' F' N' l'; (try k_lt l'); (try k_sweep)))
local macro_rules | `(tactic| walk_at "binaryOp Add ref ref") => `(tactic| (k_here; k_dflt (refine' add_strs ?F ?N ?ha ?hb ?hz ?_; (case F => k_asm); (case N => k_asm); (case ha => walk_at "mine_list"); (case hb => walk_at "mine_list"); (case hz => walk_at "mine_fit"); k_whole); intro D' h' F' N' l'; (try k_lt l'); (try k_sweep)))
local macro_rules | `(tactic| walk_at "call builtin:str.join") => `(tactic| (k_here; (with_reducible show wpAny _ _ (call (Value.builtin "str.join") [Value.str _ _, Value.ref _]) _ _ _); k_dflt (refine' join_strs ?hl ?hok ?hk ?_; (case hl => walk_at "mine_list"); (case hok => assumption); (case hk => walk_at "mine_names"); k_whole); intro t' k'))
section
local macro_rules | `(tactic| walk_at "mine_go_wh") => `(tactic| repeat' ((fail_if_success (with_reducible show wpAny _ _ (exec (Stmt.While _ _ _ _) _) _ _ _)); (first | (k_unfold; (try dsimp only)) | walk1 | (dsimp only; walk1))))
def AJ (ka kb : List (Str × Tok)) (m₀ : Str → Option Value) (n : Nat) (m : Str → Option Value) (nx : List (Addr × Obj)) : Prop :=
  ∃ i t, n + i = ka.length ∧ i ≤ kb.length ∧ nx = [] ∧ (ka.map (·.1)).take i = (kb.map (·.1)).take i ∧ m (Str.ofString "count") = some (.int (i : Nat) t) ∧ ∀ z, z ≠ Str.ofString "count" → m z = m₀ z
set_option maxHeartbeats 4000000 in
theorem c_alike {prog : Program} {w : World} {dp un : Nat} {fr : Option (List Env)} {gd : Option (List Code)} {R : Result → Shared → Prop} {s : Shared} {mean : ExcName → Option Value} {mg mb : Str → Option Value} {a b : Addr} {ka kb : List (Str × Tok)}
    (X : (tp.heap_39 w.params).In s.heap) (T : Top tp.view_39 [Str.ofString "relpath"] mean mg mb s.heap) (r : Rm dp un 2) (ha : s.heap.IsList a (strValues ka).toArray) (hb : s.heap.IsList b (strValues kb).toArray) (hza : ka.length ≤ 20) (hzb : kb.length ≤ 20)
    (h : ∀ h' tk tk', s.heap.StaysIn h' → R (.ok (.ret (.int (cpl (ka.map (·.1)) (kb.map (·.1))) tk))) { s with heap := h', toks := tk' }) :
    codeAny (model prog w) (AA dp un fr gd) (.call (.ref 213) ⟨[.ref a, .ref b], []⟩) R s := by
  refine' enter [(Str.ofString "one", .ref a), (Str.ofString "two", .ref b)] X T ?k6 ?k7 ?k8 ?k9 ?kB ?_ ?c2 ?c3 ?c4 ?c5
  walk_at "mine_in"
  walk_at "mine_go_wh"
  rename Fr _ _ _ _ => F
  rename News _ _ _ _ => N
  refine While_inv (n₀ := ka.length) (AJ ka kb _) F N ⟨0, _, rfl, Nat.zero_le _, rfl, rfl, rfl, fun z _ => rfl⟩ ?_
  clear F N
  rintro n m₁ nx h2 tk2 F N ⟨i, t, hn, hi, rfl, hp, hc, hm⟩
  have F2 := Fr.only F hm
  rw [hc] at F2
  clear F
  (try dsimp only at F2)
  walk_at "mine_go"
  · have hi1 : i < ka.length := by omega
    have hi2 : i < kb.length := by omega
    obtain ⟨⟨x, tx⟩, hx⟩ : ∃ p, ka[i]? = some p := ⟨_, List.getElem?_eq_getElem hi1⟩
    obtain ⟨⟨y, ty⟩, hy⟩ : ∃ p, kb[i]? = some p := ⟨_, List.getElem?_eq_getElem hi2⟩
    have hx' : (ka.map (·.1))[i]? = some x := by rw [List.getElem?_map, hx]; rfl
    have hy' : (kb.map (·.1))[i]? = some y := by rw [List.getElem?_map, hy]; rfl
    walk_at "mine_go"
    · have e : x = y := by simpa using ‹(x == y) = true›
      subst e
      refine WhileStep.intro (n' := n - 1) (by assumption) (by assumption) (by omega) ⟨i + 1, _, by omega, by omega, rfl, ?_, rfl, fun z hz => ?_⟩
      · rw [List.take_add_one, List.take_add_one, hp, hx', hy']
      · simp only [if_neg hz]
    · have e : x ≠ y := by simpa using ‹(x == y) = false›
      rw [cpl_at hp hx' hy' e] at h
      exact h _ t _ (Fr.keep (by assumption))
  · have e : i = kb.length := by omega
    have e2 : cpl (ka.map (·.1)) (kb.map (·.1)) = i := by
      rw [cpl_comm, cpl_whole (by rw [List.length_map, ← e]; exact hp.symm), List.length_map]; exact e.symm
    rw [e2] at h
    exact h _ t _ (Fr.keep (by assumption))
  · have e : i = ka.length := by omega
    have e2 : cpl (ka.map (·.1)) (kb.map (·.1)) = i := by
      rw [cpl_whole (by rw [List.length_map, ← e]; exact hp), List.length_map]; exact e.symm
    rw [e2] at h
    exact h _ t _ (Fr.keep (by assumption))
local macro_rules | `(tactic| walk_at "call ref") => `(tactic| (k_here; k_dflt (refine' wpAny_call (c_alike ?X ?T ?r ?ha ?hb ?hza ?hzb ?_); walk_at "mine_xtr"; (case ha => walk_at "mine_list"); (case hb => walk_at "mine_list"); (case hza => walk_at "mine_fit"); (case hzb => walk_at "mine_fit"); k_whole); intro h' tk tk' st'; walk_at "mine_post"))
end
end
end
section
local macro_rules | `(tactic| walk_at "call ref") => `(tactic| (k_here; k_dflt (refine' wpAny_call (c_basename ?X ?T ?r ?l ?_); walk_at "mine_xtr"; (case l => walk_at "mine_len"); k_whole); intro h' tk tk' st'; walk_at "mine_post"))
local macro_rules | `(tactic| walk_at "call ref") => `(tactic| (k_here; k_dflt (refine' wpAny_call (c_dirname ?X ?T ?r ?l ?_); walk_at "mine_xtr"; (case l => walk_at "mine_len"); k_whole); intro h' tk tk' st'; walk_at "mine_post"))
local macro_rules | `(tactic| walk_at "call ref") => `(tactic| (k_here; k_dflt (refine' wpAny_call (c_splitroot ?X ?T ?r ?l ?h1 ?h2 ?_); walk_at "mine_xtr"; (case l => walk_at "mine_len"); (case h1 => assumption); (case h2 => assumption); k_whole); intro h' D' t1 t2 t3 tk' st' hD' hn'; (have N' := news_new (by assumption) (by assumption) st' hD' hn'); (have F' := fr_stays (by assumption) st'); (try clear st' hD' hn'); (try k_sweep); (try dsimp only)))
section
local macro_rules | `(tactic| walk_at "subscriptTail Name Name ref int") => `(tactic| (k_here; k_dflt (refine' item_str_at ?hl ?hy ?hi ?_; (case hl => walk_at "mine_list"); (case hy => assumption); (case hi => walk_at "mine_fit"); k_whole)))
local macro_rules | `(tactic| walk_at "call builtin:isinstance") => `(tactic| (k_here; k_dflt (refine' isi_list ?hl ?ht ?_; (case hl => walk_at "mine_list"); (case ht => exact News.get (by k_asm) (by k_mem)); k_whole); intro tk'))
local macro_rules | `(tactic| walk_at "mine_ls") => `(tactic| first | assumption )
local macro_rules | `(tactic| walk_at "mine_line") => `(tactic| (have hr9 := Rm.line (by assumption); (try dsimp only); have hr8 := Rm.hu (by assumption); show _ < 9900; omega))
local macro_rules | `(tactic| walk_at "call builtin:min") => `(tactic| (k_here; k_dflt (refine' min_lists ?hl ?H ?sB ?hn ?hh ?hu ?_; (case hl => walk_at "mine_list"); (case H => walk_at "mine_ls"); (case sB => first | exact stays_refl | exact Fr.keep (by k_asm)); (case hn => first | assumption | exact Nat.zero_lt_succ _); (case hh => exact rfl); (case hu => walk_at "mine_line"); k_whole); intro a' k' h' tk' hk' hv' ha' st'; (have F' := fr_stays (by assumption) st'); (have N' := news_stays (by assumption) st'); (try clear st'); (try k_sweep)))
local macro_rules | `(tactic| walk_at "call builtin:max") => `(tactic| (k_here; k_dflt (refine' max_lists ?hl ?H ?sB ?hn ?hh ?hu ?_; (case hl => walk_at "mine_list"); (case H => walk_at "mine_ls"); (case sB => first | exact stays_refl | exact Fr.keep (by k_asm)); (case hn => first | assumption | exact Nat.zero_lt_succ _); (case hh => exact rfl); (case hu => walk_at "mine_line"); k_whole); intro a' k' h' tk' hk' hv' ha' st'; (have F' := fr_stays (by assumption) st'); (have N' := news_stays (by assumption) st'); (try clear st'); (try k_sweep)))
section
local macro_rules | `(tactic| walk_at "call ref") => `(tactic| (k_here; k_dflt (refine' wpAny_call (c_normpath ?X ?T ?r ?l ?n ?h1 ?h2 ?_); walk_at "mine_xtr"; (case l => walk_at "mine_len"); (case n => walk_at "mine_len"); (case h1 => assumption); (case h2 => assumption); k_whole); intro h' tk tk' st'; walk_at "mine_post"))
section
local macro_rules | `(tactic| walk_at "call ref") => `(tactic| (k_here; k_dflt (refine' wpAny_call (c_abspath ?X ?T ?r ?l ?n ?h0 ?h1 ?h2 ?_); walk_at "mine_xtr"; (case l => walk_at "mine_len"); (case n => walk_at "mine_len"); (case h0 => assumption); (case h1 => assumption); (case h2 => assumption); k_whole); intro h' tk tk' st'; walk_at "mine_post"))
section
local macro_rules | `(tactic| walk_at "call ref") => `(tactic| (k_here; k_dflt (refine' wpAny_call (c_commonprefix ?X ?T ?r ?hm ?ha ?hb ?za ?zb ?_); walk_at "mine_xtr"; (case hm => walk_at "mine_list"); (case ha => walk_at "mine_list"); (case hb => walk_at "mine_list"); (case za => walk_at "mine_len"); (case zb => walk_at "mine_len"); k_whole); intro h' q' kq' tk' st' hq' hlen'; walk_at "mine_post"))
section
local macro_rules | `(tactic| walk_at "mine_fit") => `(tactic| ((try simp only [List.size_toArray, sv_len, List.length_map, List.length_append, List.length_cons, List.length_nil, Array.size_push, List.length_replicate, List.length_drop, List.length_take]); omega))
local macro_rules | `(tactic| walk_at "mine_pick") => `(tactic| first | exact pick_to_sv _ _ | exact pick_from_sv _ _)
local macro_rules | `(tactic| walk_at "call builtin:len") => `(tactic| (k_here; (with_reducible show wpAny _ _ (call (Value.builtin "len") [Value.ref _]) _ _ _); k_dflt (refine' len_vals ?hl ?hz ?_; (case hl => walk_at "mine_list"); (case hz => walk_at "mine_fit"); k_whole); (try simp only [sv_len, List.length_cons, List.length_nil])))
local macro_rules | `(tactic| walk_at "binaryOp Mult ref int") => `(tactic| (k_here; k_dflt (refine' mul_one ?F ?N ?hl ?h0 ?hx ?_; (case F => k_asm); (case N => k_asm); (case hl => walk_at "mine_list"); (case h0 => omega); (case hx => omega); k_whole); intro D' h' F' N' l'; (try k_lt l'); (try k_sweep)))
local macro_rules | `(tactic| walk_at "binaryOp Add ref ref") => `(tactic| (k_here; k_dflt (refine' add_strs ?F ?N ?ha ?hb ?hz ?_; (case F => k_asm); (case N => k_asm); (case ha => walk_at "mine_list"); (case hb => walk_at "mine_list"); (case hz => walk_at "mine_fit"); k_whole); intro D' h' F' N' l'; (try k_lt l'); (try k_sweep)))
local macro_rules | `(tactic| walk_at "call builtin:str.join") => `(tactic| (k_here; (with_reducible show wpAny _ _ (call (Value.builtin "str.join") [Value.str _ _, Value.ref _]) _ _ _); k_dflt (refine' join_strs ?hl ?hok ?hk ?_; (case hl => walk_at "mine_list"); (case hok => assumption); (case hk => walk_at "mine_names"); k_whole); intro t' k'))
section
local macro_rules | `(tactic| walk_at "call ref") => `(tactic| (k_here; k_dflt (refine' wpAny_call (c_absP ?X ?T ?r ?n ?l ?_); walk_at "mine_xtr"; (case n => assumption); (case l => assumption); k_whole); intro h' tk tk' st'; walk_at "mine_post"))
local macro_rules | `(tactic| walk_at "call ref") => `(tactic| (k_here; k_dflt (refine' wpAny_call (c_relpath ?X ?T ?r ?n ?l ?a ?b ?_); walk_at "mine_xtr"; (case n => assumption); (case l => assumption); (case a => assumption); (case b => assumption); k_whole); intro h' tk tk' st'; walk_at "mine_post"))
section
local macro_rules | `(tactic| walk_at "call ref") => `(tactic| (k_here; k_dflt (refine' wpAny_call (c_alike ?X ?T ?r ?ha ?hb ?hza ?hzb ?_); walk_at "mine_xtr"; (case ha => walk_at "mine_list"); (case hb => walk_at "mine_list"); (case hza => walk_at "mine_fit"); (case hzb => walk_at "mine_fit"); k_whole); intro h' tk tk' st'; walk_at "mine_post"))
section
theorem rel_here (ka kb : List (Str × Tok)) (t : Tok) : (List.replicate ((ka.length : Int) - ((cpl (ka.map (·.1)) (kb.map (·.1)) : Nat) : Int)).toNat (Str.ofString "..", t) ++ kb.drop (cpl (ka.map (·.1)) (kb.map (·.1)))).map (·.1) = relL (ka.map (·.1)) (kb.map (·.1)) := by
  unfold relL
  rw [List.map_append, List.map_replicate, List.map_drop, List.length_map]
  rw [show ((ka.length : Int) - ((cpl (ka.map (·.1)) (kb.map (·.1)) : Nat) : Int)).toNat = ka.length - cpl (ka.map (·.1)) (kb.map (·.1)) by omega]
theorem J_len0 {ns : List Str} (h : ns ≠ []) (hn : ∀ n ∈ ns, n.length ≠ 0) : (J ns).length ≠ 0 := by
  match ns, h with
  | [n], _ => rw [J_one]; exact hn n (.head _)
  | n :: m :: r, _ =>
    have := hn n (.head _)
    rw [J_two, Str.length_append, Str.length_append]; omega
theorem relL_ne {py px : List Str} (hx : ∀ n ∈ px, Nm n) : ∀ y ∈ relL py px, y.length ≠ 0 := fun y hy => by
  rcases List.mem_append.mp hy with h | h
  · rw [(List.mem_replicate.mp h).2]; decide
  · exact (hx y (List.drop_subset _ _ h)).ne
theorem route_some {py px : List Str} (h : ((Txt.join (Str.ofString "/") (relL py px)).length : Int) ≠ 0) : routeS py px = Txt.join (Str.ofString "/") (relL py px) := by
  refine if_neg fun c => h ?_
  rw [c]; rfl
theorem route_none {py px : List Str} (hx : ∀ n ∈ px, Nm n) (h : ((Txt.join (Str.ofString "/") (relL py px)).length : Int) = 0) : routeS py px = Str.ofString "." := by
  refine if_pos ?_
  by_cases c : relL py px = []
  · exact c
  · exact absurd (show (J (relL py px)).length = 0 by unfold J; omega) (J_len0 c (relL_ne hx))
local macro_rules | `(tactic| walk_at "mine_names") => `(tactic| exact rel_here _ _ _)
set_option maxHeartbeats 4000000 in
theorem c_route {prog : Program} {w : World} {dp un : Nat} {fr : Option (List Env)} {gd : Option (List Code)} {R : Result → Shared → Prop} {s : Shared} {mean : ExcName → Option Value} {mg mb : Str → Option Value} {a b : Addr} {ka kb : List (Str × Tok)}
    (X : (tp.heap_39 w.params).In s.heap) (T : Top tp.view_39 [Str.ofString "relpath"] mean mg mb s.heap) (r : Rm dp un 3) (ha : s.heap.IsList a (strValues ka).toArray) (hb : s.heap.IsList b (strValues kb).toArray) (hza : ka.length ≤ 20) (hzb : kb.length ≤ 20)
    (hkb : ∀ p ∈ kb.map (·.1), Nm p)
    (h : ∀ h' tk tk', s.heap.StaysIn h' → R (.ok (.ret (.str (routeS (ka.map (·.1)) (kb.map (·.1))) tk))) { s with heap := h', toks := tk' }) :
    codeAny (model prog w) (AA dp un fr gd) (.call (.ref 220) ⟨[.ref a, .ref b], []⟩) R s := by
  refine' enter [(Str.ofString "start", .ref a), (Str.ofString "full", .ref b)] X T ?k6 ?k7 ?k8 ?k9 ?kB ?_ ?c2 ?c3 ?c4 ?c5
  walk_at "mine_in"
  have hc1 := cpl_le (ka.map (·.1)) (kb.map (·.1))
  have hok := hok_of (ys := relL (ka.map (·.1)) (kb.map (·.1))) (sep := Str.ofString "/") (relL_short hkb) (relL_len _ _ (by simpa using hzb) (by simpa using hza)) (by decide)
  have hjl := Nat.le_trans (join_le (ys := relL (ka.map (·.1)) (kb.map (·.1))) (sep := Str.ofString "/")) hok
  simp only [List.length_map] at hc1
  walk_at "mine_go"
  · rw [route_some (by assumption)] at h
    exact h _ _ _ (Fr.keep (by assumption))
  · rw [route_none hkb (by assumption)] at h
    exact h _ _ _ (Fr.keep (by assumption))
local macro_rules | `(tactic| walk_at "call ref") => `(tactic| (k_here; k_dflt (refine' wpAny_call (c_route ?X ?T ?r ?ha ?hb ?hza ?hzb ?hkb ?_); walk_at "mine_xtr"; (case ha => walk_at "mine_list"); (case hb => walk_at "mine_list"); (case hza => walk_at "mine_fit"); (case hzb => walk_at "mine_fit"); (case hkb => assumption); k_whole); intro h' tk tk' st'; walk_at "mine_post"))
end
section
def TurnG (h₀ : Heap) (L D I : Addr) (J : (Str → Option Value) → Obj → List (Addr × Obj) → Prop) (own : List (Addr × Obj)) (s₁ : Shared) (Q : Flow → Shared → Prop) (f : Flow) (s₂ : Shared) : Prop :=
  match f with
  | .ret v => Q (.ret v) s₂
  | .brk => Q .next s₂
  | _ => ∃ h' tk m' o' nx' all, s₂ = { s₁ with heap := h', toks := tk } ∧ Fr h₀ L h' m' ∧ News h₀ L h' all ∧ (D, o') ∈ all ∧ (∀ p ∈ own, p ∈ all) ∧ (∀ p ∈ nx', p ∈ all ∧ p.1 ≠ I ∧ p.1 ≠ D) ∧ J m' o' nx'
theorem TurnG.next {h₀ h' : Heap} {L D I : Addr} {o' : Obj} {J : (Str → Option Value) → Obj → List (Addr × Obj) → Prop} {own all : List (Addr × Obj)} {s₁ : Shared} {Q : Flow → Shared → Prop} {m' : Str → Option Value} {tk : Nat}
    (F : Fr h₀ L h' m') (N : News h₀ L h' all) (hD : (D, o') ∈ all) (ho : ∀ p ∈ own, p ∈ all) (nx' : List (Addr × Obj)) (hx : ∀ p ∈ nx', p ∈ all ∧ p.1 ≠ I ∧ p.1 ≠ D) (hj : J m' o' nx') : TurnG h₀ L D I J own s₁ Q .next { s₁ with heap := h', toks := tk } :=
  ⟨h', tk, m', o', nx', all, rfl, F, N, hD, ho, hx, hj⟩
section
variable {prog : Program} {w : World} {A : Around} {E : Value → Shared → Prop} {s : Shared} {env : Env} {h₀ : Heap} {x : Str} {body : List Stmt} {Q : Flow → Shared → Prop}
/-- a for that turns one object, and lays objects that stay -/
theorem iter_core {I D : Addr} {o₀ : Obj} {fp : List Addr} {n : Nat} {P : Nat → Value → Prop} {St : Nat → Heap → Prop} {m₀ : Str → Option Value} {nx₀ : List (Addr × Obj)} (J : Nat → (Str → Option Value) → Obj → List (Addr × Obj) → Prop)
    (W : Walks prog w A I fp [I] n P St) (hLf : env.locals ∉ fp) (hI₀ : h₀.get? I = none) (hDf : D ∉ fp) (hst : St 0 s.heap) (hIo : ∀ i h, St i h → ∃ o, h.get? I = some o)
    (F : Fr h₀ env.locals s.heap m₀) (N : News h₀ env.locals s.heap ((D, o₀) :: nx₀)) (hnI : ∀ p ∈ nx₀, p.1 ≠ I) (hnD : ∀ p ∈ nx₀, p.1 ≠ D) (hj : J 0 m₀ o₀ nx₀)
    (turn : ∀ i v m₁ o nx h tk own oI, i < n → P i v → J i m₁ o nx → (I, oI) ∈ own → (∀ p ∈ nx, p ∈ own ∧ p.1 ≠ I) → OwnOff own [D] → Fr h₀ env.locals h (fun y => if y = x then some v else m₁ y) → News h₀ env.locals h ((D, o) :: own) →
      wpAny (model prog w) A (execs body env) (TurnG h₀ env.locals D I (J (i + 1)) own { s with heap := h, toks := tk } Q) E { s with heap := h, toks := tk })
    (done : ∀ m₁ o nx h tk, J n m₁ o nx → OwnOff nx [D] → Fr h₀ env.locals h m₁ → News h₀ env.locals h ((D, o) :: nx) → Q .next { s with heap := h, toks := tk }) :
    LoopAtV prog w A h₀ env x body Q E (.ref I) s := by
  have hIf : I ∈ fp := W.sub I (List.mem_singleton.mpr rfl)
  have hDI : D ≠ I := fun e => hDf (e ▸ hIf)
  refine ⟨I, fp, [I], n, P, St, m₀, (D, o₀) :: nx₀, fun i m nx2 => ∃ o nx, nx2 = (D, o) :: nx ∧ (∀ p ∈ nx, p.1 ≠ D) ∧ J i m o nx, rfl, W, hLf, ?_, ?_, hst, F, N, ⟨o₀, nx₀, rfl, hnD, hj⟩, ?_, ?_⟩
  · intro b hb; rw [List.mem_singleton.mp hb]; exact hI₀
  · intro p hp hb
    rw [List.mem_singleton] at hb
    rcases List.mem_cons.mp hp with rfl | hp
    · exact hDI hb
    · exact hnI p hp hb
  · rintro i v m₁ nx2 s₁ own ⟨h, tk, rfl⟩ hi hP ⟨o, nx, rfl, hnD, hJ⟩ hoff hown hown2 hall hst' F₁ N₁
    obtain ⟨oI, hoI⟩ := hIo _ _ hst'
    have hmI : (I, oI) ∈ own := hall I hIf hI₀ oI hoI
    have offD : OwnOff (own ++ nx) [D] := by
      intro p hp b hb
      rw [List.mem_singleton.mp hb]
      rcases List.mem_append.mp hp with hp | hp
      · exact fun e => hDf (e ▸ hown p hp)
      · exact hnD p hp
    have N₂ : News h₀ env.locals h ((D, o) :: (own ++ nx)) := fun p hp => N₁ p (by
      simp only [List.mem_cons, List.mem_append] at hp ⊢
      rcases hp with hp | hp | hp <;> simp [hp])
    refine wpAny_mono (turn i v m₁ o nx h tk (own ++ nx) oI hi hP hJ (List.mem_append_left _ hmI) (fun p hp => ⟨List.mem_append_right _ hp, fun e => hoff p (.tail _ hp) (by rw [e]; exact .head _)⟩) offD F₁ N₂) (fun f s₂ p => ?_) fun _ _ e => e
    have fin : (∃ h' tk' m' o' nx' all, s₂ = { ({ s with heap := h, toks := tk } : Shared) with heap := h', toks := tk' } ∧ Fr h₀ env.locals h' m' ∧ News h₀ env.locals h' all ∧ (D, o') ∈ all ∧ (∀ p ∈ own ++ nx, p ∈ all) ∧ (∀ p ∈ nx', p ∈ all ∧ p.1 ≠ I ∧ p.1 ≠ D) ∧ J (i + 1) m' o' nx') →
        LoopStepU h₀ env.locals [I] own (fun m nx2 => ∃ o nx, nx2 = (D, o) :: nx ∧ (∀ p ∈ nx, p.1 ≠ D) ∧ J (i + 1) m o nx) { s with heap := h, toks := tk } .next s₂ := by
      rintro ⟨h', tk', m', o', nx', all, e, F', N', hD', ho, hx, hJ'⟩
      refine ⟨rfl, h', tk', m', (D, o') :: nx', e, F', fun p hp => ?_, fun p hp hb => ?_, o', nx', rfl, fun p hp => (hx p hp).2.2, hJ'⟩
      · rcases List.mem_append.mp hp with hp | hp
        · exact N' p (ho p (List.mem_append_left _ hp))
        · rcases List.mem_cons.mp hp with rfl | hp
          · exact N' _ hD'
          · exact N' p (hx p hp).1
      · rw [List.mem_singleton] at hb
        rcases List.mem_cons.mp hp with rfl | hp
        · exact hDI hb
        · exact (hx p hp).2.1 hb
    cases f with
    | ret v => exact .ret p
    | brk => exact .brk p
    | next => exact .next (fin p)
    | cont => exact .cont (fin p)
  · rintro h' tk m' news' F' N' _ ⟨o, nx, rfl, hnD, hJ⟩
    refine done m' o nx h' tk hJ (fun p hp b hb => ?_) F' N'
    rw [List.mem_singleton.mp hb]; exact hnD p hp
theorem iter_grow {l D : Addr} {o₀ : Obj} {vs : List Value} {m₀ : Str → Option Value} {rest nx₀ : List (Addr × Obj)} (J : Nat → (Str → Option Value) → Obj → List (Addr × Obj) → Prop)
    (hh : A.handled = none) (hls : s.heap.IsList l vs.toArray) (hlL : l ≠ env.locals) (hDl : D ≠ l)
    (F : Fr h₀ env.locals s.heap m₀) (N : News h₀ env.locals s.heap ((D, o₀) :: rest)) (hsub : ∀ p ∈ nx₀, p ∈ rest) (hnD : ∀ p ∈ nx₀, p.1 ≠ D) (hj : J 0 m₀ o₀ nx₀)
    (turn : ∀ i v m₁ o nx I h tk own oI, vs[i]? = some v → J i m₁ o nx → (I, oI) ∈ own → (∀ p ∈ nx, p ∈ own ∧ p.1 ≠ I) → OwnOff own [D] → Fr h₀ env.locals h (fun y => if y = x then some v else m₁ y) → News h₀ env.locals h ((D, o) :: own) →
      wpAny (model prog w) A (execs body env) (TurnG h₀ env.locals D I (J (i + 1)) own { s with heap := h, toks := tk } Q) E { s with heap := h, toks := tk })
    (done : ∀ m₁ o nx h tk, J vs.length m₁ o nx → OwnOff nx [D] → Fr h₀ env.locals h m₁ → News h₀ env.locals h ((D, o) :: nx) → Q .next { s with heap := h, toks := tk }) :
    wpAny (model prog w) A (pyIter (.ref l)) (fun it s₂ => LoopAtV prog w A h₀ env x body Q E it s₂) E s := by
  obtain ⟨ol, hol, _⟩ := id hls
  have hlt : l < s.heap.objs.size := Heap.lt_size hol
  have hne : l ≠ s.heap.objs.size := Nat.ne_of_lt hlt
  have hDs : D < s.heap.objs.size := Heap.lt_size (N _ (.head _)).1
  refine wpAny_pyIter_list hls ?_
  have W := Walks.list (prog := prog) (w := w) hh s.heap.objs.size l hne vs.toArray
  rw [show vs.toArray.size = vs.length by simp] at W
  refine iter_core (s := { s with heap := s.heap.push { cls := .type "list_iterator", data := .fields #[.ref l, .int 0 0] } }) (D := D) (o₀ := o₀) (nx₀ := nx₀) J W ?_ (next_is_new F) ?_ ⟨⟨_, Heap.get?_push_size _ rfl, rfl, rfl⟩, hls.at fun o e => Heap.get?_push_of_some _ e⟩ (fun i h st => by obtain ⟨o, e, _⟩ := st.1; exact ⟨o, e⟩) (F.push _)
    (fun p hp => ?_) (fun p hp => Nat.ne_of_lt (Heap.lt_size (N p (.tail _ (hsub p hp))).1)) hnD hj (fun i v m₁ o nx h tk own oI hi hP hJ hI hnx off F N => turn i v m₁ o nx _ h tk own oI (by simpa using hP) hJ hI hnx off F N) done
  · intro hm
    rcases List.mem_cons.mp hm with e | hm
    · exact absurd F.ns.lt (e ▸ Nat.lt_irrefl _)
    · exact hlL (List.mem_singleton.mp hm).symm
  · intro hm
    rcases List.mem_cons.mp hm with e | hm
    · exact Nat.ne_of_lt hDs e
    · exact hDl (List.mem_singleton.mp hm)
  · have hp' : p ∈ (D, o₀) :: rest := by
      rcases List.mem_cons.mp hp with rfl | hp
      · exact .head _
      · exact .tail _ (hsub p hp)
    exact ⟨Heap.get?_push_of_some _ (N p hp').1, (N p hp').2⟩
/-- the same over a range by ones -/
theorem iter_rangeG {r D : Addr} {o₀ : Obj} {a₀ b₀ : Int} {t₀ u₀ v₀ : Tok} {n : Nat} {m₀ : Str → Option Value} {rest nx₀ : List (Addr × Obj)} (J : Nat → (Str → Option Value) → Obj → List (Addr × Obj) → Prop)
    (hh : A.handled = none) (hr : IsRange s.heap r a₀ b₀ 1 t₀ u₀ v₀) (hsmall : Builtin.Range.small a₀ b₀ 1 = true) (hn : Builtin.Range.rangeSize a₀ b₀ 1 = (n : Int))
    (F : Fr h₀ env.locals s.heap m₀) (N : News h₀ env.locals s.heap ((D, o₀) :: rest)) (hsub : ∀ p ∈ nx₀, p ∈ rest) (hnD : ∀ p ∈ nx₀, p.1 ≠ D) (hj : J 0 m₀ o₀ nx₀)
    (turn : ∀ i t m₁ o nx I h tk own oI, i < n → J i m₁ o nx → (I, oI) ∈ own → (∀ p ∈ nx, p ∈ own ∧ p.1 ≠ I) → OwnOff own [D] → Fr h₀ env.locals h (fun y => if y = x then some (.int (a₀ + (i : Int) * 1) t) else m₁ y) → News h₀ env.locals h ((D, o) :: own) →
      wpAny (model prog w) A (execs body env) (TurnG h₀ env.locals D I (J (i + 1)) own { s with heap := h, toks := tk } Q) E { s with heap := h, toks := tk })
    (done : ∀ m₁ o nx h tk, J n m₁ o nx → OwnOff nx [D] → Fr h₀ env.locals h m₁ → News h₀ env.locals h ((D, o) :: nx) → Q .next { s with heap := h, toks := tk }) :
    wpAny (model prog w) A (pyIter (.ref r)) (fun it s₂ => LoopAtV prog w A h₀ env x body Q E it s₂) E s := by
  have hDs : D < s.heap.objs.size := Heap.lt_size (N _ (.head _)).1
  refine wpAny_pyIter_range hr hsmall ?_
  have W : Walks prog w A s.heap.objs.size [s.heap.objs.size] [s.heap.objs.size] n (fun i v => i < n ∧ ∃ t, v = .int (a₀ + i * 1) t)
      (fun i h => IsRangeIter h s.heap.objs.size (a₀ + (i : Nat) * 1) ((n : Int) - (i : Nat)) 1) := (Walks.range hh _ a₀ 1 n).bound
  have key : ∀ g : Heap, (∀ b o, s.heap.get? b = some o → g.get? b = some o) → IsRangeIter g s.heap.objs.size (a₀ + ((0 : Nat) : Int) * 1) ((n : Int) - ((0 : Nat) : Int)) 1 → Fr h₀ env.locals g m₀ → LoopAtV prog w A h₀ env x body Q E (.ref s.heap.objs.size) { s with heap := g } := by
    intro g up hit Fg
    refine iter_core (s := { s with heap := g }) (D := D) (o₀ := o₀) (nx₀ := nx₀) J W ?_ (next_is_new F) ?_ hit (fun i h st => ⟨_, st⟩) Fg
      (fun p hp => ?_) (fun p hp => Nat.ne_of_lt (Heap.lt_size (N p (.tail _ (hsub p hp))).1)) hnD hj (fun i v m₁ o nx h tk own oI hi hP hJ hI hnx off F N => by
        obtain ⟨hi, t, rfl⟩ := hP
        exact turn i t m₁ o nx _ h tk own oI hi hJ hI hnx off F N) done
    · intro hm
      exact absurd F.ns.lt ((List.mem_singleton.mp hm) ▸ Nat.lt_irrefl _)
    · intro hm
      exact Nat.ne_of_lt hDs (List.mem_singleton.mp hm)
    · have hp' : p ∈ (D, o₀) :: rest := by
        rcases List.mem_cons.mp hp with rfl | hp
        · exact .head _
        · exact .tail _ (hsub p hp)
      exact ⟨up _ _ (N p hp').1, (N p hp').2⟩
  exact key _ (fun b o e => Heap.get?_push_of_some _ e) (by show IsRangeIter _ _ _ _ _; rw [hn]; simpa using Heap.get?_push_size _ rfl) (F.push _)
end
theorem small4 {b : Int} (h0 : 0 ≤ b) (h1 : b < 4) : Builtin.Range.small 0 b 1 = true ∧ Builtin.Range.rangeSize 0 b 1 = ((b.toNat : Nat) : Int) := by
  have h : b = 0 ∨ b = 1 ∨ b = 2 ∨ b = 3 := by omega
  rcases h with rfl | rfl | rfl | rfl <;> decide
local macro_rules | `(tactic| walk_at "mine_go_it") => `(tactic| repeat' ((fail_if_success (with_reducible show wpAny _ _ (pyIter (Value.ref _)) (fun it s₂ => LoopAtV _ _ _ _ _ _ _ _ _ it s₂) _ _)); (first | (k_unfold; (try dsimp only)) | walk1 | (dsimp only; walk1))))
end
section
/-- a place: its folder's names, its last name, line, col, bend -/
structure Pl where
  f : List Str
  b : Str
  l : Int
  c : Int
  d : Int
def Pl.full (p : Pl) : List Str := p.f ++ [p.b]
structure Pl.Ok (p : Pl) : Prop where
  hf : ∀ n ∈ p.f, Nm n
  hl : p.f.length ≤ 3
  hb : Nm p.b
theorem Pl.Ok.names {p : Pl} (h : p.Ok) : ∀ n ∈ p.full, Nm n := fun n hn => by
  rcases List.mem_append.mp hn with hn | hn
  · exact h.hf n hn
  · rw [List.mem_singleton.mp hn]; exact h.hb
theorem Pl.Ok.len {p : Pl} (h : p.Ok) : p.full.length ≤ 20 := by
  have := h.hl
  unfold Pl.full; rw [List.length_append]; simp; omega
/-- the folders before each place -/
def befs (hn : List Str) (pls : List Pl) : List (List Str) := hn :: pls.map (·.f)
def chainL (hn : List Str) (pls : List Pl) : List Str := List.zipWith (fun f p => routeS f (Pl.full p)) (befs hn pls) pls
theorem chainL_len (hn : List Str) (pls : List Pl) : (chainL hn pls).length = pls.length := by simp [chainL, befs]
theorem chainL_at {hn : List Str} {pls : List Pl} {i : Nat} {p : Pl} {f : List Str} (hp : pls[i]? = some p) (hf : (befs hn pls)[i]? = some f) : (chainL hn pls)[i]? = some (routeS f p.full) := by
  unfold chainL
  rw [List.getElem?_zipWith, hf, hp]
theorem befs_next {hn : List Str} {pls : List Pl} {i : Nat} {p : Pl} (hp : pls[i]? = some p) : (befs hn pls)[i + 1]? = some p.f := by
  unfold befs
  rw [List.getElem?_cons_succ, List.getElem?_map, hp]; rfl
theorem dir_full {p : Pl} (h : p.Ok) : dirS (P p.full) = P p.f := dir_P h.hf h.hb.free
theorem base_full {p : Pl} (h : p.Ok) : baseS (P p.full) = p.b := base_P h.hb.free
end
end
section
local macro_rules | `(tactic| walk_at "exec For") => `(tactic| (k_here; (fail_if_success (with_reducible show wpAny _ _ _ _ (fun _ _ => False) _)); refine noE ?_))
local macro_rules | `(tactic| walk_at "exec For Name Name cons nil") => `(tactic| (k_here; (fail_if_success (with_reducible show wpAny _ _ _ _ (fun _ _ => False) _)); refine noE ?_))
local macro_rules | `(tactic| walk_at "exec For Tuple Call cons nil") => `(tactic| (k_here; (fail_if_success (with_reducible show wpAny _ _ _ _ (fun _ _ => False) _)); refine noE ?_))
section
local macro_rules | `(tactic| walk_at "mine_kn") => `(tactic| first | assumption | (simp; done))
section
local macro_rules | `(tactic| walk_at "call ref") => `(tactic| (k_here; k_dflt (refine' wpAny_call (c_alike ?X ?T ?r ?ha ?hb ?hza ?hzb ?_); walk_at "mine_xtr"; (case ha => walk_at "mine_list"); (case hb => walk_at "mine_list"); (case hza => walk_at "mine_fit"); (case hzb => walk_at "mine_fit"); k_whole); intro h' tk tk' st'; walk_at "mine_post"))
section
local macro_rules | `(tactic| walk_at "call ref") => `(tactic| (k_here; k_dflt (refine' wpAny_call (c_route ?X ?T ?r ?ha ?hb ?hza ?hzb ?hkb ?_); walk_at "mine_xtr"; (case ha => walk_at "mine_list"); (case hb => walk_at "mine_list"); (case hza => walk_at "mine_fit"); (case hzb => walk_at "mine_fit"); (case hkb => assumption); k_whole); intro h' tk tk' st'; walk_at "mine_post"))
section
local macro_rules | `(tactic| walk_at "mine_go_it") => `(tactic| repeat' ((fail_if_success (with_reducible show wpAny _ _ (pyIter (Value.ref _)) (fun it s₂ => LoopAtV _ _ _ _ _ _ _ _ _ it s₂) _ _)); (first | (k_unfold; (try dsimp only)) | walk1 | (dsimp only; walk1))))
section
theorem c_dirP {prog : Program} {w : World} {dp un : Nat} {fr : Option (List Env)} {gd : Option (List Code)} {R : Result → Shared → Prop} {s : Shared} {mean : ExcName → Option Value} {mg mb : Str → Option Value} {p : Pl} {t : Tok}
    (X : (tp.heap_39 w.params).In s.heap) (T : Top tp.view_39 [Str.ofString "relpath"] mean mg mb s.heap) (r : Rm dp un 2) (ok : p.Ok)
    (h : ∀ h' tk tk', s.heap.StaysIn h' → R (.ok (.ret (.str (P p.f) tk))) { s with heap := h', toks := tk' }) :
    codeAny (model prog w) (AA dp un fr gd) (.call (.ref 167) ⟨[.str (P p.full) t], []⟩) R s := by
  have h1 := P_len ok.names
  have h2 := ok.len
  refine c_dirname X T r (by omega) ?_
  rw [dir_full ok]
  exact h
theorem c_baseP {prog : Program} {w : World} {dp un : Nat} {fr : Option (List Env)} {gd : Option (List Code)} {R : Result → Shared → Prop} {s : Shared} {mean : ExcName → Option Value} {mg mb : Str → Option Value} {p : Pl} {t : Tok}
    (X : (tp.heap_39 w.params).In s.heap) (T : Top tp.view_39 [Str.ofString "relpath"] mean mg mb s.heap) (r : Rm dp un 2) (ok : p.Ok)
    (h : ∀ h' tk tk', s.heap.StaysIn h' → R (.ok (.ret (.str p.b tk))) { s with heap := h', toks := tk' }) :
    codeAny (model prog w) (AA dp un fr gd) (.call (.ref 160) ⟨[.str (P p.full) t], []⟩) R s := by
  have h1 := P_len ok.names
  have h2 := ok.len
  refine c_basename X T r (by omega) ?_
  rw [base_full ok]
  exact h
local macro_rules | `(tactic| walk_at "call ref") => `(tactic| (k_here; k_dflt (refine' wpAny_call (c_dirP ?X ?T ?r ?ok ?_); walk_at "mine_xtr"; (case ok => assumption); k_whole); intro h' tk tk' st'; walk_at "mine_post"))
local macro_rules | `(tactic| walk_at "call ref") => `(tactic| (k_here; k_dflt (refine' wpAny_call (c_baseP ?X ?T ?r ?ok ?_); walk_at "mine_xtr"; (case ok => assumption); k_whole); intro h' tk tk' st'; walk_at "mine_post"))
def CJ (hn : List Str) (pls : List Pl) (m₀ : Str → Option Value) (i : Nat) (m : Str → Option Value) (o : Obj) (nx : List (Addr × Obj)) : Prop :=
  ∃ (k : List (Str × Tok)) (n : Nat) (t : Tok) (f : List Str), nx = [] ∧ o = listOf (strValues k).toArray n ∧ k.map (·.1) = (chainL hn pls).take i ∧ (befs hn pls)[i]? = some f ∧ m (Str.ofString "folder") = some (.str (P f) t) ∧ ∀ z, z ≠ Str.ofString "path" → z ≠ Str.ofString "folder" → m z = m₀ z
set_option maxHeartbeats 4000000 in
theorem c_chain {prog : Program} {w : World} {dp un : Nat} {fr : Option (List Env)} {gd : Option (List Code)} {R : Result → Shared → Prop} {s : Shared} {mean : ExcName → Option Value} {mg mb : Str → Option Value} {hn : List Str} {pls : List Pl} {kp : List (Str × Tok)} {a : Addr} {t : Tok}
    (X : (tp.heap_39 w.params).In s.heap) (T : Top tp.view_39 [Str.ofString "relpath"] mean mg mb s.heap) (r : Rm dp un 8) (ha : s.heap.IsList a (strValues kp).toArray) (hk : kp.map (·.1) = pls.map fun p => P p.full) (hpl : ∀ p ∈ pls, p.Ok) (hh : ∀ n ∈ hn, Nm n) (hhl : hn.length ≤ 20) (hz : pls.length ≤ 20)
    (h : ∀ h' D k n tk', s.heap.StaysIn h' → h'.get? D = some (listOf (strValues k).toArray n) → s.heap.get? D = none → k.map (·.1) = chainL hn pls → R (.ok (.ret (.ref D))) { s with heap := h', toks := tk' }) :
    codeAny (model prog w) (AA dp un fr gd) (.call (.ref 227) ⟨[.str (P hn) t, .ref a], []⟩) R s := by
  refine' enter [(Str.ofString "here", .str (P hn) t), (Str.ofString "paths", .ref a)] X T ?k6 ?k7 ?k8 ?k9 ?kB ?_ ?c2 ?c3 ?c4 ?c5
  walk_at "mine_in"
  walk_at "mine_go"
  refine noE ?_
  refine For_invV s.heap rfl rfl ?_ (by intro _; rfl) (by passes_own)
  walk_at "mine_go"
  rename Fr _ _ _ _ => F
  rename News _ _ _ _ => N
  have hkl : kp.length = pls.length := by rw [← List.length_map (f := fun x : Str × Tok => x.1), hk, List.length_map]
  obtain ⟨oa, hoa, hoc⟩ := id ha
  refine iter_grow (nx₀ := []) (CJ hn pls _) rfl (Fr.lst F ha) ?_ ?_ F N (fun _ h => nomatch h) (fun _ h => nomatch h) ⟨[], 0, _, hn, rfl, rfl, rfl, rfl, rfl, fun z _ _ => rfl⟩ ?_ ?_
  · exact Nat.ne_of_lt (Nat.lt_of_lt_of_le (Heap.lt_size hoa) F.above)
  · rintro rfl
    have := (N _ (.head _)).2.2
    rw [hoa] at this; cases this
  · clear F N
    rintro i v m₁ o nx I h2 tk2 own oI hv ⟨k, n, t1, f, rfl, rfl, hk1, hf, hm1, hm⟩ hI hnx hoff F N
    obtain ⟨⟨y, ty⟩, hc, rfl⟩ : ∃ c, kp[i]? = some c ∧ v = .str c.1 c.2 := by
      simp only [strValues, List.getElem?_map, Option.map_eq_some_iff] at hv
      obtain ⟨c, h1, h2⟩ := hv
      exact ⟨c, h1, h2.symm⟩
    obtain ⟨p, hp, rfl⟩ : ∃ p, pls[i]? = some p ∧ y = P p.full := by
      have e : (kp.map (·.1))[i]? = some y := by rw [List.getElem?_map, hc]; rfl
      rw [hk, List.getElem?_map, Option.map_eq_some_iff] at e
      obtain ⟨p, h1, h2⟩ := e
      exact ⟨p, h1, h2.symm⟩
    have hpm := List.mem_of_getElem? hp
    have ok := hpl p hpm
    have okn := ok.names
    have okl := ok.len
    have hfn : (∀ n ∈ f, Nm n) ∧ f.length ≤ 20 := by
      rcases List.mem_cons.mp (List.mem_of_getElem? hf) with rfl | hf
      · exact ⟨hh, hhl⟩
      · obtain ⟨q, hq, rfl⟩ := List.mem_map.mp hf
        exact ⟨(hpl q hq).hf, Nat.le_trans (hpl q hq).hl (by decide)⟩
    obtain ⟨hfn, hfl⟩ := hfn
    have hkn : k.length ≤ 100 := by
      have := congrArg List.length hk1
      rw [List.length_map, List.length_take, chainL_len] at this
      omega
    have hkz : (strValues k).toArray.size = k.length := by simp [strValues]
    replace F := Fr.keyed F hm1 hm
    (try dsimp only at F)
    clear hm hm1
    walk_at "mine_go"
    refine TurnG.next (by assumption) (by assumption) (.head _) (fun p hp => .tail _ hp) [] (fun _ h => nomatch h) ⟨k ++ [(routeS f p.full, _)], _, _, p.f, rfl, congrArg (listOf · _) (sv_push _ _ _), ?_, befs_next hp, rfl, fun z h1 h2 => ?_⟩
    · rw [List.take_add_one, chainL_at hp hf, List.map_append, hk1]; rfl
    · simp only [if_neg h1, if_neg h2]
  · clear F N
    rintro m₁ o nx h2 tk2 ⟨k, n, t1, f, rfl, rfl, hk1, hf, hm1, hm⟩ hoff F N
    replace F := Fr.keyed (Fr.self F) hm1 hm
    (try dsimp only at F)
    walk_at "mine_go"
    exact h _ _ _ _ _ (Fr.keep (by assumption)) (N _ (.head _)).1 (N _ (.head _)).2.2 (by rw [hk1, List.take_of_length_le (by rw [chainL_len, sv_len]; omega)])
local macro_rules | `(tactic| walk_at "call ref") => `(tactic| (k_here; k_dflt (refine' wpAny_call (c_chain ?X ?T ?r ?ha ?hk ?hpl ?hh ?hhl ?hz ?_); walk_at "mine_xtr"; (case ha => walk_at "mine_list"); (case hk => assumption); (case hpl => assumption); (case hh => assumption); (case hhl => assumption); (case hz => assumption); k_whole); intro h' D' k' n' tk' st' hD' hn' hk'; (have N' := news_new (by assumption) (by assumption) st' hD' hn'); (have F' := fr_stays (by assumption) st'); (try clear st' hD' hn'); (try k_sweep); (try dsimp only)))
end
section
def noKey (o : Option Obj) (k : Str) : Bool := match o with | some ⟨_, _, .dict es _, _⟩ => (nsFind es k).isNone | _ => false
theorem stat_none (w : World) : noKey ((tp.heap_39 w.params).lookup cStatics) sharingNotToldKey = true := by rfl
theorem booked_none {w : World} {h : Heap} {mean : ExcName → Option Value} {mg mb : Str → Option Value} (X : (tp.heap_39 w.params).In h) (T : Top tp.view_39 [Str.ofString "relpath"] mean mg mb h) : NoneBooked h := by
  obtain ⟨mc, hn, _⟩ := T.nodigits
  refine ⟨mc, hn, ?_⟩
  obtain ⟨o, es, ep, e, hd, _, hf⟩ := hn
  have hs := stat_none w
  rw [← hf]
  cases hl : (tp.heap_39 w.params).lookup cStatics with
  | none => rw [hl] at hs; cases hs
  | some o' =>
    have e2 := X _ _ hl
    rw [e] at e2
    obtain rfl := Option.some.inj e2
    rw [hl] at hs
    obtain ⟨a, b, c, d⟩ := o
    simp only at hd
    subst hd
    simpa [noKey] using hs
theorem rep_len {x z : Str} (hz : z.length ≤ 6) : (Txt.replace x (Str.ofString "/") z).length ≤ 7 * x.length + 7 := by
  rw [sl_is, StrLaws.replace_one]
  have h1 := StrLaws.join_length_le z (Txt.split x ⟨#[47]⟩)
  have h2 := split_weight x ⟨#[47]⟩ (by decide)
  have h3 : (Txt.split x ⟨#[47]⟩).length * z.length ≤ (Txt.split x ⟨#[47]⟩).length * 6 := Nat.mul_le_mul_left _ hz
  omega
theorem rep_call {prog : Program} {w : World} {A : Around} {E : Value → Shared → Prop} {s : Shared} {x z : Str} {t u v : Tok} {Q : Value → Shared → Prop} {mean : ExcName → Option Value} {mg mb : Str → Option Value}
    (X : (tp.heap_39 w.params).In s.heap) (T : Top tp.view_39 [Str.ofString "relpath"] mean mg mb s.heap) (hu : u ≠ 0) (hv : v ≠ 0) (huv : u ≠ v) (hx : x.length ≤ 200) (hz : z.length ≤ 6)
    (hq : ∀ r t' k, r = Txt.replace x (Str.ofString "/") z → r.length ≤ 1500 → Q (.str r t') { s with toks := k }) :
    wpAny (model prog w) A (call (.builtin "str.replace") [.str x t, .str (Str.ofString "/") u, .str z v]) Q E s :=
  SC.replaceW2 200 6 (by decide) hu hv huv hx hz (fun t' k => hq _ t' k rfl (by have := rep_len (x := x) hz; omega)) (booked_none X T)
local macro_rules | `(tactic| walk_at "call builtin:str.replace") => `(tactic| (k_here; k_dflt (refine' rep_call ?X ?T ?hu ?hv ?huv ?hx ?hz ?_; (case X => k_in); (case T => walk_at "mine_top"); (case hu => first | omega | (simp; done) | (simp; omega)); (case hv => first | omega | (simp; done) | (simp; omega)); (case huv => first | omega | (simp; done) | (simp; omega)); (case hx => walk_at "mine_len"); (case hz => decide); k_whole); intro r' t' k' hr' hl'))
end
end
end
end
end
end
section
local macro_rules | `(tactic| walk_at "call builtin:str.replace") => `(tactic| (k_here; k_dflt (refine' rep_call ?X ?T ?hu ?hv ?huv ?hx ?hz ?_; (case X => k_in); (case T => walk_at "mine_top"); (case hu => first | omega | (simp; done) | (simp; omega)); (case hv => first | omega | (simp; done) | (simp; omega)); (case huv => first | omega | (simp; done) | (simp; omega)); (case hx => walk_at "mine_len"); (case hz => decide); k_whole); intro r' t' k' hr' hl'))
section
def bendHead (d : Int) : Str := [Str.ofString "", Str.ofString "./", Str.ofString "q/../"].getD (d.fmod 3).toNat (Str.ofString "")
def bendSep (d : Int) : Str := [Str.ofString "/", Str.ofString "//", Str.ofString "/./", Str.ofString "/q/../"].getD (d.fdiv 3).toNat (Str.ofString "")
set_option maxHeartbeats 4000000 in
theorem c_crooked {prog : Program} {w : World} {dp un : Nat} {fr : Option (List Env)} {gd : Option (List Code)} {R : Result → Shared → Prop} {s : Shared} {mean : ExcName → Option Value} {mg mb : Str → Option Value} {x : Str} {t u : Tok} {d : Int}
    (X : (tp.heap_39 w.params).In s.heap) (T : Top tp.view_39 [Str.ofString "relpath"] mean mg mb s.heap) (r : Rm dp un 2) (h0 : 0 ≤ d) (h1 : d < 12) (hx : x.length ≤ 200)
    (h : ∀ h' tk tk', s.heap.StaysIn h' → R (.ok (.ret (.str (bendHead d ++ Txt.replace x (Str.ofString "/") (bendSep d)) tk))) { s with heap := h', toks := tk' }) :
    codeAny (model prog w) (AA dp un fr gd) (.call (.ref 234) ⟨[.str x t, .int d u], []⟩) R s := by
  refine' enter [(Str.ofString "row", .str x t), (Str.ofString "bend", .int d u)] X T ?k6 ?k7 ?k8 ?k9 ?kB ?_ ?c2 ?c3 ?c4 ?c5
  walk_at "mine_in"
  walk_at "mine_go"
  all_goals
    unfold bendHead bendSep at h
    rename d.fmod 3 = _ => e1
    rename d.fdiv 3 = _ => e2
    rename _ = Txt.replace _ _ _ => e3
    rw [e1, e2] at h
    subst e3
    exact h _ _ _ (Fr.keep (by assumption))
local macro_rules | `(tactic| walk_at "call ref") => `(tactic| (k_here; k_dflt (refine' wpAny_call (c_crooked ?X ?T ?r ?h0 ?h1 ?hx ?_); walk_at "mine_xtr"; (case h0 => assumption); (case h1 => assumption); (case hx => walk_at "mine_len"); k_whole); intro h' tk tk' st'; walk_at "mine_post"))
end
end
section
local macro_rules | `(tactic| walk_at "exec For") => `(tactic| (k_here; (fail_if_success (with_reducible show wpAny _ _ _ _ (fun _ _ => False) _)); refine noE ?_))
local macro_rules | `(tactic| walk_at "exec For Name Name cons nil") => `(tactic| (k_here; (fail_if_success (with_reducible show wpAny _ _ _ _ (fun _ _ => False) _)); refine noE ?_))
local macro_rules | `(tactic| walk_at "exec For Tuple Call cons nil") => `(tactic| (k_here; (fail_if_success (with_reducible show wpAny _ _ _ _ (fun _ _ => False) _)); refine noE ?_))
section
local macro_rules | `(tactic| walk_at "mine_kn") => `(tactic| first | assumption | (simp; done))
section
local macro_rules | `(tactic| walk_at "call ref") => `(tactic| (k_here; k_dflt (refine' wpAny_call (c_line_col ?X ?T ?r ?l ?h1 ?h2 ?h3 ?_); walk_at "mine_xtr"; (case l => walk_at "mine_len"); (case h1 => assumption); (case h2 => assumption); (case h3 => assumption); k_whole); intro h' D' t1 t2 tk' st' hD' hn'; (have N' := news_new (by assumption) (by assumption) st' hD' hn'); (have F' := fr_stays (by assumption) st'); (try clear st' hD' hn'); (try k_sweep); (try dsimp only)))
section
local macro_rules | `(tactic| walk_at "call ref") => `(tactic| (k_here; k_dflt (refine' wpAny_call (c_alike ?X ?T ?r ?ha ?hb ?hza ?hzb ?_); walk_at "mine_xtr"; (case ha => walk_at "mine_list"); (case hb => walk_at "mine_list"); (case hza => walk_at "mine_fit"); (case hzb => walk_at "mine_fit"); k_whole); intro h' tk tk' st'; walk_at "mine_post"))
section
local macro_rules | `(tactic| walk_at "call ref") => `(tactic| (k_here; k_dflt (refine' wpAny_call (c_route ?X ?T ?r ?ha ?hb ?hza ?hzb ?hkb ?_); walk_at "mine_xtr"; (case ha => walk_at "mine_list"); (case hb => walk_at "mine_list"); (case hza => walk_at "mine_fit"); (case hzb => walk_at "mine_fit"); (case hkb => assumption); k_whole); intro h' tk tk' st'; walk_at "mine_post"))
section
local macro_rules | `(tactic| walk_at "mine_go_it") => `(tactic| repeat' ((fail_if_success (with_reducible show wpAny _ _ (pyIter (Value.ref _)) (fun it s₂ => LoopAtV _ _ _ _ _ _ _ _ _ it s₂) _ _)); (first | (k_unfold; (try dsimp only)) | walk1 | (dsimp only; walk1))))
section
local macro_rules | `(tactic| walk_at "call ref") => `(tactic| (k_here; k_dflt (refine' wpAny_call (c_dirP ?X ?T ?r ?ok ?_); walk_at "mine_xtr"; (case ok => assumption); k_whole); intro h' tk tk' st'; walk_at "mine_post"))
local macro_rules | `(tactic| walk_at "call ref") => `(tactic| (k_here; k_dflt (refine' wpAny_call (c_baseP ?X ?T ?r ?ok ?_); walk_at "mine_xtr"; (case ok => assumption); k_whole); intro h' tk tk' st'; walk_at "mine_post"))
local macro_rules | `(tactic| walk_at "call ref") => `(tactic| (k_here; k_dflt (refine' wpAny_call (c_chain ?X ?T ?r ?ha ?hk ?hpl ?hh ?hhl ?hz ?_); walk_at "mine_xtr"; (case ha => walk_at "mine_list"); (case hk => assumption); (case hpl => assumption); (case hh => assumption); (case hhl => assumption); (case hz => assumption); k_whole); intro h' D' k' n' tk' st' hD' hn' hk'; (have N' := news_new (by assumption) (by assumption) st' hD' hn'); (have F' := fr_stays (by assumption) st'); (try clear st' hD' hn'); (try k_sweep); (try dsimp only)))
section
theorem Fr.keyed3 {h₀ h : Heap} {L : Addr} {m₁ m₀ : Str → Option Value} {x y p : Str} {v u : Option Value} (F : Fr h₀ L h (fun z => if z = x then v else m₁ z)) (hy : m₁ y = u) (hm : ∀ z, z ≠ x → z ≠ y → z ≠ p → m₁ z = m₀ z) :
    Fr h₀ L h (fun z => if z = x then v else if z = y then u else if z = p then m₁ p else m₀ z) := by
  have e : (fun z => if z = x then v else m₁ z) = fun z => if z = x then v else if z = y then u else if z = p then m₁ p else m₀ z := by
    funext z
    by_cases h : z = x
    · simp [h]
    · by_cases h2 : z = y
      · subst h2; simp [h, hy]
      · by_cases h3 : z = p
        · subst h3; simp [h, h2]
        · simp only [if_neg h, if_neg h2, if_neg h3]; exact hm z h h2 h3
  rwa [e] at F
/-- the path y, made straight, is that of the names ns -/
def Norms (y : Str) (ns : List Str) : Prop := ∃ z, y = Str.ofString "/" ++ z ∧ NH z ∧ y.length ≤ 1000 ∧ normL (Txt.split z (Str.ofString "/")) = ns
def Hangs (f : List Str) (row : Str) (ns : List Str) : Prop := row.length ≤ 200 ∧ Norms (joinS (P f) [row]) ns
def LC (p : Pl) : Prop := p.b.length ≤ 640 ∧ ∃ l c, Txt.split p.b (Str.ofString ".") = [l, c] ∧ PySem.intText? l = some p.l ∧ PySem.intText? c = some p.c
theorem c_joinH {prog : Program} {w : World} {dp un : Nat} {fr : Option (List Env)} {gd : Option (List Code)} {R : Result → Shared → Prop} {s : Shared} {mean : ExcName → Option Value} {mg mb : Str → Option Value} {a b y : Str} {t u : Tok}
    (X : (tp.heap_39 w.params).In s.heap) (T : Top tp.view_39 [Str.ofString "relpath"] mean mg mb s.heap) (r : Rm dp un 2) (ha : a.length ≤ 1000) (hb : b.length ≤ 200) (hy : joinS a [b] = y)
    (h : ∀ h' tk tk', s.heap.StaysIn h' → R (.ok (.ret (.str y tk))) { s with heap := h', toks := tk' }) :
    codeAny (model prog w) (AA dp un fr gd) (.call (.ref 136) ⟨[.str a t, .str b u], []⟩) R s := by
  subst hy
  exact c_join (ks := [(b, u)]) X T r ha (by simp) (fun p hp => by simp at hp; rw [hp]; exact hb) (by simp) h
theorem c_normH {prog : Program} {w : World} {dp un : Nat} {fr : Option (List Env)} {gd : Option (List Code)} {R : Result → Shared → Prop} {s : Shared} {mean : ExcName → Option Value} {mg mb : Str → Option Value} {y : Str} {ns : List Str} {t : Tok}
    (X : (tp.heap_39 w.params).In s.heap) (T : Top tp.view_39 [Str.ofString "relpath"] mean mg mb s.heap) (r : Rm dp un 3) (hy : Norms y ns)
    (h : ∀ h' tk tk', s.heap.StaysIn h' → R (.ok (.ret (.str (P ns) tk))) { s with heap := h', toks := tk' }) :
    codeAny (model prog w) (AA dp un fr gd) (.call (.ref 174) ⟨[.str y t], []⟩) R s := by
  obtain ⟨z, rfl, hz, hl, rfl⟩ := hy
  refine c_normpath X T r hl (by rw [Str.length_append, len_sl]; omega) (slice_head _) (slice_next hz) ?_
  rw [normS_sl]
  exact h
local macro_rules | `(tactic| walk_at "call ref") => `(tactic| (k_here; k_dflt (refine' wpAny_call (c_joinH ?X ?T ?r ?ha ?hb ?hy ?_); walk_at "mine_xtr"; (case ha => walk_at "mine_len"); (case hb => walk_at "mine_len"); (case hy => assumption); k_whole); intro h' tk tk' st'; walk_at "mine_post"))
local macro_rules | `(tactic| walk_at "call ref") => `(tactic| (k_here; k_dflt (refine' wpAny_call (c_normH ?X ?T ?r ?hy ?_); walk_at "mine_xtr"; (case hy => assumption); k_whole); intro h' tk tk' st'; walk_at "mine_post"))
def AllNe (d : Nat) : List (Addr × Obj) → Prop
  | [] => True
  | p :: r => (@Ne Nat p.1 d) ∧ AllNe d r
theorem allNe_of {h₀ h : Heap} {L D : Addr} {news : List (Addr × Obj)} (N : News h₀ L h news) (hn : h.get? D = none) : AllNe D news := by
  induction news with
  | nil => trivial
  | cons p r ih =>
    refine ⟨fun e => ?_, ih fun q hq => N q (.tail _ hq)⟩
    have h1 := (N p (.head _)).1
    rw [show p.1 = D from e, hn] at h1
    cases h1
theorem AllNe.mem {d : Nat} {l : List (Addr × Obj)} (h : AllNe d l) : ∀ p ∈ l, p.1 ≠ d := by
  induction l with
  | nil => intro p hp; cases hp
  | cons q r ih =>
    intro p hp
    rcases List.mem_cons.mp hp with rfl | hp
    · exact h.1
    · exact ih h.2 p hp
theorem AllLt.mem {d : Nat} {l : List (Addr × Obj)} (h : AllLt d l) : ∀ p ∈ l, p.1 ≠ d := by
  induction l with
  | nil => intro p hp; cases hp
  | cons q r ih =>
    intro p hp
    rcases List.mem_cons.mp hp with rfl | hp
    · exact Nat.ne_of_lt h.1
    · exact ih h.2 p hp
local macro_rules | `(tactic| walk_at "call ref") => `(tactic| (k_here; k_dflt (refine' wpAny_call (c_line_col ?X ?T ?r ?l ?h1 ?h2 ?h3 ?_); walk_at "mine_xtr"; (case l => walk_at "mine_len"); (case h1 => assumption); (case h2 => assumption); (case h3 => assumption); k_whole); intro h' D' t1 t2 tk' st' hD' hn'; (have l' := allNe_of (by assumption) hn'); (simp only [AllNe, and_true] at l'); (have N' := news_new (by assumption) (by assumption) st' hD' hn'); (have F' := fr_stays (by assumption) st'); (try clear st' hD' hn'); (try k_sweep); (try dsimp only)))
abbrev tupO (vs : Array Value) : Obj := { cls := .type "tuple", data := .seq vs }
def ToldIn (nx : List (Addr × Obj)) (vs : List Value) (pls : List Pl) : Prop :=
  ∀ (j : Nat) (v : Value), vs[j]? = some v → ∃ p T q t1 t2 t3, pls[j]? = some p ∧ v = .ref T ∧ (T, tupO #[.str (P p.f) t1, .ref q]) ∈ nx ∧ (q, tupO #[.int p.l t2, .int p.c t3]) ∈ nx
theorem ToldIn.nil {nx : List (Addr × Obj)} {pls : List Pl} : ToldIn nx [] pls := fun j v h => by simp at h
theorem ToldIn.more {nx nx' : List (Addr × Obj)} {vs : List Value} {pls : List Pl} (h : ToldIn nx vs pls) (hs : ∀ p ∈ nx, p ∈ nx') : ToldIn nx' vs pls := fun j v hv => by
  obtain ⟨p, T, q, t1, t2, t3, e1, e2, e3, e4⟩ := h j v hv
  exact ⟨p, T, q, t1, t2, t3, e1, e2, hs _ e3, hs _ e4⟩
theorem ToldIn.snoc {nx nx' : List (Addr × Obj)} {vs : List Value} {pls : List Pl} {p : Pl} {T q : Addr} {t1 t2 t3 : Tok} (h : ToldIn nx vs pls) (hs : ∀ p ∈ nx, p ∈ nx') (hp : pls[vs.length]? = some p) (h1 : (T, tupO #[.str (P p.f) t1, .ref q]) ∈ nx') (h2 : (q, tupO #[.int p.l t2, .int p.c t3]) ∈ nx') :
    ToldIn nx' (vs ++ [.ref T]) pls := fun j v hv => by
  by_cases hj : j < vs.length
  · rw [List.getElem?_append_left hj] at hv
    exact (h.more hs) j v hv
  · have e : j = vs.length := by
      have := (List.getElem?_eq_some_iff.mp hv).1
      simp at this; omega
    subst e
    rw [List.getElem?_append_right (Nat.le_refl _), Nat.sub_self] at hv
    cases hv
    exact ⟨p, T, q, t1, t2, t3, hp, rfl, h1, h2⟩
theorem TurnG.next2 {h₀ h' : Heap} {L D I : Addr} {o' : Obj} {J : (Str → Option Value) → Obj → List (Addr × Obj) → Prop} {a b : Addr × Obj} {own nx : List (Addr × Obj)} {s₁ : Shared} {Q : Flow → Shared → Prop} {m' : Str → Option Value} {tk : Nat}
    (F : Fr h₀ L h' m') (N : News h₀ L h' (a :: b :: (D, o') :: own)) (hnx : ∀ p ∈ nx, p ∈ own ∧ p.1 ≠ I) (hoff : OwnOff own [D]) (ha : a.1 ≠ I ∧ a.1 ≠ D) (hb : b.1 ≠ I ∧ b.1 ≠ D) (hj : J m' o' (a :: b :: nx)) : TurnG h₀ L D I J own s₁ Q .next { s₁ with heap := h', toks := tk } :=
  TurnG.next F N (.tail _ (.tail _ (.head _))) (fun p hp => .tail _ (.tail _ (.tail _ hp))) (a :: b :: nx) (fun p hp => by
    rcases List.mem_cons.mp hp with rfl | hp
    · exact ⟨.head _, ha⟩
    · rcases List.mem_cons.mp hp with rfl | hp
      · exact ⟨.tail _ (.head _), hb⟩
      · exact ⟨.tail _ (.tail _ (.tail _ (hnx p hp).1)), (hnx p hp).2, hoff p (hnx p hp).1 _ (.head _)⟩) hj
def RJ (hn : List Str) (pls : List Pl) (m₀ : Str → Option Value) (i : Nat) (m : Str → Option Value) (o : Obj) (nx : List (Addr × Obj)) : Prop :=
  ∃ (vs : List Value) (n : Nat) (t : Tok) (f : List Str), o = listOf vs.toArray n ∧ vs.length = i ∧ ToldIn nx vs pls ∧ (befs hn pls)[i]? = some f ∧ m (Str.ofString "folder") = some (.str (P f) t) ∧ ∀ z, z ≠ Str.ofString "row" → z ≠ Str.ofString "folder" → z ≠ Str.ofString "path" → m z = m₀ z
set_option maxHeartbeats 4000000 in
theorem c_read {prog : Program} {w : World} {dp un : Nat} {fr : Option (List Env)} {gd : Option (List Code)} {R : Result → Shared → Prop} {s : Shared} {mean : ExcName → Option Value} {mg mb : Str → Option Value} {hn : List Str} {pls : List Pl} {kr : List (Str × Tok)} {a : Addr} {t : Tok}
    (X : (tp.heap_39 w.params).In s.heap) (T : Top tp.view_39 [Str.ofString "relpath"] mean mg mb s.heap) (r : Rm dp un 8) (ha : s.heap.IsList a (strValues kr).toArray) (hk : kr.length = pls.length)
    (hr : ∀ (i : Nat) (f : List Str) (p : Pl) (row : Str), (befs hn pls)[i]? = some f → pls[i]? = some p → (kr.map (·.1))[i]? = some row → Hangs f row p.full) (hlc : ∀ p ∈ pls, LC p)
    (hpl : ∀ p ∈ pls, p.Ok) (hh : ∀ n ∈ hn, Nm n) (hhl : hn.length ≤ 20) (hz : pls.length ≤ 20)
    (h : ∀ h' D vs n own tk', s.heap.StaysIn h' → (D, listOf vs.toArray n) ∈ own → (∀ p ∈ own, h'.get? p.1 = some p.2 ∧ s.heap.get? p.1 = none) → vs.length = pls.length → ToldIn own vs pls → R (.ok (.ret (.ref D))) { s with heap := h', toks := tk' }) :
    codeAny (model prog w) (AA dp un fr gd) (.call (.ref 241) ⟨[.str (P hn) t, .ref a], []⟩) R s := by
  refine' enter [(Str.ofString "here", .str (P hn) t), (Str.ofString "chain", .ref a)] X T ?k6 ?k7 ?k8 ?k9 ?kB ?_ ?c2 ?c3 ?c4 ?c5
  walk_at "mine_in"
  walk_at "mine_go"
  refine noE ?_
  refine For_invV s.heap rfl rfl ?_ (by intro _; rfl) (by passes_own)
  walk_at "mine_go"
  rename Fr _ _ _ _ => F
  rename News _ _ _ _ => N
  obtain ⟨oa, hoa, hoc⟩ := id ha
  refine iter_grow (nx₀ := []) (RJ hn pls _) rfl (Fr.lst F ha) ?_ ?_ F N (fun _ h => nomatch h) (fun _ h => nomatch h) ⟨[], 0, _, hn, rfl, rfl, .nil, rfl, rfl, fun z _ _ _ => rfl⟩ ?_ ?_
  · exact Nat.ne_of_lt (Nat.lt_of_lt_of_le (Heap.lt_size hoa) F.above)
  · rintro rfl
    have := (N _ (.head _)).2.2
    rw [hoa] at this; cases this
  · clear F N
    rintro i v m₁ o nx I h2 tk2 own oI hv ⟨vs, n, t1, f, rfl, hvs, htl, hf, hm1, hm⟩ hI hnx hoff F N
    obtain ⟨⟨y, ty⟩, hc, rfl⟩ : ∃ c, kr[i]? = some c ∧ v = .str c.1 c.2 := by
      simp only [strValues, List.getElem?_map, Option.map_eq_some_iff] at hv
      obtain ⟨c, h1, h2⟩ := hv
      exact ⟨c, h1, h2.symm⟩
    have hi : i < pls.length := by have := (List.getElem?_eq_some_iff.mp hc).1; omega
    obtain ⟨p, hp⟩ : ∃ p, pls[i]? = some p := ⟨_, List.getElem?_eq_getElem hi⟩
    have hy : (kr.map (·.1))[i]? = some y := by rw [List.getElem?_map, hc]; rfl
    have hpm := List.mem_of_getElem? hp
    have ok := hpl p hpm
    obtain ⟨hyl, hnm⟩ := hr i f p y hf hp hy
    obtain ⟨hbl, lt, ct, hsp, hlt, hct⟩ := hlc p hpm
    have hfn : (∀ n ∈ f, Nm n) ∧ f.length ≤ 20 := by
      rcases List.mem_cons.mp (List.mem_of_getElem? hf) with rfl | hf
      · exact ⟨hh, hhl⟩
      · obtain ⟨q, hq, rfl⟩ := List.mem_map.mp hf
        exact ⟨(hpl q hq).hf, Nat.le_trans (hpl q hq).hl (by decide)⟩
    obtain ⟨hfn, hfl⟩ := hfn
    have hPf := P_len hfn
    have hPl : (P f).length ≤ 1000 := by omega
    have hvz : vs.toArray.size ≤ 20 := by rw [List.size_toArray]; omega
    obtain ⟨yj, hyj⟩ : ∃ yj, joinS (P f) [y] = yj := ⟨_, rfl⟩
    rw [hyj] at hnm
    replace F := Fr.keyed3 F hm1 hm
    (try dsimp only at F)
    clear hm hm1
    walk_at "mine_go"
    rename Fr _ _ _ _ => F
    rename News _ _ _ _ => N
    rename _ ∧ _ ∧ AllLt _ own => hl1
    rename _ ∧ AllNe _ own => hl2
    refine TurnG.next2 F N hnx hoff ⟨Ne.symm (AllLt.mem hl1.2.2 _ hI), Nat.ne_of_gt hl1.2.1⟩ ⟨Ne.symm (AllNe.mem hl2.2 _ hI), Ne.symm hl2.1⟩ ⟨vs ++ [_], _, _, p.f, congrArg (listOf · _) (by rw [List.push_toArray]), by simp [hvs], htl.snoc (fun p hp => .tail _ (.tail _ hp)) (hvs ▸ hp) (.head _) (.tail _ (.head _)), befs_next hp, rfl, fun z h1 h2 h3 => ?_⟩
    · simp only [if_neg h1, if_neg h2, if_neg h3]
  · clear F N
    rintro m₁ o nx h2 tk2 ⟨vs, n, t1, f, rfl, hvs, htl, hf, hm1, hm⟩ hoff F N
    replace F := Fr.keyed3 (p := Str.ofString "path") (Fr.self F) hm1 hm
    (try dsimp only at F)
    walk_at "mine_go"
    rw [sv_len] at hvs
    exact h _ _ vs _ _ _ (Fr.keep (by assumption)) (.head _) (fun p hp => ⟨(N p hp).1, (N p hp).2.2⟩) (hvs.trans hk) (htl.more fun p hp => .tail _ hp)
theorem own_ne {h₀ h h' : Heap} {L : Addr} {news own : List (Addr × Obj)} (N : News h₀ L h news) (ho : ∀ p ∈ own, h'.get? p.1 = some p.2 ∧ h.get? p.1 = none) : ∀ p ∈ own, ∀ q ∈ news, p.1 ≠ q.1 := fun p hp q hq e => by
  have h1 := (ho p hp).2
  rw [e, (N q hq).1] at h1
  cases h1
theorem news_more {h₀ h h' : Heap} {L : Addr} {m : Str → Option Value} {news own : List (Addr × Obj)} (F : Fr h₀ L h m) (N : News h₀ L h news) (st : h.StaysIn h') (ho : ∀ p ∈ own, h'.get? p.1 = some p.2 ∧ h.get? p.1 = none) : News h₀ L h' (own ++ news) := by
  intro p hp
  rcases List.mem_append.mp hp with hp | hp
  · obtain ⟨h1, h2⟩ := ho p hp
    refine ⟨h1, ?_, ?_⟩
    · intro e
      obtain ⟨oL, _, _, hL, _⟩ := F.ns
      rw [e, hL] at h2; cases h2
    · cases q : h₀.get? p.1 with
      | none => rfl
      | some o' => rw [F.keep _ _ q] at h2; cases h2
  · exact news_stays N st p hp
local macro_rules | `(tactic| walk_at "mine_hangs") => `(tactic| assumption)
local macro_rules | `(tactic| walk_at "call ref") => `(tactic| (k_here; k_dflt (refine' wpAny_call (c_read ?X ?T ?r ?ha ?hk ?hr ?hlc ?hpl ?hh ?hhl ?hz ?_); walk_at "mine_xtr"; (case ha => walk_at "mine_list"); (case hr => walk_at "mine_hangs"); (case hk => assumption); (case hlc => assumption); (case hpl => assumption); (case hh => assumption); (case hhl => assumption); (case hz => assumption); k_whole); intro h' D' vs' n' own' tk' st' hD' hn' hvs' htl'; (have l' := own_ne (by assumption) hn'); (have N' := news_more (by assumption) (by assumption) st' hn'); (have F' := fr_stays (by assumption) st'); (try clear st' hn'); (try k_sweep); (try dsimp only)))
end
section
open LCg
def ElEnd (h₀ : Heap) (L : Addr) (m : Str → Option Value) (s₁ : Shared) (I : Addr) (oI : Obj) (C : Addr) (oC : Obj) (D : Addr) (oD : Obj) (nx : List (Addr × Obj)) (K : Value → List (Addr × Obj) → Prop) (y : Value) (s₂ : Shared) : Prop :=
  ∃ h' tk own, s₂ = { s₁ with heap := h', toks := tk } ∧ Fr h₀ L h' m ∧ News h₀ L h' ((I, oI) :: (C, oC) :: (D, oD) :: (own ++ nx)) ∧ Off3 I C D own ∧ K y (own ++ nx)
theorem ElEnd.none {h₀ h' : Heap} {L I C D : Addr} {oI oC oD : Obj} {m : Str → Option Value} {s₁ : Shared} {nx all : List (Addr × Obj)} {K : Value → List (Addr × Obj) → Prop} {y : Value} {tk : Nat}
    (F : Fr h₀ L h' m) (N : News h₀ L h' all) (sub : ∀ p ∈ (I, oI) :: (C, oC) :: (D, oD) :: nx, p ∈ all) (hk : K y nx) : ElEnd h₀ L m s₁ I oI C oC D oD nx K y { s₁ with heap := h', toks := tk } :=
  ⟨h', tk, [], rfl, F, fun p hp => N p (sub p hp), trivial, hk⟩
theorem ElEnd.some {h₀ h' : Heap} {L I C D : Addr} {oI oC oD : Obj} {m : Str → Option Value} {s₁ : Shared} {nx all : List (Addr × Obj)} {K : Value → List (Addr × Obj) → Prop} {y : Value} {tk : Nat} (own : List (Addr × Obj))
    (F : Fr h₀ L h' m) (N : News h₀ L h' all) (sub : ∀ p ∈ (I, oI) :: (C, oC) :: (D, oD) :: (own ++ nx), p ∈ all) (off : Off3 I C D own) (hk : K y (own ++ nx)) : ElEnd h₀ L m s₁ I oI C oC D oD nx K y { s₁ with heap := h', toks := tk } :=
  ⟨h', tk, own, rfl, F, fun p hp => N p (sub p hp), off, hk⟩
theorem off3_app {I C D : Addr} {a b : List (Addr × Obj)} (h : Off3 I C D a) (g : Off3 I C D b) : Off3 I C D (a ++ b) := Off3.of fun p hp => (List.mem_append.mp hp).elim (h.mem p) (g.mem p)
theorem srcAt_more {h₀ : Heap} {ax : Addr} {its : Array Value} {nx nx' : List (Addr × Obj)} (h : SrcAt h₀ ax its nx) (hs : ∀ p ∈ nx, p ∈ nx') : SrcAt h₀ ax its nx' := by
  rcases h with h | ⟨o, hm, r⟩
  · exact .inl h
  · exact .inr ⟨o, hs _ hm, r⟩
/-- a comprehension over a list: what each item is -/
theorem src_el {prog : Program} {w : World} {A : Around} {E : Value → Shared → Prop} {s : Shared} {h₀ : Heap} {L : Addr} {m : Str → Option Value} {env : Env} {elt : Expr} {x : Str} {scope : Scope} {cl : List (Str × Addr)} {Fin : Shared → List Value → List (Addr × Obj) → Prop} {ax : Addr} {vs : List Value} {nx : List (Addr × Obj)}
    (El : Nat → Value → List (Addr × Obj) → Prop) (hmono : ∀ i y nx nx', (∀ p ∈ nx, p ∈ nx') → El i y nx → El i y nx')
    (hh : A.handled = none) (F : Fr h₀ L s.heap m) (N : News h₀ L s.heap nx) (S : SrcAt h₀ ax vs.toArray nx) (hsz : vs.length ≤ 100000)
    (turn : ∀ i v I oI C oC D m₂ ys nx' h tk (E' : Value → Shared → Prop), vs[i]? = some v → (∀ p ∈ nx, p ∈ nx') → NsObj oC m₂ → m₂ x = some v → Fr h₀ L h m → News h₀ L h ((I, oI) :: (C, oC) :: (D, lst ys) :: nx') → Off3 I C D nx' → ((@Ne Nat I C) ∧ (@Ne Nat I D) ∧ (@Ne Nat C D)) →
      wpAny (model prog w) A (eval elt (compEnvC scope cl C env)) (ElEnd h₀ L m { s with heap := h, toks := tk } I oI C oC D (lst ys) nx' (El i)) E' { s with heap := h, toks := tk })
    (fin : ∀ g tk ys nx', (∀ p ∈ nx, p ∈ nx') → ys.length = vs.length → (∀ (j : Nat) y, ys[j]? = some y → El j y nx') → Fin { s with heap := g, toks := tk } ys nx') :
    wpAny (model prog w) A (pyIter (.ref ax)) (SrcW prog w A h₀ L m env elt x scope cl Fin) E s := by
  refine src_lst hh F N S hsz fun g tk => rest_inv (fun i ys nx' => (∀ p ∈ nx, p ∈ nx') ∧ ys.length = i ∧ ∀ (j : Nat) y, ys[j]? = some y → El j y nx') ⟨fun _ h => h, rfl, fun j y h => by simp at h⟩ ?_ ?_
  · rintro i v I oI C oC D m₂ ys nx' h tk2 E' hi hv ⟨hsub, hl, hel⟩ hC hx F N off ne
    refine wpAny_mono (turn i v I oI C oC D m₂ ys nx' h tk2 E' hv hsub hC hx F N off ne) (fun y s₂ hq => ?_) fun _ _ e => e
    obtain ⟨h', tk', own, e, F', N', off', hK⟩ := hq
    refine ⟨h', tk', own ++ nx', e, F', N', off3_app off' off, srcAt_more S fun p hp => List.mem_append_right _ (hsub p hp), fun p hp => List.mem_append_right _ (hsub p hp), by rw [List.length_append, hl]; rfl, fun j y' hj => ?_⟩
    by_cases c : j < ys.length
    · rw [List.getElem?_append_left c] at hj
      exact hmono _ _ _ _ (fun p hp => List.mem_append_right _ hp) (hel j y' hj)
    · have e2 : j = ys.length := by
        have := (List.getElem?_eq_some_iff.mp hj).1
        simp at this; omega
      subst e2
      rw [List.getElem?_append_right (Nat.le_refl _), Nat.sub_self] at hj
      cases hj
      rw [hl]; exact hK
  · rintro ys nx' ⟨hsub, hl, hel⟩
    exact fin g tk ys nx' hsub hl hel
def IRes (g : Heap) (L : Addr) (m : Str → Option Value) (news : List (Addr × Obj)) (ns : List Int) (s₁ : Shared) (v : Value) (s' : Shared) : Prop :=
  ∃ h' a vs tk' all, v = .ref a ∧ s' = { s₁ with heap := h', toks := tk' } ∧ Fr g L h' m ∧ News g L h' all ∧ (∀ p ∈ news, p ∈ all) ∧ (∃ c, (a, listOf vs.toArray c) ∈ all) ∧ (∀ p ∈ news, p.1 ≠ a) ∧ IntsAre vs ns
/-- an expression that hands back a new list of ints on every way: one way behind it -/
theorem cut_ints {prog : Program} {w : World} {A : Around} {E : Value → Shared → Prop} {s : Shared} {g : Heap} {L : Addr} {m : Str → Option Value} {news : List (Addr × Obj)} {tree : Sem Value} {Q : Value → Shared → Prop} (ns : List Int)
    (F : Fr g L s.heap m) (N : News g L s.heap news) (h1 : wpAny (model prog w) A tree (IRes g L m news ns s) E s)
    (h2 : ∀ h' a vs tk' c, Fr g L h' m → News g L h' ((a, listOf vs.toArray c) :: news) → (∀ p ∈ news, p.1 ≠ a) → IntsAre vs ns → Q (.ref a) { s with heap := h', toks := tk' }) : wpAny (model prog w) A tree Q E s :=
  let _ := F; let _ := N
  wpAny_mono h1 (fun _ _ ⟨h', a, vs, tk', all, e1, e2, F', N', hs, ⟨c, hm⟩, hne, e3⟩ => by
    subst e1 e2
    refine h2 h' a vs tk' c F' (fun p hp => ?_) hne e3
    rcases List.mem_cons.mp hp with rfl | hp
    · exact N' _ hm
    · exact N' _ (hs p hp)) fun _ _ e => e
local macro_rules | `(tactic| walk_at "mine_go_bo") => `(tactic| repeat' ((fail_if_success (with_reducible show wpAny _ _ (eval (Expr.BoolOp _ _ _) _) _ _ _)); (first | (k_unfold; (try dsimp only)) | walk1 | (dsimp only; walk1))))
end
end
end
end
end
section
local macro_rules | `(tactic| walk_at "truthy ref") => `(tactic| (k_here; (with_reducible show wpAny _ _ (truthy (Value.ref _)) _ _ _); k_dflt (refine' tup_truthy (vs := (_ :: _)) ?hl ?hf ?_; (case hl => exact News.isTup (by k_asm) (by k_mem)); (case hf => walk_at "mine_fit"); k_whole); (try simp only [List.isEmpty_cons, Bool.not_false, Bool.not_true])))
local macro_rules | `(tactic| walk_at "subscriptTail Name Constant ref int") => `(tactic| (k_here; (with_reducible show wpAny _ _ (subscriptTail _ _ (Value.ref _) (Value.int _ _)) _ _ _); k_dflt (refine' tup_item ?hl ?h0 ?h2 ?hf ?_; (case hl => exact News.isTup (by k_asm) (by k_mem)); (case h0 => decide); (case h2 => decide); (case hf => exact rfl); k_whole)))
section
local macro_rules | `(tactic| walk_at "exec Assign cons ListComp") => `(tactic| (k_here; k_dflt (refine Assign_ListComp_V (by k_asm) (by rfl) (by with_unfolding_all rfl) (by with_unfolding_all rfl) (by decide) (by rfl) (by decide) (by rfl) (by rfl) (by rfl) ?_)))
local macro_rules | `(tactic| walk_at "eval ListComp") => `(tactic| (k_here; k_dflt (refine ListComp_V (by k_asm) (by with_unfolding_all rfl) (by decide) (by rfl) (by decide) (by rfl) ?_)))
section
local macro_rules | `(tactic| walk_at "call ref") => `(tactic| (k_here; k_dflt (refine' wpAny_call (c_alike ?X ?T ?r ?ha ?hb ?hza ?hzb ?_); walk_at "mine_xtr"; (case ha => walk_at "mine_list"); (case hb => walk_at "mine_list"); (case hza => walk_at "mine_fit"); (case hzb => walk_at "mine_fit"); k_whole); intro h' tk tk' st'; walk_at "mine_post"))
section
local macro_rules | `(tactic| walk_at "call ref") => `(tactic| (k_here; k_dflt (refine' wpAny_call (c_route ?X ?T ?r ?ha ?hb ?hza ?hzb ?hkb ?_); walk_at "mine_xtr"; (case ha => walk_at "mine_list"); (case hb => walk_at "mine_list"); (case hza => walk_at "mine_fit"); (case hzb => walk_at "mine_fit"); (case hkb => assumption); k_whole); intro h' tk tk' st'; walk_at "mine_post"))
section
local macro_rules | `(tactic| walk_at "mine_go_it") => `(tactic| repeat' ((fail_if_success (with_reducible show wpAny _ _ (pyIter (Value.ref _)) (fun it s₂ => LoopAtV _ _ _ _ _ _ _ _ _ it s₂) _ _)); (first | (k_unfold; (try dsimp only)) | walk1 | (dsimp only; walk1))))
section
local macro_rules | `(tactic| walk_at "call ref") => `(tactic| (k_here; k_dflt (refine' wpAny_call (c_dirP ?X ?T ?r ?ok ?_); walk_at "mine_xtr"; (case ok => assumption); k_whole); intro h' tk tk' st'; walk_at "mine_post"))
local macro_rules | `(tactic| walk_at "call ref") => `(tactic| (k_here; k_dflt (refine' wpAny_call (c_baseP ?X ?T ?r ?ok ?_); walk_at "mine_xtr"; (case ok => assumption); k_whole); intro h' tk tk' st'; walk_at "mine_post"))
local macro_rules | `(tactic| walk_at "call ref") => `(tactic| (k_here; k_dflt (refine' wpAny_call (c_chain ?X ?T ?r ?ha ?hk ?hpl ?hh ?hhl ?hz ?_); walk_at "mine_xtr"; (case ha => walk_at "mine_list"); (case hk => assumption); (case hpl => assumption); (case hh => assumption); (case hhl => assumption); (case hz => assumption); k_whole); intro h' D' k' n' tk' st' hD' hn' hk'; (have N' := news_new (by assumption) (by assumption) st' hD' hn'); (have F' := fr_stays (by assumption) st'); (try clear st' hD' hn'); (try k_sweep); (try dsimp only)))
section
local macro_rules | `(tactic| walk_at "call ref") => `(tactic| (k_here; k_dflt (refine' wpAny_call (c_joinH ?X ?T ?r ?ha ?hb ?hy ?_); walk_at "mine_xtr"; (case ha => walk_at "mine_len"); (case hb => walk_at "mine_len"); (case hy => assumption); k_whole); intro h' tk tk' st'; walk_at "mine_post"))
local macro_rules | `(tactic| walk_at "call ref") => `(tactic| (k_here; k_dflt (refine' wpAny_call (c_normH ?X ?T ?r ?hy ?_); walk_at "mine_xtr"; (case hy => assumption); k_whole); intro h' tk tk' st'; walk_at "mine_post"))
local macro_rules | `(tactic| walk_at "call ref") => `(tactic| (k_here; k_dflt (refine' wpAny_call (c_line_col ?X ?T ?r ?l ?h1 ?h2 ?h3 ?_); walk_at "mine_xtr"; (case l => walk_at "mine_len"); (case h1 => assumption); (case h2 => assumption); (case h3 => assumption); k_whole); intro h' D' t1 t2 tk' st' hD' hn'; (have l' := allNe_of (by assumption) hn'); (simp only [AllNe, and_true] at l'); (have N' := news_new (by assumption) (by assumption) st' hD' hn'); (have F' := fr_stays (by assumption) st'); (try clear st' hD' hn'); (try k_sweep); (try dsimp only)))
local macro_rules | `(tactic| walk_at "mine_hangs") => `(tactic| assumption)
local macro_rules | `(tactic| walk_at "call ref") => `(tactic| (k_here; k_dflt (refine' wpAny_call (c_read ?X ?T ?r ?ha ?hk ?hr ?hlc ?hpl ?hh ?hhl ?hz ?_); walk_at "mine_xtr"; (case ha => walk_at "mine_list"); (case hr => walk_at "mine_hangs"); (case hk => assumption); (case hlc => assumption); (case hpl => assumption); (case hh => assumption); (case hhl => assumption); (case hz => assumption); k_whole); intro h' D' vs' n' own' tk' st' hD' hn' hvs' htl'; (have l' := own_ne (by assumption) hn'); (have N' := news_more (by assumption) (by assumption) st' hn'); (have F' := fr_stays (by assumption) st'); (try clear st' hn'); (try k_sweep); (try dsimp only)))
section
local macro_rules | `(tactic| walk_at "mine_go_bo") => `(tactic| repeat' ((fail_if_success (with_reducible show wpAny _ _ (eval (Expr.BoolOp _ _ _) _) _ _ _)); (first | (k_unfold; (try dsimp only)) | walk1 | (dsimp only; walk1))))
section
def cellOf (n : Int) : Int := ((if n < 0 then -n else n)).fmod 1000000
def cellsOf (ns : List Int) : List Int := if ns.take 8 = [] then [1, 2532, 180, 92] else (ns.take 8).map cellOf
theorem ints_of : ∀ {vs : List Value} {ns : List Int}, vs.length = ns.length → (∀ (j : Nat) (y : Value), vs[j]? = some y → ∃ n t, y = .int n t ∧ ns[j]? = some n) → IntsAre vs ns
  | [], [], _, _ => .nil
  | [], _ :: _, h, _ => by simp at h
  | _ :: _, [], h, _ => by simp at h
  | v :: vs, n :: ns, h, g => by
    obtain ⟨n', t, rfl, e⟩ := g 0 v rfl
    obtain rfl : n = n' := Option.some.inj e
    exact .cons _ _ (ints_of (by simpa using h) fun j y hy => g (j + 1) y hy)
theorem off1_mem {D : Addr} {l : List (Addr × Obj)} (h : LCg.Off1 D l) : ∀ p ∈ l, p.1 ≠ D := by
  induction l with
  | nil => intro p hp; cases hp
  | cons q r ih =>
    intro p hp
    rcases List.mem_cons.mp hp with rfl | hp
    · exact h.1
    · exact ih h.2 p hp
theorem Fr.pin {h₀ h : Heap} {L : Addr} {m₁ : Str → Option Value} {y : Str} {u : Option Value} (F : Fr h₀ L h m₁) (hy : m₁ y = u) : Fr h₀ L h (fun z => if z = y then u else m₁ z) := by
  have e : m₁ = fun z => if z = y then u else m₁ z := by
    funext z
    by_cases h : z = y
    · subst h; simp [hy]
    · simp [h]
  rwa [← e]
def intS (n : Int) : Str := Str.ofString (toString n)
def lcS (l c : Int) : Str := intS l ++ Str.ofString "." ++ intS c
def nameAt (i : Int) : Str := [Str.ofString "a", Str.ofString "b", Str.ofString "1.2", Str.ofString "..a", Str.ofString "b."].getD i.toNat (Str.ofString "")
def restAt : Nat → Int → Int
  | 0, r => r
  | k + 1, r => (restAt k r).fdiv 5
def namesOf (k : Nat) (r : Int) : List Str := (List.range k).map fun i => nameAt ((restAt i r).fmod 5)
theorem namesOf_succ (k : Nat) (r : Int) : namesOf (k + 1) r = namesOf k r ++ [nameAt ((restAt k r).fmod 5)] := by
  unfold namesOf; rw [List.range_succ, List.map_append]; rfl
def plOf (c : Int) : Pl := ⟨namesOf ((c.fdiv 20).fmod 4).toNat (c.fdiv 80), lcS (c.fmod 5 - 1) ((c.fdiv 5).fmod 4), c.fmod 5 - 1, (c.fdiv 5).fmod 4, c.fmod 12⟩
def PlIn (nx : List (Addr × Obj)) (vs : List Value) (pls : List Pl) : Prop :=
  ∀ (j : Nat) (v : Value), vs[j]? = some v → ∃ p T q k c t1 t2 t3, pls[j]? = some p ∧ v = .ref T ∧ (T, tupO #[.ref q, .int p.l t1, .int p.c t2, .int p.d t3]) ∈ nx ∧ (q, listOf (strValues k).toArray c) ∈ nx ∧ k.map (·.1) = p.f
theorem PlIn.nil {nx : List (Addr × Obj)} {pls : List Pl} : PlIn nx [] pls := fun j v h => by simp at h
theorem PlIn.more {nx nx' : List (Addr × Obj)} {vs : List Value} {pls : List Pl} (h : PlIn nx vs pls) (hs : ∀ p ∈ nx, p ∈ nx') : PlIn nx' vs pls := fun j v hv => by
  obtain ⟨p, T, q, k, c, t1, t2, t3, e1, e2, e3, e4, e5⟩ := h j v hv
  exact ⟨p, T, q, k, c, t1, t2, t3, e1, e2, hs _ e3, hs _ e4, e5⟩
theorem PlIn.snoc {nx nx' : List (Addr × Obj)} {vs : List Value} {pls : List Pl} {p : Pl} {T q : Addr} {k : List (Str × Tok)} {c : Nat} {t1 t2 t3 : Tok} (h : PlIn nx vs pls) (hs : ∀ p ∈ nx, p ∈ nx') (hp : pls[vs.length]? = some p) (h1 : (T, tupO #[.ref q, .int p.l t1, .int p.c t2, .int p.d t3]) ∈ nx') (h2 : (q, listOf (strValues k).toArray c) ∈ nx') (h3 : k.map (·.1) = p.f) :
    PlIn nx' (vs ++ [.ref T]) pls := fun j v hv => by
  by_cases hj : j < vs.length
  · rw [List.getElem?_append_left hj] at hv
    exact (h.more hs) j v hv
  · have e : j = vs.length := by
      have := (List.getElem?_eq_some_iff.mp hv).1
      simp at this; omega
    subst e
    rw [List.getElem?_append_right (Nat.le_refl _), Nat.sub_self] at hv
    cases hv
    exact ⟨p, T, q, k, c, t1, t2, t3, hp, rfl, h1, h2, h3⟩
def PJ (cs : List Int) (lp : Addr) (i : Nat) (m : Str → Option Value) (o : Obj) (nx : List (Addr × Obj)) : Prop :=
  ∃ (vs : List Value) (n : Nat), o = listOf vs.toArray n ∧ vs.length = i ∧ PlIn nx vs (cs.map plOf) ∧ m (Str.ofString "places") = some (.ref lp)
def FJ (nx₀ : List (Addr × Obj)) (r : Int) (lp lf : Addr) (c : Int) (tc : Tok) (i : Nat) (m : Str → Option Value) (o : Obj) (nx : List (Addr × Obj)) : Prop :=
  ∃ (k : List (Str × Tok)) (n : Nat) (t : Tok), nx = nx₀ ∧ o = listOf (strValues k).toArray n ∧ k.map (·.1) = namesOf i r ∧ m (Str.ofString "rest") = some (.int (restAt i r) t) ∧ m (Str.ofString "folder") = some (.ref lf) ∧ m (Str.ofString "places") = some (.ref lp) ∧ m (Str.ofString "cell") = some (.int c tc)
theorem cells_are {ns : List Int} : ∀ c ∈ cellsOf ns, 0 ≤ c ∧ c < 1000000 := by
  unfold cellsOf
  split
  · decide
  · intro c hc
    obtain ⟨n, _, rfl⟩ := List.mem_map.mp hc
    unfold cellOf
    rw [Int.fmod_eq_emod_of_nonneg _ (by decide)]
    omega
theorem cells_len {ns : List Int} : (cellsOf ns).length ≤ 8 ∧ 0 < (cellsOf ns).length := by
  unfold cellsOf
  split
  · decide
  · rename_i h
    rw [List.length_map]
    exact ⟨by rw [List.length_take]; omega, List.length_pos_iff.mpr h⟩
theorem tab_item {prog : Program} {w : World} {A : Around} {s : Shared} {value slice : Expr} {t : Addr} {ks : List (Str × Tok)} {i : Int} {u : Tok} {Q E : Value → Shared → Prop} (ht : IsTup s.heap t (strValues ks).toArray) (h0 : 0 ≤ i) (h1 : i < ks.length) (hz : ks.length ≤ 100)
    (h : ∀ tk, Q (.str ((ks.map (·.1)).getD i.toNat (Str.ofString "")) tk) s)
    (hs : subscripted slice false (.ref t) (.int i u) = operate [.ref t, .int i u] (getItem (.ref t) (.int i u)) := by with_unfolding_all rfl) :
    wpAny (model prog w) A (subscriptTail value slice (.ref t) (.int i u)) Q E s := by
  have hlt : i.toNat < ks.length := by omega
  refine tup_item ht h0 (by omega) (y := .str ks[i.toNat].1 ks[i.toNat].2) ?_ ?_ hs
  · simp [strValues, List.getElem?_eq_getElem hlt]
  · have e : (ks.map (·.1)).getD i.toNat (Str.ofString "") = ks[i.toNat].1 := by
      rw [List.getD_eq_getElem?_getD, List.getElem?_map, List.getElem?_eq_getElem hlt]; rfl
    rw [e] at h
    exact h _
local macro_rules | `(tactic| walk_at "subscriptTail") => `(tactic| (k_here; (with_reducible show wpAny _ _ (subscriptTail (Expr.Tuple _ _ _) _ (Value.ref _) (Value.int _ _)) _ _ _); k_dflt (refine' tab_item (ks := [(_, _), (_, _), (_, _), (_, _), (_, _)]) ?ht ?h0 ?h1 ?hz ?_; (case ht => exact News.isTup (by k_asm) (by k_mem)); (case h0 => exact Int.fmod_nonneg_of_pos _ (by decide)); (case h1 => exact Int.fmod_lt_of_pos _ (by decide)); (case hz => decide); k_whole); intro tk'))
local macro_rules | `(tactic| walk_at "call type:range") => `(tactic| (k_here; (rename Fr _ _ _ _ => lF'); (rename News _ _ _ _ => lN'); (with_unfolding_all refine range1_rows lF' lN' ?_); (intro h' tk' t1' u1' v1' hrg' F' N' kp'); (clear kp'); (try k_sweep)))
set_option maxHeartbeats 4000000 in
theorem c_places {prog : Program} {w : World} {dp un : Nat} {fr : Option (List Env)} {gd : Option (List Code)} {R : Result → Shared → Prop} {s : Shared} {mean : ExcName → Option Value} {mg mb : Str → Option Value} {a : Addr} {vs : List Value} {ns : List Int}
    (X : (tp.heap_39 w.params).In s.heap) (T : Top tp.view_39 [Str.ofString "relpath"] mean mg mb s.heap) (r : Rm dp un 3) (ha : s.heap.IsList a vs.toArray) (hi : IntsAre vs ns) (hz : ns.length ≤ 63)
    (h : ∀ h' D vs n own tk', s.heap.StaysIn h' → (D, listOf vs.toArray n) ∈ own → (∀ p ∈ own, h'.get? p.1 = some p.2 ∧ s.heap.get? p.1 = none) → vs.length = (cellsOf ns).length → PlIn own vs ((cellsOf ns).map plOf) → R (.ok (.ret (.ref D))) { s with heap := h', toks := tk' }) :
    codeAny (model prog w) (AA dp un fr gd) (.call (.ref 206) ⟨[.ref a], []⟩) R s := by
  refine' enter [(Str.ofString "script", .ref a)] X T ?k6 ?k7 ?k8 ?k9 ?kB ?_ ?c2 ?c3 ?c4 ?c5
  walk_at "mine_in"
  walk_at "mine_go_bo"
  rename Fr _ _ _ _ => F
  rename News _ _ _ _ => N
  refine' cut_ints (cellsOf ns) ?F ?N ?h1 ?h2
  case F => exact F
  case N => exact N
  · walk_at "mine_go"
    (try clear F N)
    rename Fr _ _ _ _ => F
    rename News _ _ _ _ => N
    rename IntsAre _ (List.take 8 ns) => hi8
    have h8 : (ns.take 8).length ≤ 8 := by rw [List.length_take]; omega
    refine src_el (fun i y _ => ∃ n t, (ns.take 8)[i]? = some n ∧ y = .int (cellOf n) t) (fun _ _ _ _ _ h => h) rfl F N (.inr ⟨_, .head _, rfl, _, rfl⟩) (by rw [hi8.length]; omega) ?_ ?_
    · clear F N
      rintro i v I oI C oC D m₂ ys nx' h3 tk3 E' hv hsub hC hx F N off ne
      have hil : i < (ns.take 8).length := by rw [← hi8.length]; exact (List.getElem?_eq_some_iff.mp hv).1
      obtain ⟨n, hn⟩ : ∃ n, (ns.take 8)[i]? = some n := ⟨_, List.getElem?_eq_getElem hil⟩
      obtain ⟨t, ht⟩ := hi8.get i n hn
      rw [hv] at ht
      obtain rfl := Option.some.inj ht
      walk_at "mine_go"
      exact ElEnd.none (by assumption) (by assumption) (fun _ h => h) ⟨n, _, hn, rfl⟩
    · rintro g tk2 ys nx' hsub hyl hel
      have hri : IntsAre ys ((ns.take 8).map cellOf) := ints_of (by rw [hyl, hi8.length, List.length_map]) fun j y hy => by
        obtain ⟨n, t, hn, rfl⟩ := hel j y hy
        exact ⟨cellOf n, t, rfl, by rw [List.getElem?_map, hn]; rfl⟩
      clear F N
      walk_at "mine_go"
      · rename Fr _ _ _ _ => F
        rename News _ _ _ _ => N
        rename LCg.Off1 _ _ => o1
        rename 0 < _ => hpos
        refine ⟨_, _, ys, _, _, rfl, rfl, F, N, fun p hp => .tail _ (hsub p (.tail _ hp)), ⟨_, .head _⟩, fun p hp => off1_mem o1 p (hsub p (.tail _ hp)), ?_⟩
        unfold cellsOf
        rw [if_neg (fun e => by rw [e] at hpos; simp at hpos)]
        exact hri
      · rename Fr _ _ _ _ => F
        rename News _ _ _ _ => N
        rename _ ∧ AllLt _ nx' => l1
        rename ¬ 0 < _ => hpos
        refine ⟨_, _, _, _, _, rfl, rfl, F, N, fun p hp => .tail _ (.tail _ (hsub p (.tail _ hp))), ⟨_, .head _⟩, fun p hp => AllLt.mem l1.2 p (hsub p (.tail _ hp)), ?_⟩
        unfold cellsOf
        rw [if_pos (List.length_eq_zero_iff.mp (by rw [List.length_map] at hpos; omega))]
        exact .cons _ _ (.cons _ _ (.cons _ _ (.cons _ _ .nil)))
  · clear F N
    intro h1 D vs1 tk1 c1 F N hne hi1
    walk_at "mine_go_it"
    have hcl := cells_len (ns := ns)
    refine iter_grow (D := _) (o₀ := _) (rest := []) (nx₀ := []) (PJ (cellsOf ns) _) rfl (News.isList N (.head _)) (N _ (.head _)).2.1 (hne _ (.head _)) F (fun p hp => N p (.tail _ hp)) (fun _ h => nomatch h) (fun _ h => nomatch h) ⟨[], 0, rfl, rfl, .nil, rfl⟩ ?_ ?_
    · clear F N
      rintro i v m₁ o nx I h2 tk2 own oI hv ⟨vs, n, rfl, hvs, hpl, hmp⟩ hI hnx hoff F N
      have hil : i < (cellsOf ns).length := by rw [← hi1.length]; exact (List.getElem?_eq_some_iff.mp hv).1
      obtain ⟨c, hc⟩ : ∃ c, (cellsOf ns)[i]? = some c := ⟨_, List.getElem?_eq_getElem hil⟩
      obtain ⟨t, ht⟩ := hi1.get i c hc
      rw [hv] at ht
      obtain rfl := Option.some.inj ht
      obtain ⟨hc0, hc1⟩ := cells_are c (List.mem_of_getElem? hc)
      have hvz : vs.toArray.size ≤ 20 := by rw [List.size_toArray]; omega
      replace F := Fr.keyed F hmp (fun z _ _ => rfl)
      (try dsimp only at F)
      walk_at "mine_go_it"
      have hb0 : 0 ≤ (c.fdiv 20).fmod 4 := Int.fmod_nonneg_of_pos _ (by decide)
      have hb1 : (c.fdiv 20).fmod 4 < 4 := Int.fmod_lt_of_pos _ (by decide)
      rename IsRange _ _ _ _ _ _ _ _ => hrg
      rename Fr _ _ _ _ => F
      rename News _ _ _ _ => N
      rename _ ∧ AllLt _ own => hlf
      refine iter_rangeG (rest := _) (nx₀ := _ :: own) (FJ (_ :: own) (c.fdiv 80) _ _ c _) rfl hrg (small4 hb0 hb1).1 (small4 hb0 hb1).2 F N (fun _ h => h) (fun p hp => ?_) ⟨[], 0, _, rfl, rfl, rfl, rfl, rfl, rfl, rfl⟩ ?_ ?_
      · rcases List.mem_cons.mp hp with rfl | hp
        · exact Nat.ne_of_lt hlf.1
        · exact AllLt.mem hlf.2 p hp
      · clear F N hrg
        rintro i2 t2 m₁ o2 nx2 I2 h3 tk3 own2 oI2 hi2 ⟨k, n2, t3, rfl, rfl, hk, m1, m2, m3, m4⟩ hI2 hnx2 hoff2 F N
        have hi4 : i2 < 4 := by omega
        have hkl : k.length ≤ 4 := by
          have := congrArg List.length hk
          rw [List.length_map] at this
          simp [namesOf] at this
          omega
        have hkz : (strValues k).toArray.size = k.length := by simp [strValues]
        replace F := Fr.keyed F m1 (fun z _ _ => rfl)
        replace F := Fr.pin (y := Str.ofString "folder") F m2
        (try dsimp only at F)
        walk_at "mine_go"
        rename News _ _ _ _ => N
        have hT := News.isTup N (.head _)
        refine tab_item (ks := [(_, _), (_, _), (_, _), (_, _), (_, _)]) hT (Int.fmod_nonneg_of_pos _ (by decide)) (Int.fmod_lt_of_pos _ (by decide)) (by simp) fun tk5 => ?_
        walk_at "mine_go"
        rename Fr _ _ _ _ => F5
        rename News _ _ _ _ => N5
        refine TurnG.next F5 N5 (.tail _ (.head _)) (fun p hp => .tail _ (.tail _ hp)) _ (fun p hp => ⟨.tail _ (.tail _ (hnx2 p hp).1), (hnx2 p hp).2, hoff2 p (hnx2 p hp).1 _ (.head _)⟩) ⟨k ++ [(_, _)], _, _, rfl, congrArg (listOf · _) (sv_push _ _ _), ?_, rfl, rfl, m3, m4⟩
        rw [namesOf_succ, List.map_append, hk]; rfl
      · clear F N hrg
        rintro m₁ o2 nx2 h3 tk3 ⟨k, n2, t3, rfl, rfl, hk, m1, m2, m3, m4⟩ hoff2 F N
        replace F := Fr.pin (y := Str.ofString "folder") F m2
        replace F := Fr.pin (y := Str.ofString "places") F m3
        replace F := Fr.pin (y := Str.ofString "cell") F m4
        (try dsimp only at F)
        walk_at "mine_go"
        rename Fr _ _ _ _ => F
        rename News _ _ _ _ => N
        rename _ ∧ _ ∧ AllLt _ own => hl1
        have hpi : ((cellsOf ns).map plOf)[i]? = some (plOf c) := by rw [List.getElem?_map, hc]; rfl
        refine TurnG.next2 F N hnx hoff ⟨Ne.symm (AllLt.mem hl1.2.2 _ hI), Nat.ne_of_gt hl1.2.1⟩ ⟨Ne.symm (AllLt.mem hlf.2 _ hI), Nat.ne_of_gt hlf.1⟩ ⟨vs ++ [_], _, congrArg (listOf · _) (by rw [List.push_toArray]), by simp [hvs], hpl.snoc (p := plOf c) (fun p hp => .tail _ (.tail _ hp)) (hvs ▸ hpi) (.head _) (.tail _ (.head _)) hk, rfl⟩
    · clear F N
      rintro m₁ o2 nx2 h3 tk3 ⟨vs, n, rfl, hvs, hpl, hmp⟩ hoff2 F N
      replace F := Fr.pin (y := Str.ofString "places") F hmp
      walk_at "mine_go"
      exact h _ _ vs _ _ _ (Fr.keep (by assumption)) (.head _) (fun p hp => ⟨(N p hp).1, (N p hp).2.2⟩) (hvs.trans hi1.length) (hpl.more fun p hp => .tail _ hp)
local macro_rules | `(tactic| walk_at "call ref") => `(tactic| (k_here; k_dflt (refine' wpAny_call (c_places ?X ?T ?r ?ha ?hi ?hz ?_); walk_at "mine_xtr"; (case ha => first | assumption | exact Fr.lst (by k_asm) (by assumption)); (case hi => assumption); (case hz => assumption); k_whole); intro h' D' vs' n' own' tk' st' hD' hn' hvs' htl'; (have l' := own_ne (by assumption) hn'); (have N' := news_more (by assumption) (by assumption) st' hn'); (have F' := fr_stays (by assumption) st'); (try clear st' hn'); (try k_sweep); (try dsimp only)))
end
section
theorem P_nil : P [] = Str.ofString "/" := ch_ext (by unfold P; rw [ch_app, J_nil, ch_empty, List.append_nil])
theorem sw_iff (z : Str) : Txt.startswith z (Str.ofString "/") = true ↔ (ch z)[0]? = some 47 := by
  unfold Txt.startswith
  rw [Bool.and_eq_true, decide_eq_true_eq, sl_is]
  exact StrLaws.subAt_one z 47 0
theorem sw_no {z : Str} (h : NH z) : Txt.startswith z (Str.ofString "/") = false := by
  cases e : Txt.startswith z (Str.ofString "/") with
  | false => rfl
  | true =>
    exfalso
    have h1 := (sw_iff z).mp e
    cases hc : ch z with
    | nil => rw [hc] at h1; cases h1
    | cons c r =>
      rw [hc] at h1
      obtain rfl := Option.some.inj h1
      exact h r hc
theorem ew_no {z : Str} (h : ∀ r, ch z ≠ r ++ [47]) : Txt.endswith z (Str.ofString "/") = false := by
  cases e : Txt.endswith z (Str.ofString "/") with
  | false => rfl
  | true =>
    exfalso
    unfold Txt.endswith at e
    rw [Bool.and_eq_true, decide_eq_true_eq, sl_is] at e
    have hl : (⟨#[47]⟩ : Str).length = 1 := rfl
    obtain ⟨e1, e2⟩ := e
    rw [hl] at e1 e2
    have h1 := (StrLaws.subAt_one z 47 (z.length - 1)).mp ⟨by rw [hl]; omega, e2⟩
    have hz : (ch z).length = z.length := ch_len z
    have hne : ch z ≠ [] := fun q => by rw [q] at hz; simp at hz; omega
    have h2 : (ch z).getLast? = some 47 := by rw [List.getLast?_eq_getElem?, hz]; exact h1
    rw [List.getLast?_eq_some_getLast hne] at h2
    exact h (ch z).dropLast (by rw [← Option.some.inj h2]; exact (List.dropLast_concat_getLast hne).symm)
theorem ew_sl : Txt.endswith (Str.ofString "/") (Str.ofString "/") = true := by decide +kernel
theorem P_end {f : List Str} (e : f ≠ []) (hf : ∀ n ∈ f, Nm n) : ∀ r, ch (P f) ≠ r ++ [47] := by
  intro r q
  unfold P at q
  rw [ch_app, ch_sl] at q
  obtain ⟨c, t, hc, _⟩ := J_ne e hf
  have hne : ch (J f) ≠ [] := by rw [hc]; simp
  obtain ⟨l, x, hl⟩ : ∃ l x, ch (J f) = l ++ [x] := ⟨_, _, (List.dropLast_concat_getLast hne).symm⟩
  rw [hl, ← List.append_assoc] at q
  exact J_end e hf l (by rw [hl, (List.append_inj' q rfl).2])
/-- a row hung on a folder -/
theorem jstep_P {f : List Str} {b : Str} (hf : ∀ n ∈ f, Nm n) (hb : NH b) : jstep (P f) b = Str.ofString "/" ++ (if f = [] then b else J f ++ (Str.ofString "/" ++ b)) := by
  have h1 := sw_no hb
  have h2 : ((P f).length : Int) ≠ 0 := by have := P_pos f; omega
  by_cases e : f = []
  · subst e
    rw [if_pos rfl, ← js3 h1 h2 (by rw [P_nil]; exact ew_sl), P_nil]
  · rw [if_neg e, ← js4 h1 h2 (ew_no (P_end e hf))]
    unfold P
    rw [Str.append_assoc]
theorem NH_nm {n : Str} (h : Nm n) : NH n := fun r q => by
  obtain ⟨c, t, hc, hn⟩ := h.head
  rw [hc] at q
  exact hn (List.cons.inj q).1
theorem jstep_nm {f : List Str} {n : Str} (hf : ∀ n ∈ f, Nm n) (hn : Nm n) : jstep (P f) n = P (f ++ [n]) := by
  rw [jstep_P hf (NH_nm hn)]
  by_cases e : f = []
  · subst e
    rw [if_pos rfl]; rfl
  · rw [if_neg e]
    unfold P
    rw [J_snoc e, Str.append_assoc]
theorem joinS_P : ∀ (ns : List Str) {f : List Str}, (∀ n ∈ f, Nm n) → (∀ n ∈ ns, Nm n) → joinS (P f) ns = P (f ++ ns)
  | [], f, _, _ => by rw [List.append_nil]; rfl
  | n :: r, f, hf, hn => by
    show joinS (jstep (P f) n) r = _
    rw [jstep_nm hf (hn n (.head _)), joinS_P r (fun z hz => ?_) fun z hz => hn z (.tail _ hz), List.append_assoc]; rfl
    rcases List.mem_append.mp hz with hz | hz
    · exact hf z hz
    · rw [List.mem_singleton.mp hz]; exact hn n (.head _)
theorem joinS_sl {ns : List Str} (hn : ∀ n ∈ ns, Nm n) : joinS (Str.ofString "/") ns = P ns := by
  have := joinS_P ns (f := []) (fun _ h => nomatch h) hn
  rwa [P_nil, List.nil_append] at this
end
end
end
end
end
end
end
end
end
end
section
local macro_rules | `(tactic| walk_at "call ref") => `(tactic| (k_here; k_dflt (refine' wpAny_call (c_splitext_in ?X ?T ?r ?l ?h1 ?h2 ?_); walk_at "mine_xtr"; (case l => walk_at "mine_len"); (case h1 => assumption); (case h2 => assumption); k_whole); intro h' D' t1 t2 tk' st' hD' hn'; (have N' := news_new (by assumption) (by assumption) st' hD' hn'); (have F' := fr_stays (by assumption) st'); (try clear st' hD' hn'); (try k_sweep); (try dsimp only)))
local macro_rules | `(tactic| walk_at "call ref") => `(tactic| (k_here; k_dflt (refine' wpAny_call (c_splitext ?X ?T ?r ?l ?h1 ?h2 ?_); walk_at "mine_xtr"; (case l => walk_at "mine_len"); (case h1 => assumption); (case h2 => assumption); k_whole); intro h' D' t1 t2 tk' st' hD' hn'; (have N' := news_new (by assumption) (by assumption) st' hD' hn'); (have F' := fr_stays (by assumption) st'); (try clear st' hD' hn'); (try k_sweep); (try dsimp only)))
section
local macro_rules | `(tactic| walk_at "call ref") => `(tactic| (k_here; k_dflt (refine' wpAny_call (c_line_col ?X ?T ?r ?l ?h1 ?h2 ?h3 ?_); walk_at "mine_xtr"; (case l => walk_at "mine_len"); (case h1 => assumption); (case h2 => assumption); (case h3 => assumption); k_whole); intro h' D' t1 t2 tk' st' hD' hn'; (have N' := news_new (by assumption) (by assumption) st' hD' hn'); (have F' := fr_stays (by assumption) st'); (try clear st' hD' hn'); (try k_sweep); (try dsimp only)))
section
local macro_rules | `(tactic| walk_at "mine_inC") => `(tactic| (
  w_top off
  (case k6 => k_is); (case k7 => k_is); (case k8 => exact Rm.room (by assumption)); (case k9 => first | exact BindsTo.of_eq rfl | exact binds_K (by k_in) rfl (by k_is) rfl rfl rfl); (case kB => exact rfl); (case kD => decide +kernel)
  (case c2 => exact rfl); (case c3 => exact rfl); (case c4 => exact rfl)
  k_whole; intro L' h' tk' cells' F' N' Y'; k_cells Y'; (try simp only [List.cons_append, List.nil_append] at N'); (try dsimp only); (try k_fold)))
local macro_rules | `(tactic| walk_at "exec Try") => `(tactic| ((with_reducible show wpAny _ _ (exec (Stmt.Try _ (_ :: _) _ [] _) (envOfC _ _ _ _ _)) _ _ _); refine wpAny_Try_except ?_))
section
local macro_rules | `(tactic| walk_at "truthy ref") => `(tactic| (k_here; (with_reducible show wpAny _ _ (truthy (Value.ref _)) _ _ _); k_dflt (refine' tup_truthy (vs := (_ :: _)) ?hl ?hf ?_; (case hl => exact News.isTup (by k_asm) (by k_mem)); (case hf => walk_at "mine_fit"); k_whole); (try simp only [List.isEmpty_cons, Bool.not_false, Bool.not_true])))
local macro_rules | `(tactic| walk_at "subscriptTail Name Constant ref int") => `(tactic| (k_here; (with_reducible show wpAny _ _ (subscriptTail _ _ (Value.ref _) (Value.int _ _)) _ _ _); k_dflt (refine' tup_item ?hl ?h0 ?h2 ?hf ?_; (case hl => exact News.isTup (by k_asm) (by k_mem)); (case h0 => decide); (case h2 => decide); (case hf => exact rfl); k_whole)))
section
local macro_rules | `(tactic| walk_at "exec Assign cons ListComp") => `(tactic| (k_here; k_dflt (refine Assign_ListComp_V (by k_asm) (by rfl) (by with_unfolding_all rfl) (by with_unfolding_all rfl) (by decide) (by rfl) (by decide) (by rfl) (by rfl) (by rfl) ?_)))
local macro_rules | `(tactic| walk_at "eval ListComp") => `(tactic| (k_here; k_dflt (refine ListComp_V (by k_asm) (by with_unfolding_all rfl) (by decide) (by rfl) (by decide) (by rfl) ?_)))
section
local macro_rules | `(tactic| walk_at "call ref") => `(tactic| (k_here; k_dflt (refine' wpAny_call (c_alike ?X ?T ?r ?ha ?hb ?hza ?hzb ?_); walk_at "mine_xtr"; (case ha => walk_at "mine_list"); (case hb => walk_at "mine_list"); (case hza => walk_at "mine_fit"); (case hzb => walk_at "mine_fit"); k_whole); intro h' tk tk' st'; walk_at "mine_post"))
section
local macro_rules | `(tactic| walk_at "call ref") => `(tactic| (k_here; k_dflt (refine' wpAny_call (c_route ?X ?T ?r ?ha ?hb ?hza ?hzb ?hkb ?_); walk_at "mine_xtr"; (case ha => walk_at "mine_list"); (case hb => walk_at "mine_list"); (case hza => walk_at "mine_fit"); (case hzb => walk_at "mine_fit"); (case hkb => assumption); k_whole); intro h' tk tk' st'; walk_at "mine_post"))
section
local macro_rules | `(tactic| walk_at "mine_go_it") => `(tactic| repeat' ((fail_if_success (with_reducible show wpAny _ _ (pyIter (Value.ref _)) (fun it s₂ => LoopAtV _ _ _ _ _ _ _ _ _ it s₂) _ _)); (first | (k_unfold; (try dsimp only)) | walk1 | (dsimp only; walk1))))
section
local macro_rules | `(tactic| walk_at "call ref") => `(tactic| (k_here; k_dflt (refine' wpAny_call (c_dirP ?X ?T ?r ?ok ?_); walk_at "mine_xtr"; (case ok => assumption); k_whole); intro h' tk tk' st'; walk_at "mine_post"))
local macro_rules | `(tactic| walk_at "call ref") => `(tactic| (k_here; k_dflt (refine' wpAny_call (c_baseP ?X ?T ?r ?ok ?_); walk_at "mine_xtr"; (case ok => assumption); k_whole); intro h' tk tk' st'; walk_at "mine_post"))
local macro_rules | `(tactic| walk_at "call ref") => `(tactic| (k_here; k_dflt (refine' wpAny_call (c_chain ?X ?T ?r ?ha ?hk ?hpl ?hh ?hhl ?hz ?_); walk_at "mine_xtr"; (case ha => walk_at "mine_list"); (case hk => assumption); (case hpl => assumption); (case hh => assumption); (case hhl => assumption); (case hz => assumption); k_whole); intro h' D' k' n' tk' st' hD' hn' hk'; (have N' := news_new (by assumption) (by assumption) st' hD' hn'); (have F' := fr_stays (by assumption) st'); (try clear st' hD' hn'); (try k_sweep); (try dsimp only)))
section
local macro_rules | `(tactic| walk_at "call builtin:str.replace") => `(tactic| (k_here; k_dflt (refine' rep_call ?X ?T ?hu ?hv ?huv ?hx ?hz ?_; (case X => k_in); (case T => walk_at "mine_top"); (case hu => first | omega | (simp; done) | (simp; omega)); (case hv => first | omega | (simp; done) | (simp; omega)); (case huv => first | omega | (simp; done) | (simp; omega)); (case hx => walk_at "mine_len"); (case hz => decide); k_whole); intro r' t' k' hr' hl'))
section
local macro_rules | `(tactic| walk_at "call ref") => `(tactic| (k_here; k_dflt (refine' wpAny_call (c_crooked ?X ?T ?r ?h0 ?h1 ?hx ?_); walk_at "mine_xtr"; (case h0 => assumption); (case h1 => assumption); (case hx => walk_at "mine_len"); k_whole); intro h' tk tk' st'; walk_at "mine_post"))
section
local macro_rules | `(tactic| walk_at "call ref") => `(tactic| (k_here; k_dflt (refine' wpAny_call (c_joinH ?X ?T ?r ?ha ?hb ?hy ?_); walk_at "mine_xtr"; (case ha => walk_at "mine_len"); (case hb => walk_at "mine_len"); (case hy => assumption); k_whole); intro h' tk tk' st'; walk_at "mine_post"))
local macro_rules | `(tactic| walk_at "call ref") => `(tactic| (k_here; k_dflt (refine' wpAny_call (c_normH ?X ?T ?r ?hy ?_); walk_at "mine_xtr"; (case hy => assumption); k_whole); intro h' tk tk' st'; walk_at "mine_post"))
local macro_rules | `(tactic| walk_at "call ref") => `(tactic| (k_here; k_dflt (refine' wpAny_call (c_line_col ?X ?T ?r ?l ?h1 ?h2 ?h3 ?_); walk_at "mine_xtr"; (case l => walk_at "mine_len"); (case h1 => assumption); (case h2 => assumption); (case h3 => assumption); k_whole); intro h' D' t1 t2 tk' st' hD' hn'; (have l' := allNe_of (by assumption) hn'); (simp only [AllNe, and_true] at l'); (have N' := news_new (by assumption) (by assumption) st' hD' hn'); (have F' := fr_stays (by assumption) st'); (try clear st' hD' hn'); (try k_sweep); (try dsimp only)))
local macro_rules | `(tactic| walk_at "mine_hangs") => `(tactic| assumption)
local macro_rules | `(tactic| walk_at "call ref") => `(tactic| (k_here; k_dflt (refine' wpAny_call (c_read ?X ?T ?r ?ha ?hk ?hr ?hlc ?hpl ?hh ?hhl ?hz ?_); walk_at "mine_xtr"; (case ha => walk_at "mine_list"); (case hr => walk_at "mine_hangs"); (case hk => assumption); (case hlc => assumption); (case hpl => assumption); (case hh => assumption); (case hhl => assumption); (case hz => assumption); k_whole); intro h' D' vs' n' own' tk' st' hD' hn' hvs' htl'; (have l' := own_ne (by assumption) hn'); (have N' := news_more (by assumption) (by assumption) st' hn'); (have F' := fr_stays (by assumption) st'); (try clear st' hn'); (try k_sweep); (try dsimp only)))
section
local macro_rules | `(tactic| walk_at "mine_go_bo") => `(tactic| repeat' ((fail_if_success (with_reducible show wpAny _ _ (eval (Expr.BoolOp _ _ _) _) _ _ _)); (first | (k_unfold; (try dsimp only)) | walk1 | (dsimp only; walk1))))
section
local macro_rules | `(tactic| walk_at "call ref") => `(tactic| (k_here; k_dflt (refine' wpAny_call (c_places ?X ?T ?r ?ha ?hi ?hz ?_); walk_at "mine_xtr"; (case ha => first | assumption | exact Fr.lst (by k_asm) (by assumption)); (case hi => assumption); (case hz => assumption); k_whole); intro h' D' vs' n' own' tk' st' hD' hn' hvs' htl'; (have l' := own_ne (by assumption) hn'); (have N' := news_more (by assumption) (by assumption) st' hn'); (have F' := fr_stays (by assumption) st'); (try clear st' hn'); (try k_sweep); (try dsimp only)))
section
section
noncomputable def lawSt : Stmt := tp.view_39.main.body.getLastD (Stmt.Pass default)
noncomputable def lawB : List Stmt := match lawSt with | .FunctionDef _ _ body _ _ _ _ _ _ _ => body | _ => []
noncomputable def lawSc : Scope := match lawSt with | .FunctionDef _ _ _ _ _ _ sc _ _ _ => sc | _ => default
theorem law_len : lawB.length = 16 := by decide +kernel
/-- one statement of law, the others unseen -/
theorem open_stmt {M : Model} {A : Around} {env : Env} {Q : Flow → Shared → Prop} {E : Value → Shared → Prop} {s : Shared} {body : List Stmt} (K : Nat) (hK : K < 16) (hb : lawB = body)
    (h : ∀ S rest, (lawB.drop K).headD (Stmt.Pass default) = S → body.drop (K + 1) = rest → wpAny M A (execs (S :: rest) env) Q E s) : wpAny M A (execs (body.drop K) env) Q E s := by
  have e : body.drop K = (lawB.drop K).headD (Stmt.Pass default) :: body.drop (K + 1) := by
    have hlt : K < body.length := by rw [← hb, law_len]; exact hK
    rw [hb, List.drop_eq_getElem_cons hlt]; rfl
  rw [e]
  exact h _ _ rfl rfl
theorem pin_at {m : Str → Option Value} {y : Str} {u : Option Value} (hy : m y = u) (z : Str) : (if z = y then u else m z) = m z := by
  by_cases h : z = y
  · subst h; rw [if_pos rfl, hy]
  · rw [if_neg h]
theorem news_4th {h₀ h : Heap} {L : Addr} {a b c d : Addr × Obj} {r : List (Addr × Obj)} (N : News h₀ L h (a :: b :: c :: d :: r)) : News h₀ L h (d :: a :: b :: c :: r) := fun p hp => N p (by
  simp only [List.mem_cons] at hp ⊢
  rcases hp with hp | hp | hp | hp | hp <;> simp [hp])
theorem news_2nd {h₀ h : Heap} {L : Addr} {a d : Addr × Obj} {r : List (Addr × Obj)} (N : News h₀ L h (a :: d :: r)) : News h₀ L h (d :: a :: r) := fun p hp => N p (by
  simp only [List.mem_cons] at hp ⊢
  rcases hp with hp | hp | hp <;> simp [hp])
theorem news_cons {h₀ h : Heap} {L : Addr} {a : Addr × Obj} {r : List (Addr × Obj)} (N : News h₀ L h r) (ha : a ∈ r) : News h₀ L h (a :: r) := fun p hp => by
  rcases List.mem_cons.mp hp with rfl | hp
  · exact N _ ha
  · exact N p hp
theorem ElEnd.one2 {h₀ h' : Heap} {L I C D : Addr} {oI oC oD : Obj} {m : Str → Option Value} {s₁ : Shared} {a b : Addr × Obj} {nx : List (Addr × Obj)} {K : Value → List (Addr × Obj) → Prop} {y : Value} {tk : Nat}
    (F : Fr h₀ L h' m) (N : News h₀ L h' (a :: b :: (I, oI) :: (C, oC) :: (D, oD) :: nx)) (h1 : @LT.lt Nat _ I a.1) (h2 : @LT.lt Nat _ C a.1) (h3 : @LT.lt Nat _ D a.1) (hk : K y (a :: nx)) : ElEnd h₀ L m s₁ I oI C oC D oD nx K y { s₁ with heap := h', toks := tk } :=
  ⟨h', tk, [a], rfl, F, fun p hp => N p (by
    simp only [List.mem_cons, List.singleton_append] at hp ⊢
    rcases hp with hp | hp | hp | hp | hp <;> simp [hp]), ⟨⟨Nat.ne_of_gt h1, Nat.ne_of_gt h2, Nat.ne_of_gt h3⟩, trivial⟩, hk⟩
theorem ElEnd.two {h₀ h' : Heap} {L I C D : Addr} {oI oC oD : Obj} {m : Str → Option Value} {s₁ : Shared} {a b : Addr × Obj} {nx : List (Addr × Obj)} {K : Value → List (Addr × Obj) → Prop} {y : Value} {tk : Nat}
    (F : Fr h₀ L h' m) (N : News h₀ L h' (a :: b :: (I, oI) :: (C, oC) :: (D, oD) :: nx)) (h1 : @LT.lt Nat _ I a.1) (h2 : @LT.lt Nat _ C a.1) (h3 : @LT.lt Nat _ D a.1) (g1 : @LT.lt Nat _ I b.1) (g2 : @LT.lt Nat _ C b.1) (g3 : @LT.lt Nat _ D b.1) (hk : K y (a :: b :: nx)) : ElEnd h₀ L m s₁ I oI C oC D oD nx K y { s₁ with heap := h', toks := tk } :=
  ⟨h', tk, [a, b], rfl, F, fun p hp => N p (by
    simp only [List.mem_cons, List.cons_append, List.nil_append] at hp ⊢
    rcases hp with hp | hp | hp | hp | hp | hp <;> simp [hp]), ⟨⟨Nat.ne_of_gt h1, Nat.ne_of_gt h2, Nat.ne_of_gt h3⟩, ⟨Nat.ne_of_gt g1, Nat.ne_of_gt g2, Nat.ne_of_gt g3⟩, trivial⟩, hk⟩
theorem srcAt_of {h₀ : Heap} {ax : Addr} {vs : List Value} {c : Nat} {nx : List (Addr × Obj)} (h : (ax, listOf vs.toArray c) ∈ nx) : LCg.SrcAt h₀ ax vs.toArray nx := .inr ⟨_, h, rfl, _, rfl⟩
local macro_rules | `(tactic| walk_at "mine_names") => `(tactic| exact rfl)
local macro_rules | `(tactic| k_mem) => `(tactic| first | with_reducible assumption | with_reducible_and_instances assumption | assumption)
local macro_rules | `(tactic| walk_at "mine_open") => `(tactic| (w_top off; intro S rest hS hrest; (conv at hS => lhs; whnf); rename lawSc = _ => hsc; (conv at hsc => lhs; whnf); subst hS hsc hrest))
set_option maxHeartbeats 4000000 in
theorem law0 {prog : Program} {w : World} {dp un : Nat} {fr : Option (List Env)} {gd : Option (List Code)} {g : Heap} {body : List Stmt} {sc : Scope} {nm : Str} {L fa : Addr} {cd : Value} {Q : Flow → Shared → Prop} {E : Value → Shared → Prop} {s : Shared} {mean : ExcName → Option Value} {mg mb : Str → Option Value} {m : Str → Option Value} {oc : Obj} {a : Addr} {vs : List Value} {ns : List Int}
    (hb : lawB = body) (hsc : lawSc = sc) (X : (tp.heap_39 w.params).In g) (T : Top tp.view_39 [Str.ofString "relpath"] mean mg mb g) (r : Rm dp un 20) (F : Fr g L s.heap m) (N : News g L s.heap [(L + 1, oc)])
    (hs : m (Str.ofString "script") = some (.ref a)) (ha : g.IsList a vs.toArray) (hi : IntsAre vs ns) (hz : ns.length ≤ 63)
    (h : ∀ h' tk' D vs n nx, Fr g L h' (fun z => if z = Str.ofString "places" then some (.ref D) else m z) → News g L h' ((L + 1, oc) :: nx) → OwnOff nx [L + 1] → (D, listOf vs.toArray n) ∈ nx → vs.length = (cellsOf ns).length → PlIn nx vs ((cellsOf ns).map plOf) →
      wpAny (model prog w) (AA dp un fr gd) (execs (body.drop 1) (envOfC nm sc L fa cd)) Q E { s with heap := h', toks := tk' }) :
    wpAny (model prog w) (AA dp un fr gd) (execs (body.drop 0) (envOfC nm sc L fa cd)) Q E s := by
  refine open_stmt 0 (by decide) hb ?_
  walk_at "mine_open"
  replace F := Fr.pin (y := Str.ofString "script") F hs
  walk_at "mine_go"
  rename Fr _ _ _ _ => F
  rename News _ _ _ _ => N
  rename ∀ p ∈ _, ∀ q ∈ [(L + 1, oc)], _ => hne
  simp only [pin_at hs] at F
  refine (h _ _ _ _ _ _ F (fun p hp => N p ?_) (fun p hp b hb => by rw [List.mem_singleton.mp hb]; exact hne p hp _ (.head _)) (by assumption) (by assumption) (by assumption))
  rcases List.mem_cons.mp hp with rfl | hp
  · exact List.mem_append_right _ (.head _)
  · exact List.mem_append_left _ hp
end
local macro_rules | `(tactic| walk_at "mine_names") => `(tactic| exact rfl)
local macro_rules | `(tactic| k_mem) => `(tactic| first | with_reducible assumption | with_reducible_and_instances assumption | assumption)
local macro_rules | `(tactic| walk_at "mine_open") => `(tactic| (w_top off; intro S rest hS hrest; (conv at hS => lhs; whnf); rename lawSc = _ => hsc; (conv at hsc => lhs; whnf); subst hS hsc hrest))
section
def SOk (x : Str) : Prop := ∀ c ∈ ch x, c < 0x110000
theorem strOk_of {x : Str} (h : SOk x) : PyData.strOk x = true := by
  show (x.cps.all fun c => decide (c < 0x110000)) = true
  rw [← Array.all_toList, List.all_eq_true]
  exact fun c hc => decide_eq_true (h c hc)
theorem SOk.app {x y : Str} (h : SOk x) (g : SOk y) : SOk (x ++ y) := fun c hc => by
  rw [ch_app] at hc
  exact (List.mem_append.mp hc).elim (h c) (g c)
theorem sok_lit {x : Str} (h : (ch x).all (fun c => decide (c < 0x110000)) = true) : SOk x := fun c hc => of_decide_eq_true (List.all_eq_true.mp h c hc)
theorem sok_sl : SOk (Str.ofString "/") := sok_lit (by decide +kernel)
theorem sok_J : ∀ {ns : List Str}, (∀ n ∈ ns, SOk n) → SOk (J ns)
  | [], _ => fun c hc => by rw [J_nil, ch_empty] at hc; cases hc
  | [n], h => by rw [J_one]; exact h n (.head _)
  | n :: m :: r, h => by
    rw [J_two]
    exact ((h n (.head _)).app sok_sl).app (sok_J fun z hz => h z (.tail _ hz))
theorem sok_P {ns : List Str} (h : ∀ n ∈ ns, SOk n) : SOk (P ns) := sok_sl.app (sok_J h)
theorem sok_route {s p : List Str} (h : ∀ n ∈ p, SOk n) : SOk (routeS s p) := by
  unfold routeS
  split
  · exact sok_lit (by decide +kernel)
  · refine sok_J fun n hn => ?_
    unfold relL at hn
    rcases List.mem_append.mp hn with hn | hn
    · rw [(List.mem_replicate.mp hn).2]; exact sok_lit (by decide +kernel)
    · exact h n (List.drop_subset _ _ hn)
theorem sok_chain {start : List Str} {pls : List Pl} (h : ∀ p ∈ pls, ∀ n ∈ Pl.full p, SOk n) : ∀ y ∈ chainL start pls, SOk y := fun y hy => by
  obtain ⟨i, hi, rfl⟩ := List.mem_iff_getElem.mp hy
  simp only [chainL, List.getElem_zipWith]
  exact sok_route (h _ (List.getElem_mem _))
theorem datAll_strs (nx : List (Addr × Obj)) : ∀ k : List (Str × Tok), DatAll nx (strValues k) (k.map fun p => Dat.str p.1)
  | [] => .nil
  | p :: r => .cons (.str p.1 p.2) (datAll_strs nx r)
theorem ok_strs {k : List (Str × Tok)} (h : ∀ y ∈ k.map (·.1), SOk y) : ∀ d ∈ (k.map fun p => Dat.str p.1), kqdOk 8 d = true := fun d hd => by
  obtain ⟨p, hp, rfl⟩ := List.mem_map.mp hd
  exact strOk_of (h _ (List.mem_map.mpr ⟨p, hp, rfl⟩))
section
variable {prog : Program} {w : World} {A : Around} {E : Value → Shared → Prop} {s : Shared} {h₀ : Heap} {L a b : Addr} {news : List (Addr × Obj)} {Q : Value → Shared → Prop}
theorem ne_strs {ka kb : List (Str × Tok)} {ca cb : Nat} (N : News h₀ L s.heap news) (ma : (a, listOf (strValues ka).toArray ca) ∈ news) (mb : (b, listOf (strValues kb).toArray cb) ∈ news) (e : ka.map (·.1) = kb.map (·.1)) (hok : ∀ y ∈ ka.map (·.1), SOk y) (hu : A.units + 64 < cLine)
    (h : Q (.bool false) s) : wpAny (model prog w) A (compareOp .NotEq (.ref a) (.ref b)) Q E s := by
  refine kqd_ne N ma rfl rfl (datAll_strs _ ka) (fun _ h => h) mb rfl rfl (datAll_strs _ kb) (fun _ h => h) (ok_strs hok) (ok_strs (e ▸ hok)) hu ?_
  have e2 : (ka.map fun p => Dat.str p.1) = kb.map fun p => Dat.str p.1 := by
    have := congrArg (List.map Dat.str) e
    rw [List.map_map, List.map_map] at this
    exact this
  simp only [e2, decide_true, Bool.not_true]
  exact h
def toldD (p : Pl) : Dat := .tuple [.str (P p.f), .tuple [.int p.l, .int p.c]]
theorem datAll_of : ∀ {vs : List Value} {ds : List Dat} {nx : List (Addr × Obj)}, vs.length = ds.length → (∀ (j : Nat) (v : Value), vs[j]? = some v → ∃ d, ds[j]? = some d ∧ DatIn nx v d) → DatAll nx vs ds
  | [], [], _, _, _ => .nil
  | [], _ :: _, _, h, _ => by simp at h
  | _ :: _, [], _, h, _ => by simp at h
  | v :: vs, d :: ds, nx, h, g => by
    obtain ⟨d', e, hd⟩ := g 0 v rfl
    obtain rfl : d = d' := Option.some.inj e
    exact .cons hd (datAll_of (by simpa using h) fun j v hv => g (j + 1) v hv)
theorem datAll_told {nx : List (Addr × Obj)} {vs : List Value} {pls : List Pl} (hl : vs.length = pls.length) (h : ToldIn nx vs pls) : DatAll nx vs (pls.map toldD) :=
  datAll_of (by rw [hl, List.length_map]) fun j v hv => by
    obtain ⟨p, T, q, t1, t2, t3, hp, rfl, m1, m2⟩ := h j v hv
    refine ⟨toldD p, by rw [List.getElem?_map, hp]; rfl, ?_⟩
    exact .tuple (vs := [_, _]) m1 (.cons (.str _ _) (.cons (.tuple (vs := [_, _]) m2 (.cons (.int _ _) (.cons (.int _ _) .nil))) .nil))
theorem ok_told {pls : List Pl} (h : ∀ p ∈ pls, SOk (P p.f)) : ∀ d ∈ pls.map toldD, kqdOk 8 d = true := fun d hd => by
  obtain ⟨p, hp, rfl⟩ := List.mem_map.mp hd
  have := strOk_of (h p hp)
  simp [toldD, kqdOk, this]
theorem ne_told {va vb : List Value} {ca cb : Nat} {pls : List Pl} (N : News h₀ L s.heap news) (ma : (a, listOf va.toArray ca) ∈ news) (mb : (b, listOf vb.toArray cb) ∈ news) (la : va.length = pls.length) (ha : ToldIn news va pls) (lb : vb.length = pls.length) (hb : ToldIn news vb pls) (hok : ∀ p ∈ pls, SOk (P p.f)) (hu : A.units + 64 < cLine)
    (h : Q (.bool false) s) : wpAny (model prog w) A (compareOp .NotEq (.ref a) (.ref b)) Q E s := by
  refine kqd_ne N ma rfl rfl (datAll_told la ha) (fun _ h => h) mb rfl rfl (datAll_told lb hb) (fun _ h => h) (ok_told hok) (ok_told hok) hu ?_
  simp only [decide_true, Bool.not_true]
  exact h
end
local macro_rules | `(tactic| walk_at "mine_go_cmp") => `(tactic| repeat' ((fail_if_success (with_reducible show wpAny _ _ (compareOp _ _ _) _ _ _)); (first | (k_unfold; (try dsimp only)) | walk1 | (dsimp only; walk1))))
local macro_rules | `(tactic| walk_at "mine_room") => `(tactic| (have hr8 := Rm.hu (by assumption); show _ < 9900; show _ + 64 < 9900; (try dsimp only); omega))
end
local macro_rules | `(tactic| walk_at "mine_go_cmp") => `(tactic| repeat' ((fail_if_success (with_reducible show wpAny _ _ (compareOp _ _ _) _ _ _)); (first | (k_unfold; (try dsimp only)) | walk1 | (dsimp only; walk1))))
local macro_rules | `(tactic| walk_at "mine_room") => `(tactic| (have hr8 := Rm.hu (by assumption); show _ < 9900; show _ + 64 < 9900; (try dsimp only); omega))
section
def startOf (i : Int) : List Str := [[], [Str.ofString "a"], [Str.ofString "b", Str.ofString "1.2"]].getD i.toNat []
set_option maxHeartbeats 4000000 in
theorem law1 {prog : Program} {w : World} {dp un : Nat} {fr : Option (List Env)} {gd : Option (List Code)} {g : Heap} {body : List Stmt} {sc : Scope} {nm : Str} {L fa : Addr} {cd : Value} {Q : Flow → Shared → Prop} {E : Value → Shared → Prop} {s : Shared} {mean : ExcName → Option Value} {mg mb : Str → Option Value} {m : Str → Option Value} {oc : Obj} {v0 : Option Value} {D : Addr} {vs : List Value} {n : Nat} {nx : List (Addr × Obj)} {pls : List Pl}
    (hb : lawB = body) (hsc : lawSc = sc) (X : (tp.heap_39 w.params).In g) (T : Top tp.view_39 [Str.ofString "relpath"] mean mg mb g) (r : Rm dp un 20) (F : Fr g L s.heap m) (N : News g L s.heap ((L + 1, oc) :: nx)) (hoc : oc.data = .cell v0) (hoff : OwnOff nx [L + 1])
    (hm1 : m (Str.ofString "places") = some (.ref D)) (hD : (D, listOf vs.toArray n) ∈ nx) (hvl : vs.length = pls.length) (hpl : PlIn nx vs pls) (hz : pls.length ≤ 8)
    (h : ∀ h' tk' oc' k c nx' st, Fr g L h' m → News g L h' ((L + 1, oc') :: nx') → (∀ p ∈ nx, p ∈ nx') → oc'.data = .cell (some (.ref st)) → (st, listOf (strValues k).toArray c) ∈ nx' → k.map (·.1) = startOf (((pls.map (fun p : Pl => p.d)).sum).fmod 3) →
      wpAny (model prog w) (AA dp un fr gd) (execs (body.drop 2) (envOfC nm sc L fa cd)) Q E { s with heap := h', toks := tk' }) :
    wpAny (model prog w) (AA dp un fr gd) (execs (body.drop 1) (envOfC nm sc L fa cd)) Q E s := by
  refine open_stmt 1 (by decide) hb ?_
  walk_at "mine_open"
  replace F := Fr.pin (y := Str.ofString "places") F hm1
  walk_at "mine_go"
  rename Fr _ _ _ _ => F
  rename News _ _ _ _ => N
  rename_i lA _ qA lB _ qB lC _ qC Dt _ qD
  refine src_el (fun i y _ => ∃ p t, pls[i]? = some p ∧ y = .int (Pl.d p) t) (fun _ _ _ _ _ h => h) rfl F N (srcAt_of (c := n) ?_) (by rw [hvl]; omega) ?_ ?_
  · k_mem
  · clear F N
    rintro i v I oI C oC D m₂ ys nx' h3 tk3 E' hv hsub hC hx F N off ne
    obtain ⟨p, Tp, q, kf, cf, t1, t2, t3, hp, rfl, e3, e4, e5⟩ := hpl i v hv
    have hT := hsub _ (by k_mem : (Tp, tupO #[.ref q, .int p.l t1, .int p.c t2, .int p.d t3]) ∈ _)
    walk_at "mine_go"
    exact ElEnd.none (by assumption) (by assumption) (fun _ h => h) ⟨p, _, hp, rfl⟩
  · rintro g1 tk2 ys nx' hsub hyl hel
    have hri : IntsAre ys (pls.map fun p : Pl => p.d) := ints_of (by rw [hyl, hvl, List.length_map]) fun j y hy => by
      obtain ⟨p, t, hp, rfl⟩ := hel j y hy
      exact ⟨p.d, t, rfl, by rw [List.getElem?_map, hp]; rfl⟩
    clear F N
    walk_at "mine_go"
    rename Fr _ _ _ _ => F
    rename News _ _ _ _ => N
    have hi0 : 0 ≤ ((pls.map fun p : Pl => p.d).sum).fmod 3 := Int.fmod_nonneg_of_pos _ (by decide)
    have hi1 : ((pls.map fun p : Pl => p.d).sum).fmod 3 < 3 := Int.fmod_lt_of_pos _ (by decide)
    generalize ((pls.map fun p : Pl => p.d).sum).fmod 3 = ii at hi0 hi1 h ⊢
    have hT : IsTup _ Dt _ := News.isTup N (.tail _ (hsub _ (.head _)))
    have N2 := fun p hp => N p (.tail _ (hsub p (.tail _ hp)))
    change News g L _ _ at N2
    clear N hsub
    have hii : ii = 0 ∨ ii = 1 ∨ ii = 2 := by omega
    rcases hii with rfl | rfl | rfl
    · refine tup_item hT (by decide) (by decide) rfl ?_
      clear hT
      walk_at "mine_go"
      rename Fr _ _ _ _ => F
      rename News _ _ _ _ => N
      simp only [pin_at hm1] at F
      refine h _ _ _ [] 0 _ _ F (news_4th N) (fun p hp => .tail _ (.tail _ (.tail _ hp))) (by assumption) (.tail _ (.tail _ (.head _))) rfl
    · refine tup_item hT (by decide) (by decide) rfl ?_
      clear hT
      walk_at "mine_go"
      rename Fr _ _ _ _ => F
      rename News _ _ _ _ => N
      simp only [pin_at hm1] at F
      refine h _ _ _ [(_, _)] 0 _ _ F (news_4th N) (fun p hp => .tail _ (.tail _ (.tail _ hp))) (by assumption) (.tail _ (.head _)) rfl
    · refine tup_item hT (by decide) (by decide) rfl ?_
      clear hT
      walk_at "mine_go"
      rename Fr _ _ _ _ => F
      rename News _ _ _ _ => N
      simp only [pin_at hm1] at F
      refine h _ _ _ [(_, _), (_, _)] 0 _ _ F (news_4th N) (fun p hp => .tail _ (.tail _ (.tail _ hp))) (by assumption) (.head _) rfl
end
section
set_option maxHeartbeats 4000000 in
theorem law2 {prog : Program} {w : World} {dp un : Nat} {fr : Option (List Env)} {gd : Option (List Code)} {g : Heap} {body : List Stmt} {sc : Scope} {nm : Str} {L fa : Addr} {cd : Value} {Q : Flow → Shared → Prop} {E : Value → Shared → Prop} {s : Shared} {mean : ExcName → Option Value} {mg mb : Str → Option Value} {m : Str → Option Value} {oc : Obj} {nx : List (Addr × Obj)} {st : Addr} {c : Nat} {ks : List (Str × Tok)}
    (hb : lawB = body) (hsc : lawSc = sc) (X : (tp.heap_39 w.params).In g) (T : Top tp.view_39 [Str.ofString "relpath"] mean mg mb g) (r : Rm dp un 20) (F : Fr g L s.heap m) (N : News g L s.heap ((L + 1, oc) :: nx))
    (hoc : oc.data = .cell (some (.ref st))) (hst : (st, listOf (strValues ks).toArray c) ∈ nx) (hsl : ks.length ≤ 3) (hsz : ∀ y ∈ ks.map (·.1), Nm y)
    (h : ∀ h' tk' nx' t, Fr g L h' (fun z => if z = Str.ofString "here" then some (.str (P (ks.map (·.1))) t) else m z) → News g L h' ((L + 1, oc) :: nx') → (∀ p ∈ nx, p ∈ nx') → 
      wpAny (model prog w) (AA dp un fr gd) (execs (body.drop 3) (envOfC nm sc L fa cd)) Q E { s with heap := h', toks := tk' }) :
    wpAny (model prog w) (AA dp un fr gd) (execs (body.drop 2) (envOfC nm sc L fa cd)) Q E s := by
  refine open_stmt 2 (by decide) hb ?_
  walk_at "mine_open"
  have hok := hok_of (ys := ks.map (·.1)) (sep := Str.ofString "/") (fun y hy => Nat.le_trans (hsz y hy).short (by decide)) (by rw [List.length_map]; omega) (by decide)
  have hjl := Nat.le_trans (join_le (ys := ks.map (·.1)) (sep := Str.ofString "/")) hok
  walk_at "mine_go"
  rename Fr _ _ _ _ => F
  rename News _ _ _ _ => N
  exact h _ _ _ _ F N (fun _ h => h)
end
section
theorem intS_len {n : Int} (h0 : -1 ≤ n) (h1 : n ≤ 3) : (Str.ofString (toString n)).length ≤ 2 := by
  have h : n = -1 ∨ n = 0 ∨ n = 1 ∨ n = 2 ∨ n = 3 := by omega
  rcases h with rfl | rfl | rfl | rfl | rfl <;> decide +kernel
structure Pl.Has (p : Pl) : Prop where
  hl0 : -1 ≤ p.l
  hl1 : p.l ≤ 3
  hc0 : 0 ≤ p.c
  hc1 : p.c ≤ 3
  hd0 : 0 ≤ p.d
  hd1 : p.d < 12
  hb : p.b = lcS p.l p.c
theorem add_one {prog : Program} {w : World} {A : Around} {E : Value → Shared → Prop} {s : Shared} {h₀ : Heap} {L a b : Addr} {m : Str → Option Value} {news : List (Addr × Obj)} {Q : Value → Shared → Prop} {ka : List (Str × Tok)} {y : Str} {t : Tok} (F : Fr h₀ L s.heap m) (N : News h₀ L s.heap news) (ha : s.heap.IsList a (strValues ka).toArray) (hb : s.heap.IsList b [Value.str y t].toArray) (hz : ka.length ≤ 1000)
    (h : ∀ D h', Fr h₀ L h' m → News h₀ L h' ((D, listOf (strValues (ka ++ [(y, t)])).toArray 0) :: news) → (∀ p ∈ news, p.1 < D) → Q (.ref D) { s with heap := h' }) : wpAny (model prog w) A (binaryOp .Add (.ref a) (.ref b)) Q E s :=
  add_strs (kb := [(y, t)]) F N ha hb (by simp; omega) h
def LsAt (nx : List (Addr × Obj)) (vs : List Value) (nss : List (List Str)) : Prop :=
  ∀ (j : Nat) (v : Value), vs[j]? = some v → ∃ ns a k c, nss[j]? = some ns ∧ v = .ref a ∧ (a, listOf (strValues k).toArray c) ∈ nx ∧ k.map (·.1) = ns
theorem LsAt.more {nx nx' : List (Addr × Obj)} {vs : List Value} {nss : List (List Str)} (h : LsAt nx vs nss) (hs : ∀ p ∈ nx, p ∈ nx') : LsAt nx' vs nss := fun j v hv => by
  obtain ⟨ns, a, k, c, e1, e2, e3, e4⟩ := h j v hv
  exact ⟨ns, a, k, c, e1, e2, hs _ e3, e4⟩
local macro_rules | `(tactic| walk_at "binaryOp Add ref ref") => `(tactic| (k_here; k_dflt (refine' add_one ?F ?N ?ha ?hb ?hz ?_; (case F => k_asm); (case N => k_asm); (case ha => walk_at "mine_list"); (case hb => walk_at "mine_list"); (case hz => walk_at "mine_fit"); k_whole); intro D' h' F' N' l'; (try k_lt l'); (try k_sweep)))
set_option maxHeartbeats 4000000 in
theorem law3 {prog : Program} {w : World} {dp un : Nat} {fr : Option (List Env)} {gd : Option (List Code)} {g : Heap} {body : List Stmt} {sc : Scope} {nm : Str} {L fa : Addr} {cd : Value} {Q : Flow → Shared → Prop} {E : Value → Shared → Prop} {s : Shared} {mean : ExcName → Option Value} {mg mb : Str → Option Value} {m : Str → Option Value} {oc : Obj} {nx : List (Addr × Obj)} {D : Addr} {vs : List Value} {n : Nat} {pls : List Pl}
    (hb : lawB = body) (hsc : lawSc = sc) (X : (tp.heap_39 w.params).In g) (T : Top tp.view_39 [Str.ofString "relpath"] mean mg mb g) (r : Rm dp un 20) (F : Fr g L s.heap m) (N : News g L s.heap ((L + 1, oc) :: nx))
    (hm1 : m (Str.ofString "places") = some (.ref D)) (hD : (D, listOf vs.toArray n) ∈ nx) (hvl : vs.length = pls.length) (hpl : PlIn nx vs pls) (hz : pls.length ≤ 8) (hp1 : ∀ p ∈ pls, p.Ok) (hp2 : ∀ p ∈ pls, p.Has)
    (h : ∀ h' tk' nx' D' vs' n', Fr g L h' (fun z => if z = Str.ofString "fulls" then some (.ref D') else m z) → News g L h' ((L + 1, oc) :: nx') → (∀ p ∈ nx, p ∈ nx') → (D', listOf vs'.toArray n') ∈ nx' → vs'.length = pls.length → LsAt nx' vs' (pls.map Pl.full) → 
      wpAny (model prog w) (AA dp un fr gd) (execs (body.drop 4) (envOfC nm sc L fa cd)) Q E { s with heap := h', toks := tk' }) :
    wpAny (model prog w) (AA dp un fr gd) (execs (body.drop 3) (envOfC nm sc L fa cd)) Q E s := by
  refine open_stmt 3 (by decide) hb ?_
  walk_at "mine_open"
  replace F := Fr.pin (y := Str.ofString "places") F hm1
  walk_at "mine_go"
  rename Fr _ _ _ _ => F
  rename News _ _ _ _ => N
  refine src_el (fun i y nx' => ∃ ns a k c, (pls.map Pl.full)[i]? = some ns ∧ y = .ref a ∧ (a, listOf (strValues k).toArray c) ∈ nx' ∧ k.map (·.1) = ns) (fun i y a b hs h => by obtain ⟨ns, a, k, c, e1, e2, e3, e4⟩ := h; exact ⟨ns, a, k, c, e1, e2, hs _ e3, e4⟩) rfl F N (srcAt_of (c := n) ?_) (by rw [hvl]; omega) ?_ ?_
  · k_mem
  · clear F N
    rintro i v I oI C oC D m₂ ys nx' h3 tk3 E' hv hsub hC hx F N off ne
    obtain ⟨p, Tp, q, kf, cf, t1, t2, t3, hp, rfl, e3, e4, e5⟩ := hpl i v hv
    have hT := hsub _ (by k_mem : (Tp, tupO #[.ref q, .int p.l t1, .int p.c t2, .int p.d t3]) ∈ _)
    have hq := hsub _ (by k_mem : (q, listOf (strValues kf).toArray cf) ∈ _)
    have hpm := List.mem_of_getElem? hp
    have ok := hp1 p hpm
    have hs := hp2 p hpm
    have l1 := intS_len hs.hl0 hs.hl1
    have l2 := intS_len (n := p.c) (by have := hs.hc0; omega) hs.hc1
    have b1 := hs.hl0
    have b2 := hs.hl1
    have b3 := hs.hc0
    have b4 := hs.hc1
    have hkl : kf.length ≤ 3 := by rw [← List.length_map (f := fun x : Str × Tok => x.1), e5]; exact ok.hl
    walk_at "mine_go"
    rename Fr _ _ _ _ => F
    rename News _ _ _ _ => N
    rename _ ∧ _ ∧ _ ∧ _ ∧ AllLt _ nx' => hl
    refine ElEnd.one2 F N hl.2.1 hl.2.2.1 hl.2.2.2.1 ⟨p.full, _, _, _, by rw [List.getElem?_map, hp]; rfl, rfl, .head _, ?_⟩
    unfold Pl.full
    rw [List.map_append, e5, hs.hb]; rfl
  · rintro g1 tk2 ys nx' hsub hyl hel
    clear F N
    walk_at "mine_go"
    rename Fr _ _ _ _ => F
    rename News _ _ _ _ => N
    simp only [pin_at hm1] at F
    exact h _ _ _ _ ys _ F (news_cons N (.tail _ (hsub _ (.head _)))) (fun p hp => .tail _ (hsub _ (.tail _ hp))) (.head _) (hyl.trans hvl) (LsAt.more hel fun p hp => .tail _ hp)
end
local macro_rules | `(tactic| walk_at "binaryOp Add ref ref") => `(tactic| (k_here; k_dflt (refine' add_one ?F ?N ?ha ?hb ?hz ?_; (case F => k_asm); (case N => k_asm); (case ha => walk_at "mine_list"); (case hb => walk_at "mine_list"); (case hz => walk_at "mine_fit"); k_whole); intro D' h' F' N' l'; (try k_lt l'); (try k_sweep)))
section
theorem strs_of : ∀ {vs : List Value} {ys : List Str}, vs.length = ys.length → (∀ (j : Nat) (v : Value), vs[j]? = some v → ∃ y t, ys[j]? = some y ∧ v = .str y t) → ∃ k, vs = strValues k ∧ k.map (·.1) = ys
  | [], [], _, _ => ⟨[], rfl, rfl⟩
  | [], _ :: _, h, _ => by simp at h
  | _ :: _, [], h, _ => by simp at h
  | v :: vs, y :: ys, h, g => by
    obtain ⟨y', t, e, rfl⟩ := g 0 v rfl
    obtain rfl : y = y' := Option.some.inj e
    obtain ⟨k, rfl, e2⟩ := strs_of (vs := vs) (ys := ys) (by simpa using h) fun j v hv => g (j + 1) v hv
    exact ⟨(y, t) :: k, rfl, by rw [List.map_cons, e2]⟩
set_option maxHeartbeats 4000000 in
theorem law4 {prog : Program} {w : World} {dp un : Nat} {fr : Option (List Env)} {gd : Option (List Code)} {g : Heap} {body : List Stmt} {sc : Scope} {nm : Str} {L fa : Addr} {cd : Value} {Q : Flow → Shared → Prop} {E : Value → Shared → Prop} {s : Shared} {mean : ExcName → Option Value} {mg mb : Str → Option Value} {m : Str → Option Value} {oc : Obj} {nx : List (Addr × Obj)} {D : Addr} {vs : List Value} {n : Nat} {pls : List Pl}
    (hb : lawB = body) (hsc : lawSc = sc) (X : (tp.heap_39 w.params).In g) (T : Top tp.view_39 [Str.ofString "relpath"] mean mg mb g) (r : Rm dp un 20) (F : Fr g L s.heap m) (N : News g L s.heap ((L + 1, oc) :: nx))
    (hm1 : m (Str.ofString "fulls") = some (.ref D)) (hD : (D, listOf vs.toArray n) ∈ nx) (hvl : vs.length = pls.length) (hls : LsAt nx vs (pls.map Pl.full)) (hz : pls.length ≤ 8) (hp1 : ∀ p ∈ pls, p.Ok)
    (h : ∀ h' tk' nx' D' k' n', Fr g L h' (fun z => if z = Str.ofString "paths" then some (.ref D') else m z) → News g L h' ((L + 1, oc) :: nx') → (∀ p ∈ nx, p ∈ nx') → (D', listOf (strValues k').toArray n') ∈ nx' → k'.map (·.1) = (pls.map fun p => P p.full) → 
      wpAny (model prog w) (AA dp un fr gd) (execs (body.drop 5) (envOfC nm sc L fa cd)) Q E { s with heap := h', toks := tk' }) :
    wpAny (model prog w) (AA dp un fr gd) (execs (body.drop 4) (envOfC nm sc L fa cd)) Q E s := by
  refine open_stmt 4 (by decide) hb ?_
  walk_at "mine_open"
  replace F := Fr.pin (y := Str.ofString "fulls") F hm1
  walk_at "mine_go"
  rename Fr _ _ _ _ => F
  rename News _ _ _ _ => N
  refine src_el (fun i y _ => ∃ p t, pls[i]? = some p ∧ y = .str (P p.full) t) (fun _ _ _ _ _ h => h) rfl F N (srcAt_of (c := n) ?_) (by rw [hvl]; omega) ?_ ?_
  · k_mem
  · clear F N
    rintro i v I oI C oC D m₂ ys nx' h3 tk3 E' hv hsub hC hx F N off ne
    obtain ⟨ns, q, kf, cf, hp, rfl, e3, rfl⟩ := hls i v hv
    obtain ⟨p, hp, e5⟩ : ∃ p, pls[i]? = some p ∧ Pl.full p = kf.map (·.1) := by
      rw [List.getElem?_map, Option.map_eq_some_iff] at hp; exact hp
    have hq := hsub _ (by k_mem : (q, listOf (strValues kf).toArray cf) ∈ _)
    have ok := hp1 p (List.mem_of_getElem? hp)
    have okl := ok.len
    have okn := ok.names
    rw [e5] at okl okn
    rw [List.length_map] at okl
    have hok := hok_of (ys := kf.map (·.1)) (sep := Str.ofString "/") (fun y hy => Nat.le_trans (okn y hy).short (by decide)) (by rw [List.length_map]; omega) (by decide)
    have hjl := Nat.le_trans (join_le (ys := kf.map (·.1)) (sep := Str.ofString "/")) hok
    walk_at "mine_go"
    have e : P p.full = Str.ofString "/" ++ Txt.join (Str.ofString "/") (kf.map (·.1)) := by rw [e5]; rfl
    exact ElEnd.none (by assumption) (by assumption) (fun _ h => h) ⟨p, _, hp, congrArg (Value.str · _) e.symm⟩
  · rintro g1 tk2 ys nx' hsub hyl hel
    obtain ⟨kp, rfl, hkp⟩ := strs_of (vs := ys) (ys := pls.map fun p => P p.full) (by rw [hyl, hvl, List.length_map]) fun j v hv => by
      obtain ⟨p, t, hp, rfl⟩ := hel j v hv
      exact ⟨_, t, by rw [List.getElem?_map, hp]; rfl, rfl⟩
    clear F N
    walk_at "mine_go"
    rename Fr _ _ _ _ => F
    rename News _ _ _ _ => N
    simp only [pin_at hm1] at F
    exact h _ _ _ _ kp _ F (news_cons N (.tail _ (hsub _ (.head _)))) (fun p hp => .tail _ (hsub _ (.tail _ hp))) (.head _) hkp
end
section
local macro_rules | `(tactic| walk_at "mine_go_cmp") => `(tactic| repeat' ((fail_if_success (with_reducible show wpAny _ _ (compareOp _ _ _) _ _ _)); (first | (k_unfold; (try dsimp only)) | walk1 | (dsimp only; walk1))))
theorem star_strs {prog : Program} {w : World} {A : Around} {E : Value → Shared → Prop} {s : Shared} {h₀ : Heap} {L a : Addr} {m : Str → Option Value} {news : List (Addr × Obj)} {k : List (Str × Tok)} {c : Nat} {Q : List Value → Shared → Prop} (F : Fr h₀ L s.heap m) (N : News h₀ L s.heap news) (hl : (a, listOf (strValues k).toArray c) ∈ news) (hz : k.length ≤ 1000)
    (h : ∀ h', Fr h₀ L h' m → News h₀ L h' news → Q (strValues k) { s with heap := h' }) : StarOf (model prog w) A E (.ref a) Q s :=
  star_seq F N hl rfl rfl (.inl rfl) (by simp) (by rw [List.size_toArray, sv_len, sizeLine_eq]; omega) h
local macro_rules | `(tactic| walk_at "StarOf ref") => `(tactic| (k_here; k_dflt (refine' star_strs ?F ?N ?hl ?hz ?_; (case F => k_asm); (case N => k_asm); (case hl => k_mem); (case hz => walk_at "mine_fit"); k_whole); intro h' F' N'; (try k_sweep)))
set_option maxHeartbeats 4000000 in
theorem law5 {prog : Program} {w : World} {dp un : Nat} {fr : Option (List Env)} {gd : Option (List Code)} {g : Heap} {body : List Stmt} {sc : Scope} {nm : Str} {L fa : Addr} {cd : Value} {Q : Flow → Shared → Prop} {E : Value → Shared → Prop} {s : Shared} {mean : ExcName → Option Value} {mg mb : Str → Option Value} {m : Str → Option Value} {oc : Obj} {nx : List (Addr × Obj)} {D Dp : Addr} {vs : List Value} {n np : Nat} {pls : List Pl} {kp : List (Str × Tok)}
    (hb : lawB = body) (hsc : lawSc = sc) (X : (tp.heap_39 w.params).In g) (T : Top tp.view_39 [Str.ofString "relpath"] mean mg mb g) (r : Rm dp un 20) (F : Fr g L s.heap m) (N : News g L s.heap ((L + 1, oc) :: nx))
    (hm1 : m (Str.ofString "fulls") = some (.ref D)) (hD : (D, listOf vs.toArray n) ∈ nx) (hvl : vs.length = pls.length) (hls : LsAt nx vs (pls.map Pl.full)) (hz : pls.length ≤ 8) (hp1 : ∀ p ∈ pls, p.Ok) (hm2 : m (Str.ofString "paths") = some (.ref Dp)) (hDp : (Dp, listOf (strValues kp).toArray np) ∈ nx) (hkp : kp.map (·.1) = pls.map fun p => P p.full) (hsk : ∀ p ∈ pls, ∀ n ∈ Pl.full p, SOk n)
    (h : ∀ h' tk' nx' , Fr g L h' m → News g L h' ((L + 1, oc) :: nx') → (∀ p ∈ nx, p ∈ nx') → 
      wpAny (model prog w) (AA dp un fr gd) (execs (body.drop 6) (envOfC nm sc L fa cd)) Q E { s with heap := h', toks := tk' }) :
    wpAny (model prog w) (AA dp un fr gd) (execs (body.drop 5) (envOfC nm sc L fa cd)) Q E s := by
  refine open_stmt 5 (by decide) hb ?_
  walk_at "mine_open"
  replace F := Fr.pin (y := Str.ofString "fulls") F hm1
  replace F := Fr.pin (y := Str.ofString "paths") F hm2
  walk_at "mine_go"
  rename Fr _ _ _ _ => F
  rename News _ _ _ _ => N
  refine src_el (fun i y _ => ∃ p t, pls[i]? = some p ∧ y = .str (P p.full) t) (fun _ _ _ _ _ h => h) rfl F N (srcAt_of (c := n) ?_) (by rw [hvl]; omega) ?_ ?_
  · k_mem
  · clear F N
    rintro i v I oI C oC D m₂ ys nx' h3 tk3 E' hv hsub hC hx F N off ne
    obtain ⟨ns, q, kf, cf, hp, rfl, e3, rfl⟩ := hls i v hv
    obtain ⟨p, hp, e5⟩ : ∃ p, pls[i]? = some p ∧ Pl.full p = kf.map (·.1) := by
      rw [List.getElem?_map, Option.map_eq_some_iff] at hp; exact hp
    have hq := hsub _ (by k_mem : (q, listOf (strValues kf).toArray cf) ∈ _)
    have ok := hp1 p (List.mem_of_getElem? hp)
    have okl := ok.len
    rw [e5, List.length_map] at okl
    walk_at "mine_go"
    simp only [List.append_nil]
    rename Fr _ _ _ _ => F
    rename News _ _ _ _ => N
    have okn := ok.names
    rw [e5] at okn
    refine wpAny_call (c_join (X.keeps F.keep) (T.keeps F.keep) (r.less (by decide)) (by decide) (fun e => ?_) (fun y hy => Nat.le_trans (okn y hy).short (by decide)) ?_ fun h' tk tk' st => ?_)
    · have := congrArg List.length e5
      rw [e] at this
      simp [Pl.full] at this
    · have := ok.hl
      have := congrArg List.length e5
      simp [Pl.full] at this
      omega
    · rw [joinS_sl okn, ← e5]
      exact ElEnd.none (fr_stays F st) (news_stays N st) (fun _ h => h) ⟨p, _, hp, rfl⟩
  · rintro g1 tk2 ys nx' hsub hyl hel
    obtain ⟨kq, rfl, hkq⟩ := strs_of (vs := ys) (ys := pls.map fun p => P p.full) (by rw [hyl, hvl, List.length_map]) fun j v hv => by
      obtain ⟨p, t, hp, rfl⟩ := hel j v hv
      exact ⟨_, t, by rw [List.getElem?_map, hp]; rfl, rfl⟩
    clear F N
    walk_at "mine_go_cmp"
    rename Fr _ _ _ _ => F
    rename News _ _ _ _ => N
    refine ne_strs N (.head _) (.tail _ (hsub _ (.tail _ hDp))) (hkq.trans hkp.symm) (by rw [hkq]; intro y hy; obtain ⟨p, hp, rfl⟩ := List.mem_map.mp hy; exact sok_P (hsk p hp)) (by walk_at "mine_room") ?_
    walk_at "mine_go"
    simp only [pin_at hm1, pin_at hm2] at F
    exact h _ _ _ F (news_cons N (.tail _ (hsub _ (.head _)))) (fun p hp => .tail _ (hsub _ (.tail _ hp)))
end
local macro_rules | `(tactic| walk_at "StarOf ref") => `(tactic| (k_here; k_dflt (refine' star_strs ?F ?N ?hl ?hz ?_; (case F => k_asm); (case N => k_asm); (case hl => k_mem); (case hz => walk_at "mine_fit"); k_whole); intro h' F' N'; (try k_sweep)))
section
local macro_rules | `(tactic| walk_at "mine_pick") => `(tactic| with_reducible exact pick_but _)
theorem add_vals {prog : Program} {w : World} {A : Around} {E : Value → Shared → Prop} {s : Shared} {h₀ : Heap} {L a b : Addr} {m : Str → Option Value} {news : List (Addr × Obj)} {Q : Value → Shared → Prop} {xs ys : List Value} (F : Fr h₀ L s.heap m) (N : News h₀ L s.heap news) (ha : s.heap.IsList a xs.toArray) (hb : s.heap.IsList b ys.toArray) (hz : xs.length + ys.length ≤ 100000)
    (h : ∀ D h', Fr h₀ L h' m → News h₀ L h' ((D, listOf (xs ++ ys).toArray 0) :: news) → (∀ p ∈ news, p.1 < D) → Q (.ref D) { s with heap := h' }) : wpAny (model prog w) A (binaryOp .Add (.ref a) (.ref b)) Q E s :=
  kmk_add_lit F N ha hb rfl h (by simp only [List.toList_toArray]; rw [sizeLine_eq]; omega)
local macro_rules | `(tactic| walk_at "binaryOp Add ref ref") => `(tactic| (k_here; k_dflt (refine' add_vals ?F ?N ?ha ?hb ?hz ?_; (case F => k_asm); (case N => k_asm); (case ha => walk_at "mine_list"); (case hb => walk_at "mine_list"); (case hz => walk_at "mine_valz"); k_whole); intro D' h' F' N' l'; (try k_lt l'); (try k_sweep)))
local macro_rules | `(tactic| walk_at "mine_valz") => `(tactic| (simp only [List.length_cons, List.length_nil]; omega))
set_option maxHeartbeats 4000000 in
theorem law6 {prog : Program} {w : World} {dp un : Nat} {fr : Option (List Env)} {gd : Option (List Code)} {g : Heap} {body : List Stmt} {sc : Scope} {nm : Str} {L fa : Addr} {cd : Value} {Q : Flow → Shared → Prop} {E : Value → Shared → Prop} {s : Shared} {mean : ExcName → Option Value} {mg mb : Str → Option Value} {m : Str → Option Value} {oc : Obj} {nx : List (Addr × Obj)} {D : Addr} {vs : List Value} {n : Nat} {pls : List Pl} {st : Addr} {c : Nat} {ks : List (Str × Tok)}
    (hb : lawB = body) (hsc : lawSc = sc) (X : (tp.heap_39 w.params).In g) (T : Top tp.view_39 [Str.ofString "relpath"] mean mg mb g) (r : Rm dp un 20) (F : Fr g L s.heap m) (N : News g L s.heap ((L + 1, oc) :: nx))
    (hoc : oc.data = .cell (some (.ref st))) (hst : (st, listOf (strValues ks).toArray c) ∈ nx) (hm1 : m (Str.ofString "places") = some (.ref D)) (hD : (D, listOf vs.toArray n) ∈ nx) (hvl : vs.length = pls.length) (hpl : PlIn nx vs pls) (hz : pls.length ≤ 8) (hz0 : 0 < pls.length)
    (h : ∀ h' tk' nx' D' vs' n', Fr g L h' (fun z => if z = Str.ofString "befores" then some (.ref D') else m z) → News g L h' ((L + 1, oc) :: nx') → (∀ p ∈ nx, p ∈ nx') → (D', listOf vs'.toArray n') ∈ nx' → vs'.length = pls.length → LsAt nx' vs' (befs (ks.map (·.1)) pls) → 
      wpAny (model prog w) (AA dp un fr gd) (execs (body.drop 7) (envOfC nm sc L fa cd)) Q E { s with heap := h', toks := tk' }) :
    wpAny (model prog w) (AA dp un fr gd) (execs (body.drop 6) (envOfC nm sc L fa cd)) Q E s := by
  refine open_stmt 6 (by decide) hb ?_
  walk_at "mine_open"
  replace F := Fr.pin (y := Str.ofString "places") F hm1
  walk_at "mine_go"
  rename Fr _ _ _ _ => F
  rename News _ _ _ _ => N
  refine src_el (vs := vs.dropLast) (fun i y nx' => ∃ ns a k c, (pls.map fun p : Pl => p.f)[i]? = some ns ∧ y = .ref a ∧ (a, listOf (strValues k).toArray c) ∈ nx' ∧ k.map (·.1) = ns) (fun i y a b hs h => by obtain ⟨ns, a, k, c, e1, e2, e3, e4⟩ := h; exact ⟨ns, a, k, c, e1, e2, hs _ e3, e4⟩) rfl F N (srcAt_of (c := 0) (.head _)) (by rw [List.length_dropLast, hvl]; omega) ?_ ?_
  · clear F N
    rintro i v I oI C oC D m₂ ys nx' h3 tk3 E' hv hsub hC hx F N off ne
    have hv2 : vs[i]? = some v := by
      have hi : i < vs.dropLast.length := (List.getElem?_eq_some_iff.mp hv).1
      rw [List.getElem?_dropLast] at hv
      split at hv
      · exact hv
      · cases hv
    obtain ⟨p, Tp, q, kf, cf, t1, t2, t3, hp, rfl, e3, e4, e5⟩ := hpl i v hv2
    have hT := hsub _ (by k_mem : (Tp, tupO #[.ref q, .int p.l t1, .int p.c t2, .int p.d t3]) ∈ _)
    have hq := hsub _ (by k_mem : (q, listOf (strValues kf).toArray cf) ∈ _)
    walk_at "mine_go"
    exact ElEnd.none (by assumption) (by assumption) (fun _ h => h) ⟨p.f, q, kf, cf, by rw [List.getElem?_map, hp]; rfl, rfl, hq, e5⟩
  · rintro g1 tk2 ys nx' hsub hyl hel
    clear F N
    have hyz : ys.length ≤ 8 := by rw [hyl, List.length_dropLast, hvl]; omega
    have hq1 := hsub _ (.tail _ (.head _))
    walk_at "mine_go"
    rename Fr _ _ _ _ => F
    rename News _ _ _ _ => N
    simp only [pin_at hm1] at F
    have hst' := hsub _ (by k_mem : (st, listOf (strValues ks).toArray c) ∈ _)
    refine h _ _ _ _ _ _ F (news_cons N (.tail _ (.tail _ (hsub _ (by k_mem : (L + 1, oc) ∈ _))))) (fun p hp => .tail _ (.tail _ (hsub _ (.tail _ (.tail _ (.tail _ hp)))))) (.head _) (by rw [List.length_append, hyl, List.length_dropLast, hvl]; simp; omega) fun j v hv => ?_
    cases j with
    | zero =>
      cases hv
      exact ⟨ks.map (·.1), st, ks, c, rfl, rfl, .tail _ (.tail _ hst'), rfl⟩
    | succ j =>
      obtain ⟨ns, a, k, c, e1, e2, e3, e4⟩ := hel j v hv
      exact ⟨ns, a, k, c, e1, e2, .tail _ (.tail _ e3), e4⟩
end
section
set_option maxHeartbeats 4000000 in
theorem law7 {prog : Program} {w : World} {dp un : Nat} {fr : Option (List Env)} {gd : Option (List Code)} {g : Heap} {body : List Stmt} {sc : Scope} {nm : Str} {L fa : Addr} {cd : Value} {Q : Flow → Shared → Prop} {E : Value → Shared → Prop} {s : Shared} {mean : ExcName → Option Value} {mg mb : Str → Option Value} {m : Str → Option Value} {oc : Obj} {nx : List (Addr × Obj)} {D : Addr} {t : Tok} {n : Nat} {kp : List (Str × Tok)} {pls : List Pl} {start : List Str}
    (hb : lawB = body) (hsc : lawSc = sc) (X : (tp.heap_39 w.params).In g) (T : Top tp.view_39 [Str.ofString "relpath"] mean mg mb g) (r : Rm dp un 20) (F : Fr g L s.heap m) (N : News g L s.heap ((L + 1, oc) :: nx))
    (hm1 : m (Str.ofString "paths") = some (.ref D)) (hm2 : m (Str.ofString "here") = some (.str (P start) t)) (hD : (D, listOf (strValues kp).toArray n) ∈ nx) (hk : kp.map (·.1) = pls.map fun p => P p.full) (hp1 : ∀ p ∈ pls, p.Ok) (hz : pls.length ≤ 20) (hh : ∀ n ∈ start, Nm n) (hhl : start.length ≤ 20)
    (h : ∀ h' tk' nx' D' k' n', Fr g L h' (fun z => if z = Str.ofString "chain" then some (.ref D') else m z) → News g L h' ((L + 1, oc) :: nx') → (∀ p ∈ nx, p ∈ nx') → (D', listOf (strValues k').toArray n') ∈ nx' → k'.map (·.1) = chainL start pls → 
      wpAny (model prog w) (AA dp un fr gd) (execs (body.drop 8) (envOfC nm sc L fa cd)) Q E { s with heap := h', toks := tk' }) :
    wpAny (model prog w) (AA dp un fr gd) (execs (body.drop 7) (envOfC nm sc L fa cd)) Q E s := by
  refine open_stmt 7 (by decide) hb ?_
  walk_at "mine_open"
  replace F := Fr.pin (y := Str.ofString "paths") F hm1
  replace F := Fr.pin (y := Str.ofString "here") F hm2
  walk_at "mine_go"
  rename Fr _ _ _ _ => F
  rename News _ _ _ _ => N
  simp only [pin_at hm1, pin_at hm2] at F
  refine h _ _ _ _ _ _ F (news_2nd N) (fun p hp => .tail _ hp) (.head _) (by assumption)
end
section
set_option maxHeartbeats 4000000 in
theorem law9 {prog : Program} {w : World} {dp un : Nat} {fr : Option (List Env)} {gd : Option (List Code)} {g : Heap} {body : List Stmt} {sc : Scope} {nm : Str} {L fa : Addr} {cd : Value} {Q : Flow → Shared → Prop} {E : Value → Shared → Prop} {s : Shared} {mean : ExcName → Option Value} {mg mb : Str → Option Value} {m : Str → Option Value} {oc : Obj} {nx : List (Addr × Obj)} {D : Addr} {vs : List Value} {n : Nat} {pls : List Pl}
    (hb : lawB = body) (hsc : lawSc = sc) (X : (tp.heap_39 w.params).In g) (T : Top tp.view_39 [Str.ofString "relpath"] mean mg mb g) (r : Rm dp un 20) (F : Fr g L s.heap m) (N : News g L s.heap ((L + 1, oc) :: nx))
    (hm1 : m (Str.ofString "places") = some (.ref D)) (hD : (D, listOf vs.toArray n) ∈ nx) (hvl : vs.length = pls.length) (hpl : PlIn nx vs pls) (hz : pls.length ≤ 8) (hp1 : ∀ p ∈ pls, p.Ok)
    (h : ∀ h' tk' nx' D' vs' n', Fr g L h' (fun z => if z = Str.ofString "told" then some (.ref D') else m z) → News g L h' ((L + 1, oc) :: nx') → (∀ p ∈ nx, p ∈ nx') → (D', listOf vs'.toArray n') ∈ nx' → vs'.length = pls.length → ToldIn nx' vs' pls → 
      wpAny (model prog w) (AA dp un fr gd) (execs (body.drop 10) (envOfC nm sc L fa cd)) Q E { s with heap := h', toks := tk' }) :
    wpAny (model prog w) (AA dp un fr gd) (execs (body.drop 9) (envOfC nm sc L fa cd)) Q E s := by
  refine open_stmt 9 (by decide) hb ?_
  walk_at "mine_open"
  replace F := Fr.pin (y := Str.ofString "places") F hm1
  walk_at "mine_go"
  rename Fr _ _ _ _ => F
  rename News _ _ _ _ => N
  refine src_el (fun i y nx' => ∃ p T q t1 t2 t3, pls[i]? = some p ∧ y = .ref T ∧ (T, tupO #[.str (P p.f) t1, .ref q]) ∈ nx' ∧ (q, tupO #[.int p.l t2, .int p.c t3]) ∈ nx') (fun i y a b hs h => by obtain ⟨p, T, q, t1, t2, t3, e1, e2, e3, e4⟩ := h; exact ⟨p, T, q, t1, t2, t3, e1, e2, hs _ e3, hs _ e4⟩) rfl F N (srcAt_of (c := n) ?_) (by rw [hvl]; omega) ?_ ?_
  · k_mem
  · clear F N
    rintro i v I oI C oC D m₂ ys nx' h3 tk3 E' hv hsub hC hx F N off ne
    obtain ⟨p, Tp, q, kf, cf, t1, t2, t3, hp, rfl, e3, e4, e5⟩ := hpl i v hv
    have hT := hsub _ (by k_mem : (Tp, tupO #[.ref q, .int p.l t1, .int p.c t2, .int p.d t3]) ∈ _)
    have hq := hsub _ (by k_mem : (q, listOf (strValues kf).toArray cf) ∈ _)
    have hpm := List.mem_of_getElem? hp
    have ok := hp1 p hpm
    have okl := ok.hl
    have okn := ok.hf
    rw [← e5] at okl okn
    rw [List.length_map] at okl
    have hok := hok_of (ys := kf.map (·.1)) (sep := Str.ofString "/") (fun y hy => Nat.le_trans (okn y hy).short (by decide)) (by rw [List.length_map]; omega) (by decide)
    have hjl := Nat.le_trans (join_le (ys := kf.map (·.1)) (sep := Str.ofString "/")) hok
    walk_at "mine_go"
    rename Fr _ _ _ _ => F
    rename News _ _ _ _ => N
    rename _ ∧ _ ∧ _ ∧ _ ∧ AllLt _ nx' => hl
    rename I < _ ∧ _ ∧ _ ∧ AllLt _ nx' => hl2
    have e : Str.ofString "/" ++ Txt.join (Str.ofString "/") (kf.map (·.1)) = P p.f := by rw [e5]; rfl
    rw [e] at N
    exact ElEnd.two F N hl.2.1 hl.2.2.1 hl.2.2.2.1 hl2.1 hl2.2.1 hl2.2.2.1 ⟨p, _, _, _, _, _, hp, rfl, .head _, .tail _ (.head _)⟩
  · rintro g1 tk2 ys nx' hsub hyl hel
    clear F N
    walk_at "mine_go"
    rename Fr _ _ _ _ => F
    rename News _ _ _ _ => N
    simp only [pin_at hm1] at F
    exact h _ _ _ _ ys _ F (news_cons N (.tail _ (hsub _ (.head _)))) (fun p hp => .tail _ (hsub _ (.tail _ hp))) (.head _) (hyl.trans hvl) (ToldIn.more hel fun p hp => .tail _ hp)
end
section
set_option maxHeartbeats 4000000 in
theorem law10 {prog : Program} {w : World} {dp un : Nat} {fr : Option (List Env)} {gd : Option (List Code)} {g : Heap} {body : List Stmt} {sc : Scope} {nm : Str} {L fa : Addr} {cd : Value} {Q : Flow → Shared → Prop} {E : Value → Shared → Prop} {s : Shared} {mean : ExcName → Option Value} {mg mb : Str → Option Value} {m : Str → Option Value} {oc : Obj} {nx : List (Addr × Obj)} {Dc Dt : Addr} {nc nt : Nat} {kc : List (Str × Tok)} {vt : List Value} {pls : List Pl} {start : List Str} {t : Tok}
    (hb : lawB = body) (hsc : lawSc = sc) (X : (tp.heap_39 w.params).In g) (T : Top tp.view_39 [Str.ofString "relpath"] mean mg mb g) (r : Rm dp un 20) (F : Fr g L s.heap m) (N : News g L s.heap ((L + 1, oc) :: nx))
    (hm1 : m (Str.ofString "here") = some (.str (P start) t)) (hm2 : m (Str.ofString "chain") = some (.ref Dc)) (hm3 : m (Str.ofString "told") = some (.ref Dt)) (hDc : (Dc, listOf (strValues kc).toArray nc) ∈ nx) (hDt : (Dt, listOf vt.toArray nt) ∈ nx) (hkl : kc.length = pls.length) (hvt : vt.length = pls.length) (htl : ToldIn nx vt pls)
    (hr : ∀ (i : Nat) (f : List Str) (p : Pl) (row : Str), (befs start pls)[i]? = some f → pls[i]? = some p → (kc.map (·.1))[i]? = some row → Hangs f row p.full) (hlc : ∀ p ∈ pls, LC p) (hp1 : ∀ p ∈ pls, p.Ok) (hh : ∀ n ∈ start, Nm n) (hhl : start.length ≤ 20) (hz : pls.length ≤ 20) (hok : ∀ p ∈ pls, SOk (P p.f))
    (h : ∀ h' tk' nx' , Fr g L h' m → News g L h' ((L + 1, oc) :: nx') → (∀ p ∈ nx, p ∈ nx') → 
      wpAny (model prog w) (AA dp un fr gd) (execs (body.drop 11) (envOfC nm sc L fa cd)) Q E { s with heap := h', toks := tk' }) :
    wpAny (model prog w) (AA dp un fr gd) (execs (body.drop 10) (envOfC nm sc L fa cd)) Q E s := by
  refine open_stmt 10 (by decide) hb ?_
  walk_at "mine_open"
  replace F := Fr.pin (y := Str.ofString "here") F hm1
  replace F := Fr.pin (y := Str.ofString "chain") F hm2
  replace F := Fr.pin (y := Str.ofString "told") F hm3
  walk_at "mine_go_cmp"
  rename Fr _ _ _ _ => F
  rename News _ _ _ _ => N
  rename ToldIn _ _ pls => htl2
  refine ne_told N (List.mem_append_left _ (by assumption)) (List.mem_append_right _ (.tail _ hDt)) (by assumption) (htl2.more fun p hp => List.mem_append_left _ hp) hvt (htl.more fun p hp => List.mem_append_right _ (.tail _ hp)) hok (by walk_at "mine_room") ?_
  walk_at "mine_go"
  simp only [pin_at hm1, pin_at hm2, pin_at hm3] at F
  exact h _ _ _ F (news_cons N (List.mem_append_right _ (.head _))) (fun p hp => List.mem_append_right _ (.tail _ hp))
end
section
set_option maxHeartbeats 4000000 in
theorem law12 {prog : Program} {w : World} {dp un : Nat} {fr : Option (List Env)} {gd : Option (List Code)} {g : Heap} {body : List Stmt} {sc : Scope} {nm : Str} {L fa : Addr} {cd : Value} {Q : Flow → Shared → Prop} {E : Value → Shared → Prop} {s : Shared} {mean : ExcName → Option Value} {mg mb : Str → Option Value} {m : Str → Option Value} {oc : Obj} {nx : List (Addr × Obj)} {Dc Dt : Addr} {nc nt : Nat} {kc : List (Str × Tok)} {vt : List Value} {pls : List Pl} {start : List Str} {t : Tok}
    (hb : lawB = body) (hsc : lawSc = sc) (X : (tp.heap_39 w.params).In g) (T : Top tp.view_39 [Str.ofString "relpath"] mean mg mb g) (r : Rm dp un 20) (F : Fr g L s.heap m) (N : News g L s.heap ((L + 1, oc) :: nx))
    (hm1 : m (Str.ofString "here") = some (.str (P start) t)) (hm2 : m (Str.ofString "bent") = some (.ref Dc)) (hm3 : m (Str.ofString "told") = some (.ref Dt)) (hDc : (Dc, listOf (strValues kc).toArray nc) ∈ nx) (hDt : (Dt, listOf vt.toArray nt) ∈ nx) (hkl : kc.length = pls.length) (hvt : vt.length = pls.length) (htl : ToldIn nx vt pls)
    (hr : ∀ (i : Nat) (f : List Str) (p : Pl) (row : Str), (befs start pls)[i]? = some f → pls[i]? = some p → (kc.map (·.1))[i]? = some row → Hangs f row p.full) (hlc : ∀ p ∈ pls, LC p) (hp1 : ∀ p ∈ pls, p.Ok) (hh : ∀ n ∈ start, Nm n) (hhl : start.length ≤ 20) (hz : pls.length ≤ 20) (hok : ∀ p ∈ pls, SOk (P p.f))
    (h : ∀ h' tk' nx' , Fr g L h' m → News g L h' ((L + 1, oc) :: nx') → (∀ p ∈ nx, p ∈ nx') → 
      wpAny (model prog w) (AA dp un fr gd) (execs (body.drop 13) (envOfC nm sc L fa cd)) Q E { s with heap := h', toks := tk' }) :
    wpAny (model prog w) (AA dp un fr gd) (execs (body.drop 12) (envOfC nm sc L fa cd)) Q E s := by
  refine open_stmt 12 (by decide) hb ?_
  walk_at "mine_open"
  replace F := Fr.pin (y := Str.ofString "here") F hm1
  replace F := Fr.pin (y := Str.ofString "bent") F hm2
  replace F := Fr.pin (y := Str.ofString "told") F hm3
  walk_at "mine_go_cmp"
  rename Fr _ _ _ _ => F
  rename News _ _ _ _ => N
  rename ToldIn _ _ pls => htl2
  refine ne_told N (List.mem_append_left _ (by assumption)) (List.mem_append_right _ (.tail _ hDt)) (by assumption) (htl2.more fun p hp => List.mem_append_left _ hp) hvt (htl.more fun p hp => List.mem_append_right _ (.tail _ hp)) hok (by walk_at "mine_room") ?_
  walk_at "mine_go"
  simp only [pin_at hm1, pin_at hm2, pin_at hm3] at F
  exact h _ _ _ F (news_cons N (List.mem_append_right _ (.head _))) (fun p hp => List.mem_append_right _ (.tail _ hp))
end
section
set_option maxHeartbeats 4000000 in
theorem law14 {prog : Program} {w : World} {dp un : Nat} {fr : Option (List Env)} {gd : Option (List Code)} {g : Heap} {body : List Stmt} {sc : Scope} {nm : Str} {L fa : Addr} {cd : Value} {Q : Flow → Shared → Prop} {E : Value → Shared → Prop} {s : Shared} {mean : ExcName → Option Value} {mg mb : Str → Option Value} {m : Str → Option Value} {oc : Obj} {nx : List (Addr × Obj)} {D : Addr} {vs : List Value} {n : Nat} {pls : List Pl} {st : Addr} {c : Nat} {ks : List (Str × Tok)}
    (hb : lawB = body) (hsc : lawSc = sc) (X : (tp.heap_39 w.params).In g) (T : Top tp.view_39 [Str.ofString "relpath"] mean mg mb g) (r : Rm dp un 20) (F : Fr g L s.heap m) (N : News g L s.heap ((L + 1, oc) :: nx))
    (hoc : oc.data = .cell (some (.ref st))) (hst : (st, listOf (strValues ks).toArray c) ∈ nx) (hksl : ks.length ≤ 3) (hm1 : m (Str.ofString "fulls") = some (.ref D)) (hD : (D, listOf vs.toArray n) ∈ nx) (hvl : vs.length = pls.length) (hls : LsAt nx vs (pls.map Pl.full)) (hz : pls.length ≤ 8) (hz0 : 0 < pls.length) (hp1 : ∀ p ∈ pls, p.Ok)
    (h : ∀ h' tk' nx' t' M, Fr g L h' (fun z => if z = Str.ofString "count" then some (.int ((M : Nat) : Int) t') else m z) → News g L h' ((L + 1, oc) :: nx') → (∀ p ∈ nx, p ∈ nx') → (∃ p ∈ pls, M = cpl (ks.map (·.1)) (Pl.full p)) → (∀ p ∈ pls, M ≤ cpl (ks.map (·.1)) (Pl.full p)) → 
      wpAny (model prog w) (AA dp un fr gd) (execs (body.drop 15) (envOfC nm sc L fa cd)) Q E { s with heap := h', toks := tk' }) :
    wpAny (model prog w) (AA dp un fr gd) (execs (body.drop 14) (envOfC nm sc L fa cd)) Q E s := by
  refine open_stmt 14 (by decide) hb ?_
  walk_at "mine_open"
  replace F := Fr.pin (y := Str.ofString "fulls") F hm1
  walk_at "mine_go"
  rename Fr _ _ _ _ => F
  rename News _ _ _ _ => N
  refine src_el (fun i y _ => ∃ p t, pls[i]? = some p ∧ y = .int (cpl (ks.map (·.1)) p.full) t) (fun _ _ _ _ _ h => h) rfl F N (srcAt_of (c := n) ?_) (by rw [hvl]; omega) ?_ ?_
  · k_mem
  · clear F N
    rintro i v I oI C oC D m₂ ys nx' h3 tk3 E' hv hsub hC hx F N off ne
    obtain ⟨ns, q, kf, cf, hp, rfl, e3, rfl⟩ := hls i v hv
    obtain ⟨p, hp, e5⟩ : ∃ p, pls[i]? = some p ∧ Pl.full p = kf.map (·.1) := by
      rw [List.getElem?_map, Option.map_eq_some_iff] at hp; exact hp
    have hq := hsub _ (by k_mem : (q, listOf (strValues kf).toArray cf) ∈ _)
    have hst' := hsub _ (by k_mem : (st, listOf (strValues ks).toArray c) ∈ _)
    have hcell := hsub _ (by k_mem : (L + 1, oc) ∈ _)
    have ok := hp1 p (List.mem_of_getElem? hp)
    have okl := ok.len
    rw [e5, List.length_map] at okl
    walk_at "mine_go"
    exact ElEnd.none (by assumption) (by assumption) (fun _ h => h) ⟨p, _, hp, by rw [e5]⟩
  · rintro g1 tk2 ys nx' hsub hyl hel
    have hri : IntsAre ys (pls.map fun p => ((cpl (ks.map (·.1)) p.full : Nat) : Int)) := ints_of (by rw [hyl, hvl, List.length_map]) fun j y hy => by
      obtain ⟨p, t, hp, rfl⟩ := hel j y hy
      exact ⟨_, t, rfl, by rw [List.getElem?_map, hp]; rfl⟩
    clear F N
    walk_at "mine_go"
    rename Fr _ _ _ _ => F
    rename News _ _ _ _ => N
    simp only [pin_at hm1] at F
    rename _ ∈ List.map _ pls => hmem
    rename ∀ a, a ∈ List.map _ pls → _ => hmin
    obtain ⟨p, hp, rfl⟩ := List.mem_map.mp hmem
    exact h _ _ _ _ _ F (news_cons N (.tail _ (hsub _ (.head _)))) (fun p hp => .tail _ (hsub _ (.tail _ hp))) ⟨p, hp, rfl⟩ fun q hq => Int.ofNat_le.mp (hmin _ (List.mem_map.mpr ⟨q, hq, rfl⟩))
end
section
theorem add_left {prog : Program} {w : World} {A : Around} {E : Value → Shared → Prop} {s : Shared} {h₀ : Heap} {L a b : Addr} {m : Str → Option Value} {news : List (Addr × Obj)} {Q : Value → Shared → Prop} {kb : List (Str × Tok)} {y : Str} {t : Tok} (F : Fr h₀ L s.heap m) (N : News h₀ L s.heap news) (ha : s.heap.IsList a [Value.str y t].toArray) (hb : s.heap.IsList b (strValues kb).toArray) (hz : kb.length ≤ 1000)
    (h : ∀ D h', Fr h₀ L h' m → News h₀ L h' ((D, listOf (strValues ((y, t) :: kb)).toArray 0) :: news) → (∀ p ∈ news, p.1 < D) → Q (.ref D) { s with heap := h' }) : wpAny (model prog w) A (binaryOp .Add (.ref a) (.ref b)) Q E s :=
  add_strs (ka := [(y, t)]) F N ha hb (by simp; omega) h
local macro_rules | `(tactic| walk_at "binaryOp Add ref ref") => `(tactic| (k_here; k_dflt (refine' add_left ?F ?N ?ha ?hb ?hz ?_; (case F => k_asm); (case N => k_asm); (case ha => walk_at "mine_list"); (case hb => walk_at "mine_list"); (case hz => walk_at "mine_fit"); k_whole); intro D' h' F' N' l'; (try k_lt l'); (try k_sweep)))
set_option maxHeartbeats 4000000 in
theorem law15 {prog : Program} {w : World} {dp un : Nat} {fr : Option (List Env)} {gd : Option (List Code)} {g : Heap} {body : List Stmt} {sc : Scope} {nm : Str} {L fa : Addr} {cd : Value} {Q : Flow → Shared → Prop} {E : Value → Shared → Prop} {s : Shared} {mean : ExcName → Option Value} {mg mb : Str → Option Value} {m : Str → Option Value} {oc : Obj} {nx : List (Addr × Obj)} {Dp : Addr} {np : Nat} {kp : List (Str × Tok)} {pls : List Pl} {st : Addr} {c M : Nat} {ks : List (Str × Tok)} {t tM : Tok}
    (hb : lawB = body) (hsc : lawSc = sc) (X : (tp.heap_39 w.params).In g) (T : Top tp.view_39 [Str.ofString "relpath"] mean mg mb g) (r : Rm dp un 20) (F : Fr g L s.heap m) (N : News g L s.heap ((L + 1, oc) :: nx))
    (hoc : oc.data = .cell (some (.ref st))) (hst : (st, listOf (strValues ks).toArray c) ∈ nx) (hksl : ks.length ≤ 3) (hsz : ∀ y ∈ ks.map (·.1), Nm y) (hm1 : m (Str.ofString "here") = some (.str (P (ks.map (·.1))) t)) (hm2 : m (Str.ofString "paths") = some (.ref Dp)) (hDp : (Dp, listOf (strValues kp).toArray np) ∈ nx) (hkp : kp.map (·.1) = pls.map fun p => P p.full) (hm3 : m (Str.ofString "count") = some (.int ((M : Nat) : Int) tM))
    (hMl : M ≤ 3) (hp1 : ∀ p ∈ pls, p.Ok) (hz : pls.length ≤ 8)
    (hM : ∀ (ks' : List (List (Str × Tok))) (k1 k2 : List (Str × Tok)), ks'.map (·.map (·.1)) = ((P (ks.map (·.1))) :: pls.map fun p => P p.full).map flt → ks'[argBest (btL ks') (ks'.length - 1)]? = some k1 → ks'[argBest (btG ks') (ks'.length - 1)]? = some k2 → (k1.map (·.1)).take (cpl (k1.map (·.1)) (k2.map (·.1))) = (ks.map (·.1)).take M)
    (h : ∀ h' tk' m', Fr g L h' m' → Q (.ret (.bool true)) { s with heap := h', toks := tk' }) :
    wpAny (model prog w) (AA dp un fr gd) (execs (body.drop 15) (envOfC nm sc L fa cd)) Q E s := by
  refine open_stmt 15 (by decide) hb ?_
  walk_at "mine_open"
  replace F := Fr.pin (y := Str.ofString "here") F hm1
  replace F := Fr.pin (y := Str.ofString "paths") F hm2
  replace F := Fr.pin (y := Str.ofString "count") F hm3
  have hkl : kp.length = pls.length := by rw [← List.length_map (f := fun x : Str × Tok => x.1), hkp, List.length_map]
  have hq1 := hst
  have hq2 := hDp
  have hok := hok_of (ys := (ks.take M).map (·.1)) (sep := Str.ofString "/") (fun y hy => by
    rw [List.map_take] at hy
    exact Nat.le_trans (hsz y (List.mem_of_mem_take hy)).short (by decide)) (by rw [List.length_map, List.length_take]; omega) (by decide)
  have hjl := Nat.le_trans (join_le (ys := (ks.take M).map (·.1)) (sep := Str.ofString "/")) hok
  walk_at "mine_go"
  rename Fr _ _ _ _ => F
  rename News _ _ _ _ => N
  have hPs : ∀ x ∈ ((P (ks.map (·.1)), t) :: kp).map (·.1), Txt.startswith x (Str.ofString "/") = true ∧ x.length ≤ 1000 := by
    intro x hx
    rw [List.map_cons, hkp] at hx
    rcases List.mem_cons.mp hx with rfl | hx
    · have := P_len hsz
      rw [List.length_map] at this
      exact ⟨starts_sl _, by show (P (ks.map (·.1))).length ≤ _; omega⟩
    · obtain ⟨p, hp, rfl⟩ := List.mem_map.mp hx
      have h1 := P_len (hp1 p hp).names
      have h2 := (hp1 p hp).len
      exact ⟨starts_sl _, by omega⟩
  refine wpAny_call (c_commonpath (k := (P (ks.map (·.1)), t) :: kp) (X.keeps F.keep) (T.keeps F.keep) (r.less (by decide)) (News.isList N (.head _)) (by rw [List.length_cons, hkl]; omega) (Nat.zero_lt_succ _) (fun x hx => (hPs x hx).1) (fun x hx => (hPs x hx).2) ?_)
  intro h2 ks' k1 k2 tk2 tk3 hks hk1 hk2 st2
  rw [hM ks' k1 k2 (by rw [hks, List.map_cons, hkp]) hk1 hk2]
  have F2 := fr_stays F st2
  have N2 := news_stays N st2
  clear F N st2
  (try dsimp only)
  walk_at "mine_go"
  rw [List.map_take, beq_self_eq_true]
  rename Fr _ _ _ _ => F3
  exact h _ _ _ F3
end
section
open LCg LCp
def ZEnd (h₀ : Heap) (L : Addr) (m : Str → Option Value) (s₁ : Shared) (led : List (Addr × Obj)) (K : Value → Prop) (y : Value) (s₂ : Shared) : Prop :=
  ∃ h' tk, s₂ = { s₁ with heap := h', toks := tk } ∧ Fr h₀ L h' m ∧ News h₀ L h' led ∧ K y
theorem ZEnd.intro {h₀ h' : Heap} {L : Addr} {m : Str → Option Value} {s₁ : Shared} {led : List (Addr × Obj)} {K : Value → Prop} {y : Value} {tk : Nat} (F : Fr h₀ L h' m) (N : News h₀ L h' led) (hk : K y) : ZEnd h₀ L m s₁ led K y { s₁ with heap := h', toks := tk } := ⟨h', tk, rfl, F, N, hk⟩
section
variable {prog : Program} {w : World} {A : Around} {E : Value → Shared → Prop} {s : Shared} {h₀ : Heap} {L : Addr} {m : Str → Option Value} {env : Env}
/-- the turns of a comprehension over pairs, drawn by an iterator that keeps more than itself -/
theorem block_Z {elt iter : Expr} {x x₂ : Str} {px px₂ tp : Pos} {tk : Nat} {scope : Scope} {cl : List (Str × Addr)} {pos : Pos} {s₂ : Shared} {I : Addr} {fp wr : List Addr} {n : Nat} {Pt : Nat → Array Value → Prop} {St : Nat → Heap → Prop} {Mid : Nat → Addr → Heap → Prop} {nx : List (Addr × Obj)}
    {El : Nat → Value → Prop} {RR : Value → Addr → Result → Shared → Prop}
    (W : WalksT prog w A I fp wr n Pt St Mid) (hsz : n ≤ sizeLine) (hP : ∀ i vals, Pt i vals → ∃ v1 v2, vals = #[v1, v2])
    (hcell : ∀ y ∈ scope.names, y.2 ≠ .cell) (hkind : scope.kind = .function) (hx : scope.names.lookup x = some .local) (hx₂ : scope.names.lookup x₂ = some .local) (hxx : x ≠ x₂) (hh : A.handled = none) (hst : St 0 s₂.heap) (hfp : ∀ b ∈ fp, b < s₂.heap.objs.size)
    (F : Fr h₀ L s₂.heap m) (N : News h₀ L s₂.heap nx) (hLf : L ∉ fp) (hwr₀ : ∀ b ∈ wr, h₀.get? b = none) (off : ∀ p ∈ nx, p.1 ∉ wr)
    (turn : ∀ (i : Nat) v1 v2 C oC D m₂ ys own h tk (E' : Value → Shared → Prop), i < n → Pt i #[v1, v2] → NsObj oC m₂ → m₂ x = some v1 → m₂ x₂ = some v2 → Fr h₀ L h m → News h₀ L h ((C, oC) :: (D, lst ys) :: own) → (∀ p ∈ nx, p ∈ own) →
      wpAny (model prog w) A (eval elt (compEnvC scope cl C env)) (ZEnd h₀ L m { s₂ with heap := h, toks := tk } ((C, oC) :: (D, lst ys) :: own) (El i)) E' { s₂ with heap := h, toks := tk })
    (hRR : ∀ D C h tk m' ys, Fr h₀ L h m → News h₀ L h ((D, lst ys) :: nx) → h.Ns C m' → h₀.get? C = none → h₀.get? D = none → C ≠ L → D ≠ L → C ≠ D → (∀ p ∈ nx, p.1 ≠ C) → (∀ p ∈ nx, p.1 ≠ D) → ys.length = n → (∀ (j : Nat) y, ys[j]? = some y → El j y) → RR (.ref D) C (.ok .next) { s₂ with heap := h, toks := tk }) :
    wpAny (model prog w) A (newList []) (fun acc s₃ => wpAny (model prog w) A (newFunctionEnv scope env.globals cl [] env.qual none .none (some env)) (fun cenv s₄ =>
      codeAny (model prog w) A (.compStart (.ListComp elt [⟨.Tuple [.Name x px, .Name x₂ px₂] tk tp, iter, [], 0⟩] scope pos) 0 (.ref I) acc { cenv with scope := relabel scope env }) (RR acc cenv.locals) s₄) E s₃) E s₂ := by
  refine wpAny_newObj_type (wpAny_newFunctionEnv hcell (by intro y hy; simp at hy) (fun h₁ hns₁ hsb₁ => ?_) hkind)
  dsimp only at hns₁ hsb₁ ⊢
  generalize hH2 : s₂.heap.push { cls := .type "list", dict := none, data := .seq ([] : List Value).toArray } = H2 at hns₁ hsb₁ ⊢
  have hC : H2.objs.size = s₂.heap.objs.size + 1 := by rw [← hH2, Heap.size_push]
  have hDC : s₂.heap.objs.size ≠ H2.objs.size := by rw [hC]; exact Nat.ne_of_lt (Nat.lt_succ_self _)
  have below : ∀ b, b < s₂.heap.objs.size → b ≠ H2.objs.size ∧ b ≠ s₂.heap.objs.size := fun b hb => ⟨by rw [hC]; exact Nat.ne_of_lt (Nat.lt_succ_of_lt hb), Nat.ne_of_lt hb⟩
  have hDf : s₂.heap.objs.size ∉ fp := fun hm => Nat.lt_irrefl _ (hfp _ hm)
  have hCf : H2.objs.size ∉ fp := fun hm => by have := hfp _ hm; rw [hC] at this; exact Nat.lt_irrefl _ (Nat.lt_of_succ_lt this)
  have old : ∀ b o, s₂.heap.get? b = some o → h₁.get? b = some o := fun b o e => hsb₁.extBut b o (below b (Heap.lt_size e)).1 (Heap.get?_push_of_some _ (hH2 ▸ Heap.get?_push_of_some _ e))
  have hacc : h₁.get? s₂.heap.objs.size = some (lst []) := hsb₁.extBut _ _ hDC (Heap.get?_push_of_some _ (hH2 ▸ Heap.get?_push_size _ rfl))
  have hst₁ : St 0 h₁ := W.frame _ _ _ hst fun b _ o e => old b o e
  have fresh : ∀ a, s₂.heap.objs.size ≤ a → s₂.heap.get? a = none := fun a ha => by
    cases e : s₂.heap.get? a with
    | none => rfl
    | some o' => exact absurd (Heap.lt_size e) (Nat.not_lt.mpr ha)
  have fresh₀ : ∀ a, s₂.heap.objs.size ≤ a → h₀.get? a = none := fun a ha => by
    cases e : h₀.get? a with
    | none => rfl
    | some o' => have := F.keep a o' e; rw [fresh a ha] at this; cases this
  have hD₀ : h₀.get? s₂.heap.objs.size = none := fresh₀ _ (Nat.le_refl _)
  have hC₀ : h₀.get? H2.objs.size = none := fresh₀ _ (by rw [hC]; exact Nat.le_succ _)
  have hLlt : L < s₂.heap.objs.size := F.ns.lt
  have hDL : s₂.heap.objs.size ≠ L := Ne.symm (below L hLlt).2
  have hCL : H2.objs.size ≠ L := Ne.symm (below L hLlt).1
  have offC : ∀ p ∈ nx, p.1 ≠ H2.objs.size := fun p hp => (below _ (Heap.lt_size (N p hp).1)).1
  have offD : ∀ p ∈ nx, p.1 ≠ s₂.heap.objs.size := fun p hp => (below _ (Heap.lt_size (N p hp).1)).2
  have hCw : H2.objs.size ∉ wr := fun hm => hCf (W.sub _ hm)
  have hDw : s₂.heap.objs.size ∉ wr := fun hm => hDf (W.sub _ hm)
  have hLw : L ∉ wr := fun hm => hLf (W.sub _ hm)
  have frk : ∀ {g g' : Heap}, Fr h₀ L g m → (∀ b o, b ∉ wr → g.get? b = some o → g'.get? b = some o) → Fr h₀ L g' m := fun Fg hk =>
    ⟨Fg.ns.at' fun o e => hk L o hLw e, fun b o e => hk b o (fun hm => by rw [hwr₀ b hm] at e; cases e) (Fg.keep b o e), Fg.above⟩
  have loop : ∀ s₃ : Shared, s₃ = { s₂ with heap := h₁, toks := s₂.toks + ([] : List (Str × Value)).length } →
      codeAny (model prog w) A (.compLoop (.ListComp elt [⟨.Tuple [.Name x px, .Name x₂ px₂] tk tp, iter, [], 0⟩] scope pos) 0 (.ref I) (.ref s₂.heap.objs.size) (compEnvC scope cl H2.objs.size env))
        (RR (.ref s₂.heap.objs.size) H2.objs.size) s₃ := by
    rintro s₃ rfl
    refine codeAny_compLoop_pair
      (fun k s' => ∃ h' tk i ys m', s' = { s₂ with heap := h', toks := tk } ∧ i ≤ n ∧ k = n + 1 - i ∧ ys.length = i ∧ St i h' ∧ Fr h₀ L h' m ∧ h'.Ns H2.objs.size m' ∧ News h₀ L h' ((s₂.heap.objs.size, lst ys) :: nx) ∧ (∀ (j : Nat) y, ys[j]? = some y → El j y)) ?_ (n + 1)
      ⟨h₁, _, 0, [], _, rfl, Nat.zero_le _, rfl, rfl, hst₁, F.keeps old, hns₁, fun p hp => ?_, fun j y h => by simp at h⟩
    · rintro k s' ⟨h', tk, i, ys, m', rfl, hi, rfl, hyl, hst', F', hn', N', hel⟩
      by_cases hlt : i < n
      · refine W.item i _ _ _ hlt hst' fun Tt vals h₂ tk₂ hPv hTs hTup hMid hk₂ => ?_
        obtain ⟨v1, v2, rfl⟩ := hP _ _ hPv
        refine W.go _ _ _ i Tt { s₂ with heap := h₂, toks := tk₂ } _ _ hMid fun h₃ hst₃ hk₃ => ?_
        have hTw : Tt ∉ wr := W.apart _ _ _ hMid
        have ht : IsTup h₃ Tt #[v1, v2] := by obtain ⟨o, e, r⟩ := hTup; exact ⟨o, hk₃ _ _ hTw e, r⟩
        refine assign_Tuple_tuple hh ht rfl rfl fun h₅ he => ?_
        have he' : ∀ b o, h₃.get? b = some o → h₅.get? b = some o := fun b o e => he b o (Nat.ne_of_lt (Heap.lt_size e)) e
        refine assignInOrder_cons (wpAny_assign_Name (wpAny_storeName_local (lookup_relabel_local hx) (((hn'.at' fun o e => hk₂ _ o hCw e).at' fun o e => hk₃ _ o hCw e).at' fun o e => he' _ o e) (fun h₆ hn₆ hs₆ => ?_) (by simp [compEnvC, relabel, hkind])))
        refine assignInOrder_cons (wpAny_assign_Name (wpAny_storeName_local (lookup_relabel_local hx₂) hn₆ (fun h₇ hn₇ hs₇ => ?_) (by simp [compEnvC, relabel, hkind])))
        refine assignInOrder_nil ?_
        have keepw : ∀ b o, b ∉ wr → b ≠ H2.objs.size → h'.get? b = some o → h₇.get? b = some o := fun b o hb hbC e => hs₇.extBut b o hbC (hs₆.extBut b o hbC (he' b o (hk₃ b o hb (hk₂ b o hb e))))
        have hst₇ : St (i + 1) h₇ := W.frame _ _ _ hst₃ fun b hb o e => by
          have hbC : b ≠ H2.objs.size := fun q => hCf (q ▸ hb)
          exact hs₇.extBut b o hbC (hs₆.extBut b o hbC (he' b o e))
        have F₇ : Fr h₀ L h₇ m := (((frk (frk F' hk₂) hk₃).keeps he').change hs₆ hCL hC₀).change hs₇ hCL hC₀
        obtain ⟨oC, heC, hoC⟩ := ns_obj hn₇
        have N₇ : News h₀ L h₇ ((H2.objs.size, oC) :: (s₂.heap.objs.size, lst ys) :: (ownOf h₀ fp h₇ ++ nx)) := fun p hp => by
          simp only [List.mem_cons, List.mem_append] at hp
          rcases hp with rfl | rfl | hp | hp
          · exact ⟨heC, hCL, hC₀⟩
          · exact ⟨keepw _ _ hDw hDC (N' _ (.head _)).1, hDL, hD₀⟩
          · exact news_ownOf hLf p hp
          · exact ⟨keepw _ _ (off p hp) (offC p hp) (N' p (.tail _ hp)).1, (N' p (.tail _ hp)).2⟩
        refine wpAny_mono (turn i v1 v2 H2.objs.size oC s₂.heap.objs.size _ ys _ h₇ _ _ hlt hPv hoC (by simp [hxx]) (by simp) F₇ N₇ fun p hp => List.mem_append_right _ hp) (fun y s₈ h₈ => ?_) fun _ _ e => e
        obtain ⟨g, tk₄, rfl, Fg, Ng, hEl⟩ := h₈
        have zC := (Ng (H2.objs.size, oC) (.head _)).1
        have zD := (Ng (s₂.heap.objs.size, lst ys) (.tail _ (.head _))).1
        have hstg : St (i + 1) g := W.frame _ _ _ hst₇ fun b hb o e => by
          cases hn : h₀.get? b with
          | some o₀ =>
            have : o₀ = o := by have := F₇.keep b o₀ hn; rw [e] at this; exact (Option.some.inj this).symm
            exact this ▸ Fg.keep b o₀ hn
          | none => exact (Ng _ (.tail _ (.tail _ (List.mem_append_left _ (mem_ownOf hb hn e))))).1
        refine append_at (hsz := by show ys.toArray.size ≤ sizeLine; rw [List.size_toArray, hyl]; exact Nat.le_trans hi hsz) zD fun h₅ hs₅ hD₅ => ?_
        refine ⟨n + 1 - (i + 1), by omega, h₅, tk₄, i + 1, ys ++ [y], _, rfl, hlt, rfl, by rw [List.length_append, List.length_singleton, hyl], W.frame _ _ _ hstg fun b hb o e => hs₅.extBut b o (fun q => hDf (q ▸ hb)) e, Fg.change hs₅ hDL hD₀,
          (hoC.ns zC).sameBut hs₅ (Ne.symm hDC), fun p hp => ?_, fun j y' hj => ?_⟩
        · rcases List.mem_cons.mp hp with rfl | hp
          · exact ⟨hD₅.trans (congrArg some (lst_snoc ys y)), hDL, hD₀⟩
          · have z := Ng p (.tail _ (.tail _ (List.mem_append_right _ hp)))
            exact ⟨hs₅.extBut _ _ (offD p hp) z.1, z.2⟩
        · by_cases c : j < ys.length
          · rw [List.getElem?_append_left c] at hj
            exact hel j y' hj
          · have e2 : j = ys.length := by
              have := (List.getElem?_eq_some_iff.mp hj).1
              simp at this; omega
            subst e2
            rw [List.getElem?_append_right (Nat.le_refl _), Nat.sub_self] at hj
            cases hj
            rw [hyl]; exact hEl
      · obtain rfl : i = n := Nat.le_antisymm hi (Nat.not_lt.mp hlt)
        refine W.done _ _ _ hst' fun h₂ tk₂ hk₂ => ?_
        exact hRR _ _ h₂ tk₂ _ ys (frk F' hk₂) (fun p hp => by
          have hw : p.1 ∉ wr := by
            rcases List.mem_cons.mp hp with rfl | hp
            · exact hDw
            · exact off p hp
          exact ⟨hk₂ _ _ hw (N' p hp).1, (N' p hp).2⟩) (hn'.at' fun o e => hk₂ _ o hCw e) hC₀ hD₀ hCL hDL (Ne.symm hDC) offC offD hyl hel
    · rcases List.mem_cons.mp hp with rfl | hp
      · exact ⟨hacc, hDL, hD₀⟩
      · exact ⟨old _ _ (N p hp).1, (N p hp).2⟩
  exact codeAny_compStart_list (loop _ rfl) (W.self 0 _ _ _ hst₁ (loop _ rfl))
end
def SrcZ (prog : Program) (w : World) (A : Around) (h₀ : Heap) (L : Addr) (m : Str → Option Value) (env : Env) (elt : Expr) (x x₂ : Str) (scope : Scope) (cl : List (Str × Addr)) (Fin : Shared → List Value → List (Addr × Obj) → Prop) (it : Value) (s₂ : Shared) : Prop :=
  ∃ (I : Addr) (fp wr : List Addr) (n : Nat) (Pt : Nat → Array Value → Prop) (St : Nat → Heap → Prop) (Mid : Nat → Addr → Heap → Prop) (nx : List (Addr × Obj)) (El : Nat → Value → Prop), it = .ref I ∧ WalksT prog w A I fp wr n Pt St Mid ∧ n ≤ sizeLine ∧ (∀ i vals, Pt i vals → ∃ v1 v2, vals = #[v1, v2]) ∧ A.handled = none ∧ St 0 s₂.heap ∧ (∀ b ∈ fp, b < s₂.heap.objs.size) ∧
    Fr h₀ L s₂.heap m ∧ News h₀ L s₂.heap nx ∧ L ∉ fp ∧ (∀ b ∈ wr, h₀.get? b = none) ∧ (∀ p ∈ nx, p.1 ∉ wr) ∧
    (∀ (i : Nat) v1 v2 C oC D m₂ ys own h tk (E' : Value → Shared → Prop), i < n → Pt i #[v1, v2] → NsObj oC m₂ → m₂ x = some v1 → m₂ x₂ = some v2 → Fr h₀ L h m → News h₀ L h ((C, oC) :: (D, lst ys) :: own) → (∀ p ∈ nx, p ∈ own) →
      wpAny (model prog w) A (eval elt (compEnvC scope cl C env)) (ZEnd h₀ L m { s₂ with heap := h, toks := tk } ((C, oC) :: (D, lst ys) :: own) (El i)) E' { s₂ with heap := h, toks := tk }) ∧
    (∀ ys, ys.length = n → (∀ (j : Nat) y, ys[j]? = some y → El j y) → Fin s₂ ys nx)
theorem off1_of {D : Addr} : ∀ {l : List (Addr × Obj)}, (∀ p ∈ l, p.1 ≠ D) → Off1 D l
  | [], _ => trivial
  | _ :: _, h => ⟨h _ (.head _), off1_of fun p hp => h p (.tail _ hp)⟩
section
variable {prog : Program} {w : World} {A : Around} {E : Value → Shared → Prop} {s : Shared} {h₀ : Heap} {L : Addr} {m : Str → Option Value} {env : Env}
theorem ListComp_Z {elt iter : Expr} {x x₂ : Str} {px px₂ tp : Pos} {tk : Nat} {scope : Scope} {cl : List (Str × Addr)} {pos : Pos} {Q : Value → Shared → Prop} (_F₀ : Fr h₀ L s.heap m)
    (hclos : closureFor scope env = pure cl) (hcell : ∀ y ∈ scope.names, y.2 ≠ .cell) (hkind : scope.kind = .function)
    (hnames : ∀ y ∈ scope.names, y.2 = .local → scope.names.lookup y.1 = some .local) (hx : scope.names.lookup x = some .local) (hx₂ : scope.names.lookup x₂ = some .local) (hxx : x ≠ x₂)
    (h : wpAny (model prog w) A (eval iter env) (fun xv s₁ => wpAny (model prog w) A (pyIter xv) (SrcZ prog w A h₀ L m env elt x x₂ scope cl (fun s₂ => FinE h₀ L m s₂ Q)) E s₁) E s)
    (hs : ∀ x, foldedSetIterable iter env x = pure x := by intro _; rfl) :
    wpAny (model prog w) A (eval (.ListComp elt [⟨.Tuple [.Name x px, .Name x₂ px₂] tk tp, iter, [], 0⟩] scope pos) env) Q E s := by
  rw [eval_ListComp]
  refine wpAny_comprehension_free (use := none) rfl hs hclos hkind hnames (wpAny_mono h (fun xv s₁ h₁ => wpAny_mono h₁ (fun it s₂ h₂ => ?_) fun _ _ e => e) fun _ _ e => e)
  obtain ⟨I, fp, wr, n, Pt, St, Mid, nx, El, rfl, W, hsz, hP, hh, hst, hfp, F, N, hLf, hwr, off, turn, fin⟩ := h₂
  refine block_Z W hsz hP hcell hkind hx hx₂ hxx hh hst hfp F N hLf hwr off turn ?_
  intro D C h tk m' ys F' N' hn hC₀ hD₀ hCL hDL hCD offC offD hyl hel
  refine ⟨m', hn, fun h'' hs'' => fin ys hyl hel D h'' tk (F'.change hs'' hCL hC₀) (fun p hp => ?_) (off1_of offD)⟩
  refine ⟨hs''.extBut _ _ ?_ (N' p hp).1, (N' p hp).2⟩
  rcases List.mem_cons.mp hp with rfl | hp
  · exact Ne.symm hCD
  · exact offC p hp
theorem Assign_ListComp_Z {elt iter : Expr} {x x₂ y : Str} {px px₂ tp py : Pos} {tk : Nat} {scope : Scope} {cl : List (Str × Addr)} {pos spos : Pos} {Q : Flow → Shared → Prop} (_F₀ : Fr h₀ L s.heap m) (hLe : env.locals = L)
    (hsw : swapsWith (.ListComp elt [⟨.Tuple [.Name x px, .Name x₂ px₂] tk tp, iter, [], 0⟩] scope pos) (some (.Name y py)) spos.line env = pure true)
    (hclos : closureFor scope env = pure cl) (hcell : ∀ z ∈ scope.names, z.2 ≠ .cell) (hkind : scope.kind = .function)
    (hnames : ∀ z ∈ scope.names, z.2 = .local → scope.names.lookup z.1 = some .local) (hx : scope.names.lookup x = some .local) (hx₂ : scope.names.lookup x₂ = some .local) (hxx : x ≠ x₂)
    (hy : env.kindOf y = some .local) (hp : (env.scope.kind == .class || (env.scope.kind == .module && env.locals != env.globals)) = false)
    (h : wpAny (model prog w) A (eval iter env) (fun xv s₁ => wpAny (model prog w) A (pyIter xv) (SrcZ prog w A h₀ L m env elt x x₂ scope cl (fun s₂ => FinA h₀ L m s₂ y Q)) E s₁) E s)
    (hs : ∀ x, foldedSetIterable iter env x = pure x := by intro _; rfl) :
    wpAny (model prog w) A (exec (.Assign [.Name y py] (.ListComp elt [⟨.Tuple [.Name x px, .Name x₂ px₂] tk tp, iter, [], 0⟩] scope pos) spos) env) Q E s := by
  subst hLe
  rw [exec_Assign_Name_used _ _ _ _ hsw]
  refine wpAny_bind (wpAny_standAt (wpAny_bind ?_))
  show wpAny _ A (do let _ ← comprehension (.ListComp elt [⟨.Tuple [.Name x px, .Name x₂ px₂] tk tp, iter, [], 0⟩] scope pos) scope env _ (newList []) false (eval iter env) (some (assign (.Name y py) env))) _ _ s
  refine wpAny_bind (wpAny_mono (wpAny_comprehension_free (use := some (assign (.Name y py) env)) (Q := fun _ s' => Q .next s') rfl hs hclos hkind hnames
    (wpAny_mono h (fun xv s₁ h₁ => wpAny_mono h₁ (fun it s₂ h₂ => ?_) fun _ _ e => e) fun _ _ e => e)) (fun _ s' hq => wpAny_pure (wpAny_pure hq)) fun _ _ e => e)
  obtain ⟨I, fp, wr, n, Pt, St, Mid, nx, El, rfl, W, hsz, hP, hh, hst, hfp, F, N, hLf, hwr, off, turn, fin⟩ := h₂
  refine block_Z W hsz hP hcell hkind hx hx₂ hxx hh hst hfp F N hLf hwr off turn ?_
  intro D C h' tk m' ys F' N' hn hC₀ hD₀ hCL hDL hCD offC offD hyl hel
  show wpAny _ A (assign (.Name y py) env (.ref D)) _ _ _
  refine wpAny_assign_Name (wpAny_storeName_local hy F'.ns (fun h₂ hn₂ hs₂ => ?_) hp)
  have hL₀ : h₀.get? env.locals = none := Heap.get?_none_of_le F'.above
  have F₂ : Fr h₀ env.locals h₂ (fun z => if z = y then some (.ref D) else m z) := ⟨hn₂, fun b o e => hs₂.extBut b o (fun q => by rw [q, hL₀] at e; cases e) (F'.keep b o e), F'.above⟩
  refine ⟨m', hn.sameBut hs₂ hCL, fun h'' hs'' => fin ys hyl hel D h'' _ (F₂.change hs'' hCL hC₀) (fun p hp => ?_) (off1_of offD)⟩
  have z : h₂.get? p.1 = some p.2 := hs₂.extBut _ _ (N' p hp).2.1 (N' p hp).1
  refine ⟨hs''.extBut _ _ ?_ z, (N' p hp).2⟩
  rcases List.mem_cons.mp hp with rfl | hp
  · exact Ne.symm hCD
  · exact offC p hp
theorem src_zip {elt : Expr} {x x₂ : Str} {scope : Scope} {cl : List (Str × Addr)} {Fin : Shared → List Value → List (Addr × Obj) → Prop} {l1 l2 : Addr} {vs₁ vs₂ : List Value} {c1 c2 : Nat} {nx : List (Addr × Obj)} (El : Nat → Value → Prop)
    (hh : A.handled = none) (F : Fr h₀ L s.heap m) (N : News h₀ L s.heap nx) (m1 : (l1, listOf vs₁.toArray c1) ∈ nx) (m2 : (l2, listOf vs₂.toArray c2) ∈ nx) (hsz : vs₁.length ≤ 100000)
    (turn : ∀ (i : Nat) v1 v2 C oC D m₂ ys own h tk (E' : Value → Shared → Prop), vs₁[i]? = some v1 → vs₂[i]? = some v2 → NsObj oC m₂ → m₂ x = some v1 → m₂ x₂ = some v2 → Fr h₀ L h m → News h₀ L h ((C, oC) :: (D, lst ys) :: own) → (∀ p ∈ nx, p ∈ own) →
      wpAny (model prog w) A (eval elt (compEnvC scope cl C env)) (ZEnd h₀ L m { s with heap := h, toks := tk } ((C, oC) :: (D, lst ys) :: own) (El i)) E' { s with heap := h, toks := tk })
    (fin : ∀ g ys, ys.length = min vs₁.length vs₂.length → (∀ (j : Nat) y, ys[j]? = some y → El j y) → Fin { s with heap := g } ys nx) :
    wpAny (model prog w) A (call (.type "zip") [.ref l1, .ref l2]) (fun xv s₁ => wpAny (model prog w) A (pyIter xv) (SrcZ prog w A h₀ L m env elt x x₂ scope cl Fin) E s₁) E s := by
  have hl1 := News.isList N m1
  have hl2 := News.isList N m2
  have a1 : l1 < s.heap.objs.size := Heap.lt_size (N _ m1).1
  have a2 : l2 < s.heap.objs.size := Heap.lt_size (N _ m2).1
  have hLs : L < s.heap.objs.size := F.ns.lt
  have hab : h₀.objs.size ≤ L := F.above
  refine call_zip_2 hl1 hl2 fun h' hz hTI hTO hit1 hit2 hsize hk => ?_
  have F' : Fr h₀ L h' m := F.keeps hk
  have N' : News h₀ L h' nx := fun p hp => ⟨hk _ _ (N p hp).1, (N p hp).2⟩
  have W := WalksT.zip2 (prog := prog) (w := w) hh _ _ _ _ _ l1 l2 (zipApart_new a1 a2) vs₁.toArray vs₂.toArray
  have hst : IsZip h' (s.heap.objs.size + 4) (s.heap.objs.size + 2) (s.heap.objs.size + 3) .none ∧ IsPair h' (s.heap.objs.size + 2) (.ref s.heap.objs.size) (.ref (s.heap.objs.size + 1)) ∧ (∃ a b, IsPair h' (s.heap.objs.size + 3) a b) ∧ h'.IsListIter s.heap.objs.size l1 0 ∧ h'.IsListIter (s.heap.objs.size + 1) l2 0 ∧ h'.IsList l1 vs₁.toArray ∧ h'.IsList l2 vs₂.toArray :=
    ⟨hz, hTI, ⟨_, _, hTO⟩, hit1, hit2, hl1.at fun o e => hk l1 o e, hl2.at fun o e => hk l2 o e⟩
  refine W.self 0 { s with heap := h' } _ _ hst ?_
  refine ⟨_, _, _, _, _, _, _, nx, El, rfl, W, ?_, ?_, hh, hst, ?_, F', N', ?_, ?_, ?_, ?_, ?_⟩
  · rw [List.size_toArray, List.size_toArray, sizeLine_eq]; omega
  · rintro i vals ⟨v1, v2, _, _, rfl⟩; exact ⟨v1, v2, rfl⟩
  · intro b hb
    show b < h'.objs.size
    rw [hsize]
    simp only [List.mem_cons, List.not_mem_nil, or_false] at hb
    rcases hb with rfl | rfl | rfl | rfl | rfl | rfl | rfl
    · exact Nat.lt_succ_self _
    · exact Nat.add_lt_add_left (by decide) _
    · exact Nat.add_lt_add_left (by decide) _
    · exact Nat.lt_add_of_pos_right (by decide)
    · exact Nat.add_lt_add_left (by decide) _
    · exact Nat.lt_of_lt_of_le a1 (Nat.le_add_right _ _)
    · exact Nat.lt_of_lt_of_le a2 (Nat.le_add_right _ _)
  · intro hm
    simp only [List.mem_cons, List.not_mem_nil, or_false] at hm
    have up : ∀ k, L ≠ s.heap.objs.size + k := fun k e => Nat.ne_of_lt (Nat.lt_of_lt_of_le hLs (Nat.le_add_right _ k)) e
    rcases hm with e | e | e | e | e | e | e
    · exact up 4 e
    · exact up 2 e
    · exact up 3 e
    · exact up 0 e
    · exact up 1 e
    · exact (N _ m1).2.1 e.symm
    · exact (N _ m2).2.1 e.symm
  · intro b hb
    simp only [List.mem_cons, List.not_mem_nil, or_false] at hb
    have nw : ∀ k, h₀.get? (s.heap.objs.size + k) = none := fun k => Heap.get?_none_of_le (Nat.le_trans hab (Nat.le_trans (Nat.le_of_lt hLs) (Nat.le_add_right _ k)))
    rcases hb with rfl | rfl | rfl | rfl
    · exact nw 4
    · exact nw 3
    · exact nw 0
    · exact nw 1
  · intro p hp hm
    have hq1 := Heap.lt_size (N p hp).1
    simp only [List.mem_cons, List.not_mem_nil, or_false] at hm
    have dn : ∀ k, p.1 ≠ s.heap.objs.size + k := fun k e => Nat.ne_of_lt (Nat.lt_of_lt_of_le hq1 (Nat.le_add_right _ k)) e
    rcases hm with e | e | e | e
    · exact dn 4 e
    · exact dn 3 e
    · exact dn 0 e
    · exact dn 1 e
  · rintro i v1 v2 C oC D m₂ ys own h tk E' hi ⟨a, b, ha, hb, e⟩ hC h1 h2 F N hsub
    obtain ⟨rfl, rfl⟩ : v1 = a ∧ v2 = b := by simpa using congrArg Array.toList e
    exact turn i v1 v2 C oC D m₂ ys own h tk E' (by simpa using ha) (by simpa using hb) hC h1 h2 F N hsub
  · intro ys hyl hel
    exact fin h' ys (by simpa using hyl) hel
end
local macro_rules | `(tactic| walk_at "exec Assign cons ListComp") => `(tactic| (k_here; k_dflt (refine Assign_ListComp_Z (by k_asm) (by rfl) (by with_unfolding_all rfl) (by with_unfolding_all rfl) (by decide) (by rfl) (by decide) (by rfl) (by rfl) (by decide) (by rfl) (by rfl) ?_)))
local macro_rules | `(tactic| walk_at "eval ListComp") => `(tactic| (k_here; k_dflt (refine ListComp_Z (by k_asm) (by with_unfolding_all rfl) (by decide) (by rfl) (by decide) (by rfl) (by rfl) (by decide) ?_)))
local macro_rules | `(tactic| walk_at "mine_go_zip") => `(tactic| repeat' ((fail_if_success (with_reducible show wpAny _ _ (call (Value.type "zip") _) _ _ _)); (first | (k_unfold; (try dsimp only)) | walk1 | (dsimp only; walk1))))
end
local macro_rules | `(tactic| walk_at "exec Assign cons ListComp") => `(tactic| (k_here; k_dflt (refine Assign_ListComp_Z (by k_asm) (by rfl) (by with_unfolding_all rfl) (by with_unfolding_all rfl) (by decide) (by rfl) (by decide) (by rfl) (by rfl) (by decide) (by rfl) (by rfl) ?_)))
local macro_rules | `(tactic| walk_at "eval ListComp") => `(tactic| (k_here; k_dflt (refine ListComp_Z (by k_asm) (by with_unfolding_all rfl) (by decide) (by rfl) (by decide) (by rfl) (by rfl) (by decide) ?_)))
local macro_rules | `(tactic| walk_at "mine_go_zip") => `(tactic| repeat' ((fail_if_success (with_reducible show wpAny _ _ (call (Value.type "zip") _) _ _ _)); (first | (k_unfold; (try dsimp only)) | walk1 | (dsimp only; walk1))))
section
set_option maxHeartbeats 4000000 in
theorem law8 {prog : Program} {w : World} {dp un : Nat} {fr : Option (List Env)} {gd : Option (List Code)} {g : Heap} {body : List Stmt} {sc : Scope} {nm : Str} {L fa : Addr} {cd : Value} {Q : Flow → Shared → Prop} {E : Value → Shared → Prop} {s : Shared} {mean : ExcName → Option Value} {mg mb : Str → Option Value} {m : Str → Option Value} {oc : Obj} {nx : List (Addr × Obj)} {Dc Db Df : Addr} {nc nb nf : Nat} {kc : List (Str × Tok)} {vb vf : List Value} {pls : List Pl} {start : List Str}
    (hb : lawB = body) (hsc : lawSc = sc) (X : (tp.heap_39 w.params).In g) (T : Top tp.view_39 [Str.ofString "relpath"] mean mg mb g) (r : Rm dp un 20) (F : Fr g L s.heap m) (N : News g L s.heap ((L + 1, oc) :: nx))
    (hm1 : m (Str.ofString "chain") = some (.ref Dc)) (hm2 : m (Str.ofString "befores") = some (.ref Db)) (hm3 : m (Str.ofString "fulls") = some (.ref Df)) (hDc : (Dc, listOf (strValues kc).toArray nc) ∈ nx) (hDb : (Db, listOf vb.toArray nb) ∈ nx) (hDf : (Df, listOf vf.toArray nf) ∈ nx)
    (hkc : kc.map (·.1) = chainL start pls) (hvb : vb.length = pls.length) (hlb : LsAt nx vb (befs start pls)) (hvf : vf.length = pls.length) (hlf : LsAt nx vf (pls.map Pl.full)) (hp1 : ∀ p ∈ pls, p.Ok) (hsk : ∀ p ∈ pls, ∀ n ∈ Pl.full p, SOk n) (hhl : start.length ≤ 20) (hz : pls.length ≤ 8)
    (h : ∀ h' tk' nx' , Fr g L h' m → News g L h' ((L + 1, oc) :: nx') → (∀ p ∈ nx, p ∈ nx') → 
      wpAny (model prog w) (AA dp un fr gd) (execs (body.drop 9) (envOfC nm sc L fa cd)) Q E { s with heap := h', toks := tk' }) :
    wpAny (model prog w) (AA dp un fr gd) (execs (body.drop 8) (envOfC nm sc L fa cd)) Q E s := by
  refine open_stmt 8 (by decide) hb ?_
  walk_at "mine_open"
  replace F := Fr.pin (y := Str.ofString "chain") F hm1
  replace F := Fr.pin (y := Str.ofString "befores") F hm2
  replace F := Fr.pin (y := Str.ofString "fulls") F hm3
  walk_at "mine_go_zip"
  rename Fr _ _ _ _ => F
  rename News _ _ _ _ => N
  refine src_zip (fun i y => ∃ f p t, (befs start pls)[i]? = some f ∧ pls[i]? = some p ∧ y = .str (routeS f (Pl.full p)) t) rfl F N (.tail _ hDb) (.tail _ hDf) (by omega) ?_ ?_
  · clear F N
    rintro i v1 v2 C oC D m₂ ys own h3 tk3 E' hv1 hv2 hC hx1 hx2 F N hsub
    obtain ⟨f, a1, k1, c1, hf, rfl, e1, e2⟩ := hlb i v1 hv1
    obtain ⟨ns, a2, k2, c2, hp, rfl, e3, e4⟩ := hlf i v2 hv2
    obtain ⟨p, hpp, e5⟩ : ∃ p, pls[i]? = some p ∧ Pl.full p = ns := by
      rw [List.getElem?_map, Option.map_eq_some_iff] at hp; exact hp
    have q1 := hsub _ (.tail _ e1)
    have q2 := hsub _ (.tail _ e3)
    have hpm := List.mem_of_getElem? hpp
    have ok := hp1 p hpm
    have okl := ok.len
    have okn := ok.names
    have hfl : f.length ≤ 20 := by
      rcases List.mem_cons.mp (List.mem_of_getElem? hf) with rfl | hf
      · exact hhl
      · obtain ⟨q, hq, rfl⟩ := List.mem_map.mp hf
        exact Nat.le_trans (hp1 q hq).hl (by decide)
    subst e5
    rw [← e4] at okn
    rw [← e4, List.length_map] at okl
    rw [← e2, List.length_map] at hfl
    walk_at "mine_go"
    exact ZEnd.intro (by assumption) (by assumption) ⟨f, p, _, hf, hpp, by rw [e2, e4]⟩
  · rintro g1 ys hyl hel
    have hcl : ys.length = (chainL start pls).length := by rw [hyl, hvb, hvf, chainL_len, Nat.min_self]
    obtain ⟨kq, rfl, hkq⟩ := strs_of (vs := ys) (ys := chainL start pls) hcl fun j v hv => by
      obtain ⟨f, p, t, hf, hp, rfl⟩ := hel j v hv
      exact ⟨_, t, chainL_at hp hf, rfl⟩
    clear F N
    walk_at "mine_go_cmp"
    rename Fr _ _ _ _ => F
    rename News _ _ _ _ => N
    refine ne_strs N (.tail _ (.tail _ hDc)) (.head _) (hkc.trans hkq.symm) (by rw [hkc]; exact sok_chain hsk) (by walk_at "mine_room") ?_
    walk_at "mine_go"
    simp only [pin_at hm1, pin_at hm2, pin_at hm3] at F
    exact h _ _ _ F (fun p hp => N p (.tail _ hp)) (fun p hp => hp)
end
section
def crook (d : Int) (row : Str) : Str := bendHead d ++ Txt.replace row (Str.ofString "/") (bendSep d)
def crookL (start : List Str) (pls : List Pl) : List Str := List.zipWith (fun row p => crook (Pl.d p) row) (chainL start pls) pls
set_option maxHeartbeats 4000000 in
theorem law11 {prog : Program} {w : World} {dp un : Nat} {fr : Option (List Env)} {gd : Option (List Code)} {g : Heap} {body : List Stmt} {sc : Scope} {nm : Str} {L fa : Addr} {cd : Value} {Q : Flow → Shared → Prop} {E : Value → Shared → Prop} {s : Shared} {mean : ExcName → Option Value} {mg mb : Str → Option Value} {m : Str → Option Value} {oc : Obj} {nx : List (Addr × Obj)} {Dc D : Addr} {nc n : Nat} {kc : List (Str × Tok)} {vs : List Value} {pls : List Pl} {start : List Str}
    (hb : lawB = body) (hsc : lawSc = sc) (X : (tp.heap_39 w.params).In g) (T : Top tp.view_39 [Str.ofString "relpath"] mean mg mb g) (r : Rm dp un 20) (F : Fr g L s.heap m) (N : News g L s.heap ((L + 1, oc) :: nx))
    (hm1 : m (Str.ofString "chain") = some (.ref Dc)) (hm2 : m (Str.ofString "places") = some (.ref D)) (hDc : (Dc, listOf (strValues kc).toArray nc) ∈ nx) (hD : (D, listOf vs.toArray n) ∈ nx)
    (hkc : kc.map (·.1) = chainL start pls) (hrl : ∀ y ∈ kc.map (·.1), y.length ≤ 200) (hvl : vs.length = pls.length) (hpl : PlIn nx vs pls) (hp2 : ∀ p ∈ pls, p.Has) (hz : pls.length ≤ 8)
    (h : ∀ h' tk' nx' D' k' n', Fr g L h' (fun z => if z = Str.ofString "bent" then some (.ref D') else m z) → News g L h' ((L + 1, oc) :: nx') → (∀ p ∈ nx, p ∈ nx') → (D', listOf (strValues k').toArray n') ∈ nx' → k'.map (·.1) = crookL start pls → 
      wpAny (model prog w) (AA dp un fr gd) (execs (body.drop 12) (envOfC nm sc L fa cd)) Q E { s with heap := h', toks := tk' }) :
    wpAny (model prog w) (AA dp un fr gd) (execs (body.drop 11) (envOfC nm sc L fa cd)) Q E s := by
  refine open_stmt 11 (by decide) hb ?_
  walk_at "mine_open"
  replace F := Fr.pin (y := Str.ofString "chain") F hm1
  replace F := Fr.pin (y := Str.ofString "places") F hm2
  walk_at "mine_go_zip"
  rename Fr _ _ _ _ => F
  rename News _ _ _ _ => N
  have hkl : kc.length = pls.length := by rw [← List.length_map (f := fun x : Str × Tok => x.1), hkc, chainL_len]
  refine src_zip (fun i y => ∃ row p t, (chainL start pls)[i]? = some row ∧ pls[i]? = some p ∧ y = .str (crook p.d row) t) rfl F N (.tail _ hDc) (.tail _ hD) (by rw [sv_len]; omega) ?_ ?_
  · clear F N
    rintro i v1 v2 C oC D m₂ ys own h3 tk3 E' hv1 hv2 hC hx1 hx2 F N hsub
    obtain ⟨⟨y, ty⟩, hc, rfl⟩ : ∃ c, kc[i]? = some c ∧ v1 = .str c.1 c.2 := by
      simp only [strValues, List.getElem?_map, Option.map_eq_some_iff] at hv1
      obtain ⟨c, h1, h2⟩ := hv1
      exact ⟨c, h1, h2.symm⟩
    obtain ⟨p, Tp, q, kf, cf, t1, t2, t3, hp, rfl, e3, e4, e5⟩ := hpl i v2 hv2
    have hT := hsub _ (.tail _ e3)
    have hs := hp2 p (List.mem_of_getElem? hp)
    have b1 := hs.hd0
    have b2 := hs.hd1
    have hy : (kc.map (·.1))[i]? = some y := by rw [List.getElem?_map, hc]; rfl
    have hyl := hrl y (List.mem_of_getElem? hy)
    rw [hkc] at hy
    dsimp only at hx1
    walk_at "mine_go"
    exact ZEnd.intro (by assumption) (by assumption) ⟨y, p, _, hy, hp, rfl⟩
  · rintro g1 ys hyl hel
    have hcl : ys.length = (crookL start pls).length := by rw [hyl, sv_len, hkl, hvl, Nat.min_self]; simp [crookL, chainL_len]
    obtain ⟨kq, rfl, hkq⟩ := strs_of (vs := ys) (ys := crookL start pls) hcl fun j v hv => by
      obtain ⟨row, p, t, hr, hp, rfl⟩ := hel j v hv
      exact ⟨_, t, by unfold crookL; rw [List.getElem?_zipWith, hr, hp], rfl⟩
    clear F N
    walk_at "mine_go"
    rename Fr _ _ _ _ => F
    rename News _ _ _ _ => N
    simp only [pin_at hm1, pin_at hm2] at F
    exact h _ _ _ _ kq _ F (news_2nd N) (fun p hp => .tail _ hp) (.head _) hkq
end
section
section
variable {prog : Program} {w : World} {A : Around} {E : Value → Shared → Prop} {s : Shared} {env : Env} {h₀ : Heap} {xi xc : Str} {body : List Stmt} {Q : Flow → Shared → Prop}
/-- a for over zip of two lists of the ledger, that turns names alone -/
theorem zip_for {l1 l2 : Addr} {vs₁ vs₂ : List Value} {c1 c2 : Nat} {m₀ : Str → Option Value} {nx : List (Addr × Obj)} (J : Nat → (Str → Option Value) → Prop)
    (hh : A.handled = none) (F : Fr h₀ env.locals s.heap m₀) (N : News h₀ env.locals s.heap nx) (m1 : (l1, listOf vs₁.toArray c1) ∈ nx) (m2 : (l2, listOf vs₂.toArray c2) ∈ nx) (hj : J 0 m₀)
    (turn : ∀ (i : Nat) v1 v2 m₁ h tk own, vs₁[i]? = some v1 → vs₂[i]? = some v2 → J i m₁ → Fr h₀ env.locals h (fun y => if y = xc then some v2 else if y = xi then some v1 else m₁ y) → News h₀ env.locals h own → (∀ p ∈ nx, p ∈ own) →
      wpAny (model prog w) A (execs body env) (TurnOwn h₀ env.locals (J (i + 1)) own { s with heap := h, toks := tk } Q) E { s with heap := h, toks := tk })
    (done : ∀ m₁ h tk, J (min vs₁.length vs₂.length) m₁ → Fr h₀ env.locals h m₁ → News h₀ env.locals h nx → Q .next { s with heap := h, toks := tk }) :
    wpAny (model prog w) A (call (.type "zip") [.ref l1, .ref l2]) (fun xv s₁ => wpAny (model prog w) A (pyIter xv) (fun it s₂ => PairAt3 prog w A h₀ env xi xc body Q E it s₂) E s₁) E s := by
  have hl1 := News.isList N m1
  have hl2 := News.isList N m2
  have a1 : l1 < s.heap.objs.size := Heap.lt_size (N _ m1).1
  have a2 : l2 < s.heap.objs.size := Heap.lt_size (N _ m2).1
  have hLs : env.locals < s.heap.objs.size := F.ns.lt
  have hab : h₀.objs.size ≤ env.locals := F.above
  refine call_zip_2 hl1 hl2 fun h' hz hTI hTO hit1 hit2 hsize hk => ?_
  have F' : Fr h₀ env.locals h' m₀ := F.keeps hk
  have N' : News h₀ env.locals h' nx := fun p hp => ⟨hk _ _ (N p hp).1, (N p hp).2⟩
  have W := WalksT.zip2 (prog := prog) (w := w) hh _ _ _ _ _ l1 l2 (zipApart_new a1 a2) vs₁.toArray vs₂.toArray
  have hst : IsZip h' (s.heap.objs.size + 4) (s.heap.objs.size + 2) (s.heap.objs.size + 3) .none ∧ IsPair h' (s.heap.objs.size + 2) (.ref s.heap.objs.size) (.ref (s.heap.objs.size + 1)) ∧ (∃ a b, IsPair h' (s.heap.objs.size + 3) a b) ∧ h'.IsListIter s.heap.objs.size l1 0 ∧ h'.IsListIter (s.heap.objs.size + 1) l2 0 ∧ h'.IsList l1 vs₁.toArray ∧ h'.IsList l2 vs₂.toArray :=
    ⟨hz, hTI, ⟨_, _, hTO⟩, hit1, hit2, hl1.at fun o e => hk l1 o e, hl2.at fun o e => hk l2 o e⟩
  refine W.self 0 { s with heap := h' } _ _ hst ?_
  refine ⟨_, _, _, _, _, _, _, (fun i v1 v2 => vs₁[i]? = some v1 ∧ vs₂[i]? = some v2), m₀, nx, fun i m n2 => n2 = nx ∧ J i m, rfl, W, ?_, ?_, ?_, ?_, hst, F', N', ⟨rfl, hj⟩, ?_, ?_⟩
  · rintro i vals ⟨x, y, hx, hy, rfl⟩
    exact ⟨x, y, rfl, by simpa using hx, by simpa using hy⟩
  · intro hm
    simp only [List.mem_cons, List.not_mem_nil, or_false] at hm
    have up : ∀ k, env.locals ≠ s.heap.objs.size + k := fun k e => Nat.ne_of_lt (Nat.lt_of_lt_of_le hLs (Nat.le_add_right _ k)) e
    rcases hm with e | e | e | e | e | e | e
    · exact up 4 e
    · exact up 2 e
    · exact up 3 e
    · exact up 0 e
    · exact up 1 e
    · exact (N _ m1).2.1 e.symm
    · exact (N _ m2).2.1 e.symm
  · intro b hb
    simp only [List.mem_cons, List.not_mem_nil, or_false] at hb
    have nw : ∀ k, h₀.get? (s.heap.objs.size + k) = none := fun k => Heap.get?_none_of_le (Nat.le_trans hab (Nat.le_trans (Nat.le_of_lt hLs) (Nat.le_add_right _ k)))
    rcases hb with rfl | rfl | rfl | rfl
    · exact nw 4
    · exact nw 3
    · exact nw 0
    · exact nw 1
  · intro p hp hm
    have hq1 := Heap.lt_size (N p hp).1
    simp only [List.mem_cons, List.not_mem_nil, or_false] at hm
    have dn : ∀ k, p.1 ≠ s.heap.objs.size + k := fun k e => Nat.ne_of_lt (Nat.lt_of_lt_of_le hq1 (Nat.le_add_right _ k)) e
    rcases hm with e | e | e | e
    · exact dn 4 e
    · exact dn 3 e
    · exact dn 0 e
    · exact dn 1 e
  · rintro i v1 v2 m₁ n1 s₁ own ⟨hh1, tk1, rfl⟩ _ ⟨hv1, hv2⟩ ⟨rfl, hJ⟩ hadr hown F₁ N₁
    refine wpAny_mono (turn i v1 v2 m₁ hh1 tk1 (own ++ n1) hv1 hv2 hJ F₁ N₁ fun p hp => List.mem_append_right _ hp) (fun f s₂ p => ?_) fun _ _ e => e
    have fin : (∃ h' tk m' news', s₂ = { ({ s with heap := hh1, toks := tk1 } : Shared) with heap := h', toks := tk } ∧ Fr h₀ env.locals h' m' ∧ News h₀ env.locals h' news' ∧ (∀ p ∈ own ++ n1, p ∈ news') ∧ J (i + 1) m') →
        ∃ h' tk m₂ news₂, s₂ = { ({ s with heap := hh1, toks := tk1 } : Shared) with heap := h', toks := tk } ∧ Fr h₀ env.locals h' m₂ ∧ News h₀ env.locals h' (own ++ news₂) ∧ news₂.map (·.1) = n1.map (·.1) ∧ (news₂ = n1 ∧ J (i + 1) m₂) := by
      rintro ⟨g, tk, m', news', e, Fg, Ng, ho, hm⟩
      exact ⟨g, tk, m', n1, e, Fg, fun p hp => Ng p (ho p hp), rfl, rfl, hm⟩
    cases f with
    | ret v => exact p
    | brk => exact p
    | next => exact ⟨rfl, fin p⟩
    | cont => exact ⟨rfl, fin p⟩
  · rintro g tk m' n1 Fg Ng _ ⟨rfl, hJ⟩
    exact done m' g tk (by simpa using hJ) Fg Ng
end
end
section
theorem ne_dat {prog : Program} {w : World} {A : Around} {E : Value → Shared → Prop} {s : Shared} {h₀ : Heap} {L a b : Addr} {news : List (Addr × Obj)} {Q : Value → Shared → Prop} {d : Dat} (N : News h₀ L s.heap news) (Da : DatIn news (.ref a) d) (Db : DatIn news (.ref b) d) (hok : kqdOk 8 d = true) (hu : A.units + 64 < cLine)
    (h : Q (.bool false) s) : wpAny (model prog w) A (compareOp .NotEq (.ref a) (.ref b)) Q E s := by
  obtain ⟨as, ra⟩ := kqd_in N 8 Da hok
  obtain ⟨bs, rb⟩ := kqd_in N 8 Db hok
  have la := kqd_lay 8 d hok
  have e : PyData.eqv (kqdP d) (kqdP d) = true := (kqd_eqv 8 d d 8 hok hok).mpr rfl
  have hs : SeqAt.shaped (kqdP d) = true := by
    unfold SeqAt.shaped; rw [la.1, Bool.true_and]; exact decide_eq_true (Nat.le_trans la.2 (by decide))
  refine ne_dataH ra rb hs hs hu (by rw [e]; exact h)
end
section
structure SX (p : Pl) : Prop where
  h1 : Txt.rfind (P p.full) (Str.ofString "/") + 1 < Txt.rfind (P p.full) (Str.ofString ".")
  h2 : Txt.slice (P p.full) (some (Txt.rfind (P p.full) (Str.ofString "/") + 1)) (some (Txt.rfind (P p.full) (Str.ofString "/") + 1 + 1)) ≠ Str.ofString "."
  root : rootS (P p.full) = P (p.f ++ [intS p.l])
  ext : extS (P p.full) = Str.ofString "." ++ intS p.c
  nml : Nm (intS p.l)
  s1 : SOk (intS p.l)
  s2 : SOk (intS p.c)
set_option maxHeartbeats 4000000 in
theorem law13 {prog : Program} {w : World} {dp un : Nat} {fr : Option (List Env)} {gd : Option (List Code)} {g : Heap} {body : List Stmt} {sc : Scope} {nm : Str} {L fa : Addr} {cd : Value} {Q : Flow → Shared → Prop} {E : Value → Shared → Prop} {s : Shared} {mean : ExcName → Option Value} {mg mb : Str → Option Value} {m : Str → Option Value} {oc : Obj} {nx : List (Addr × Obj)} {Dp D : Addr} {np n : Nat} {kp : List (Str × Tok)} {vs : List Value} {pls : List Pl}
    (hb : lawB = body) (hsc : lawSc = sc) (X : (tp.heap_39 w.params).In g) (T : Top tp.view_39 [Str.ofString "relpath"] mean mg mb g) (r : Rm dp un 20) (F : Fr g L s.heap m) (N : News g L s.heap ((L + 1, oc) :: nx))
    (hm1 : m (Str.ofString "paths") = some (.ref Dp)) (hm2 : m (Str.ofString "places") = some (.ref D)) (hDp : (Dp, listOf (strValues kp).toArray np) ∈ nx) (hD : (D, listOf vs.toArray n) ∈ nx) (hkp : kp.map (·.1) = pls.map fun p => P p.full)
    (hvl : vs.length = pls.length) (hpl : PlIn nx vs pls) (hp1 : ∀ p ∈ pls, p.Ok) (hp2 : ∀ p ∈ pls, p.Has) (hsx : ∀ p ∈ pls, SX p) (hsk : ∀ p ∈ pls, ∀ n ∈ Pl.full p, SOk n) (hz : pls.length ≤ 8)
    (h : ∀ h' tk' nx' m', Fr g L h' m' → News g L h' ((L + 1, oc) :: nx') → (∀ p ∈ nx, p ∈ nx') → (∀ z, z ≠ Str.ofString "path" → z ≠ Str.ofString "place" → m' z = m z) → 
      wpAny (model prog w) (AA dp un fr gd) (execs (body.drop 14) (envOfC nm sc L fa cd)) Q E { s with heap := h', toks := tk' }) :
    wpAny (model prog w) (AA dp un fr gd) (execs (body.drop 13) (envOfC nm sc L fa cd)) Q E s := by
  refine open_stmt 13 (by decide) hb ?_
  walk_at "mine_open"
  replace F := Fr.pin (y := Str.ofString "paths") F hm1
  replace F := Fr.pin (y := Str.ofString "places") F hm2
  walk_at "mine_go_zip"
  rename Fr _ _ _ _ => F
  rename News _ _ _ _ => N
  simp only [pin_at hm1, pin_at hm2] at F
  have hkl : kp.length = pls.length := by rw [← List.length_map (f := fun x : Str × Tok => x.1), hkp, List.length_map]
  refine zip_for (fun i m' => ∀ z, z ≠ Str.ofString "path" → z ≠ Str.ofString "place" → m' z = m z) rfl F N (.tail _ hDp) (.tail _ hD) (fun _ _ _ => rfl) ?_ ?_
  · clear F N
    rintro i v1 v2 m₁ h3 tk3 own hv1 hv2 hm F N hsub
    obtain ⟨⟨y, ty⟩, hc, rfl⟩ : ∃ c, kp[i]? = some c ∧ v1 = .str c.1 c.2 := by
      simp only [strValues, List.getElem?_map, Option.map_eq_some_iff] at hv1
      obtain ⟨c, h1, h2⟩ := hv1
      exact ⟨c, h1, h2.symm⟩
    obtain ⟨p, Tp, q, kf, cf, t1, t2, t3, hp, rfl, e3, e4, e5⟩ := hpl i v2 hv2
    have hT := hsub _ (.tail _ e3)
    have hq := hsub _ (.tail _ e4)
    have hpm := List.mem_of_getElem? hp
    have ok := hp1 p hpm
    have hs := hp2 p hpm
    have sx := hsx p hpm
    have okl := ok.hl
    obtain rfl : y = P p.full := by
      have e : (kp.map (·.1))[i]? = some y := by rw [List.getElem?_map, hc]; rfl
      rw [hkp, List.getElem?_map, hp] at e
      exact (Option.some.inj e).symm
    have l1 := intS_len hs.hl0 hs.hl1
    have l2 := intS_len (n := p.c) (by have := hs.hc0; omega) hs.hc1
    have b1 := hs.hl0
    have b2 := hs.hl1
    have b3 := hs.hc0
    have b4 := hs.hc1
    have hkl : kf.length ≤ 3 := by rw [← List.length_map (f := fun x : Str × Tok => x.1), e5]; exact okl
    have x1 := sx.h1
    have x2 := sx.h2
    have x3 : (P p.full).length ≤ 1000 := by
      have := P_len ok.names
      have := ok.len
      omega
    dsimp only at F
    walk_at "mine_go"
    simp only [List.append_nil]
    rename Fr _ _ _ _ => F
    rename News _ _ _ _ => N
    have hns : ∀ y ∈ p.f ++ [intS p.l], Nm y := fun y hy => by
      rcases List.mem_append.mp hy with hy | hy
      · exact ok.hf y hy
      · rw [List.mem_singleton.mp hy]; exact sx.nml
    have e6 : ∀ tk : Tok, (kf ++ [(Str.ofString (toString p.l), tk)]).map (·.1) = p.f ++ [intS p.l] := fun tk => by rw [List.map_append, e5]; rfl
    refine wpAny_call (c_join (X.keeps F.keep) (T.keeps F.keep) (r.less (by decide)) (by decide) (by simp) (fun y hy => by rw [e6] at hy; exact Nat.le_trans (hns y hy).short (by decide)) (by simp; omega) fun h' tk tk' st => ?_)
    rw [e6, joinS_sl hns, ← sx.root]
    have F2 := fr_stays F st
    have N2 := news_stays N st
    clear F N st
    (try dsimp only)
    walk_at "mine_go_cmp"
    rename Fr _ _ _ _ => F
    rename News _ _ _ _ => N
    have hok : kqdOk 8 (.tuple [.str (rootS (P p.full)), .str (Str.ofString "." ++ intS p.c)]) = true := by
      have o1 : PyData.strOk (rootS (P p.full)) = true := strOk_of (by
        rw [sx.root]
        refine sok_P fun y hy => ?_
        rcases List.mem_append.mp hy with hy | hy
        · exact hsk p hpm y (List.mem_append_left _ hy)
        · rw [List.mem_singleton.mp hy]; exact sx.s1)
      have o2 : PyData.strOk (Str.ofString "." ++ intS p.c) = true := strOk_of (SOk.app (sok_lit (by decide +kernel)) sx.s2)
      simp [kqdOk, o1, o2]
    rw [sx.ext] at N
    refine ne_dat (d := .tuple [.str (rootS (P p.full)), .str (Str.ofString "." ++ intS p.c)]) N (.tuple (vs := [_, _]) (by k_mem) (.cons (.str _ _) (.cons (.str _ _) .nil))) (.tuple (vs := [_, _]) (by k_mem) (.cons (.str _ _) (.cons (.str _ _) .nil))) hok (by walk_at "mine_room") ?_
    walk_at "mine_go"
    exact TurnOwn.next F N (fun p hp => by repeat (first | exact hp | apply List.Mem.tail)) fun z h1 h2 => by
      simp only [if_neg h1, if_neg h2]; exact hm z h1 h2
  · rintro m₁ h3 tk3 hm F N
    exact h _ _ _ _ F (fun p hp => N p hp) (fun p hp => hp) hm
end
section
theorem nosl_of {x : Str} (h : (ch x).contains 47 = false) : NoSl x := fun hm => by
  have : (ch x).contains 47 = true := List.contains_iff_mem.mpr hm
  rw [h] at this; cases this
theorem nameAt_is {i : Int} (h0 : 0 ≤ i) (h1 : i < 5) : Nm (nameAt i) ∧ SOk (nameAt i) := by
  have h : i = 0 ∨ i = 1 ∨ i = 2 ∨ i = 3 ∨ i = 4 := by omega
  rcases h with rfl | rfl | rfl | rfl | rfl <;>
    exact ⟨⟨nosl_of (by decide +kernel), by decide +kernel, by decide +kernel, by decide +kernel, by decide +kernel⟩, sok_lit (by decide +kernel)⟩
theorem intS_is {l : Int} (h0 : -1 ≤ l) (h1 : l ≤ 3) : Nm (intS l) ∧ SOk (intS l) ∧ PySem.intText? (intS l) = some l ∧ (46 ∉ ch (intS l)) := by
  have h : l = -1 ∨ l = 0 ∨ l = 1 ∨ l = 2 ∨ l = 3 := by omega
  rcases h with rfl | rfl | rfl | rfl | rfl <;>
    exact ⟨⟨nosl_of (by decide +kernel), by decide +kernel, by decide +kernel, by decide +kernel, by decide +kernel⟩, sok_lit (by decide +kernel), by decide +kernel, by decide +kernel⟩
theorem lcS_is {l c : Int} (h0 : -1 ≤ l) (h1 : l ≤ 3) (g0 : 0 ≤ c) (g1 : c ≤ 3) : Nm (lcS l c) ∧ SOk (lcS l c) ∧ Txt.split (lcS l c) (Str.ofString ".") = [intS l, intS c] := by
  have h : l = -1 ∨ l = 0 ∨ l = 1 ∨ l = 2 ∨ l = 3 := by omega
  have g : c = 0 ∨ c = 1 ∨ c = 2 ∨ c = 3 := by omega
  rcases h with rfl | rfl | rfl | rfl | rfl <;> rcases g with rfl | rfl | rfl | rfl <;>
    exact ⟨⟨nosl_of (by decide +kernel), by decide +kernel, by decide +kernel, by decide +kernel, by decide +kernel⟩, sok_lit (by decide +kernel), by decide +kernel⟩
theorem namesOf_is {k : Nat} {r : Int} : ∀ n ∈ namesOf k r, Nm n ∧ SOk n := fun n hn => by
  obtain ⟨i, _, rfl⟩ := List.mem_map.mp hn
  exact nameAt_is (Int.fmod_nonneg_of_pos _ (by decide)) (Int.fmod_lt_of_pos _ (by decide))
theorem plOf_has {c : Int} : (plOf c).Has where
  hl0 := by have : 0 ≤ c.fmod 5 := Int.fmod_nonneg_of_pos _ (by decide); show -1 ≤ c.fmod 5 - 1; omega
  hl1 := by have : c.fmod 5 < 5 := Int.fmod_lt_of_pos _ (by decide); show c.fmod 5 - 1 ≤ 3; omega
  hc0 := Int.fmod_nonneg_of_pos _ (by decide)
  hc1 := by have : (c.fdiv 5).fmod 4 < 4 := Int.fmod_lt_of_pos _ (by decide); show (c.fdiv 5).fmod 4 ≤ 3; omega
  hd0 := Int.fmod_nonneg_of_pos _ (by decide)
  hd1 := Int.fmod_lt_of_pos _ (by decide)
  hb := rfl
theorem plOf_ok {c : Int} : (plOf c).Ok where
  hf := fun n hn => (namesOf_is n hn).1
  hl := by
    have h1 : (c.fdiv 20).fmod 4 < 4 := Int.fmod_lt_of_pos _ (by decide)
    show (namesOf ((c.fdiv 20).fmod 4).toNat (c.fdiv 80)).length ≤ 3
    simp [namesOf]
    omega
  hb := (lcS_is plOf_has.hl0 plOf_has.hl1 plOf_has.hc0 plOf_has.hc1).1
theorem plOf_cps {c : Int} : ∀ n ∈ (plOf c).full, SOk n := fun n hn => by
  rcases List.mem_append.mp hn with hn | hn
  · exact (namesOf_is n hn).2
  · rw [List.mem_singleton.mp hn]
    exact (lcS_is plOf_has.hl0 plOf_has.hl1 plOf_has.hc0 plOf_has.hc1).2.1
theorem plOf_lc {c : Int} : LC (plOf c) := by
  have h := lcS_is (l := (plOf c).l) (c := (plOf c).c) plOf_has.hl0 plOf_has.hl1 plOf_has.hc0 plOf_has.hc1
  have h3 := (plOf_has (c := c)).hc0
  exact ⟨Nat.le_trans h.1.short (by decide), _, _, h.2.2, (intS_is plOf_has.hl0 plOf_has.hl1).2.2.1, (intS_is (by omega) plOf_has.hc1).2.2.1⟩
theorem slice_to (a y : Str) : Txt.slice (a ++ y) none (some (a.length : Int)) = a := by
  rw [slice_is, StrLaws.sliceText_to ⟨by omega, by show _ ≤ ((ch (a ++ y)).length : Int); rw [ch_app, List.length_append, ch_len]; omega⟩]
  refine ch_ext ?_
  show ((ch (a ++ y)).drop 0).take ((a.length : Int) - 0).toNat = _
  rw [show ((a.length : Int) - 0).toNat = a.length by omega, List.drop_zero, ch_app, List.take_append_of_le_length (by rw [ch_len]; exact Nat.le_refl _), List.take_of_length_le (by rw [ch_len]; exact Nat.le_refl _)]
theorem slice_of (a y : Str) : Txt.slice (a ++ y) (some (a.length : Int)) none = y := by
  have hl : (ch (a ++ y)).length = a.length + y.length := by rw [ch_app, List.length_append, ch_len, ch_len]
  rw [slice_is, StrLaws.sliceText_from ⟨by omega, by show _ ≤ ((ch (a ++ y)).length : Int); omega⟩]
  refine ch_ext ?_
  show ((ch (a ++ y)).drop (a.length : Int).toNat).take (((ch (a ++ y)).length : Int) - (a.length : Int)).toNat = _
  rw [hl, show ((a.length : Int)).toNat = a.length by omega, List.take_of_length_le (by rw [List.length_drop, hl]; omega), ch_app, List.drop_append_of_le_length (by rw [ch_len]; exact Nat.le_refl _), List.drop_of_length_le (by rw [ch_len]; exact Nat.le_refl _)]
  rfl
theorem dot_is : Str.ofString "." = ⟨#[46]⟩ := by decide +kernel
theorem rfind_dot {a b : Str} (h : 46 ∉ ch b) : Txt.rfind (a ++ Str.ofString "." ++ b) (Str.ofString ".") = a.length := by
  have hs := StrLaws.last_spec (a ++ Str.ofString "." ++ b) (Str.ofString ".")
  have hat : ∀ i, StrLaws.At (a ++ Str.ofString "." ++ b) (Str.ofString ".") (a ++ Str.ofString "." ++ b).length i ↔ (ch (a ++ Str.ofString "." ++ b))[i]? = some 46 := fun i => by
    rw [dot_is]
    exact StrLaws.subAt_one _ 46 i
  have hch : ch (a ++ Str.ofString "." ++ b) = ch a ++ 46 :: ch b := by rw [ch_app, ch_app, dot_is, List.append_assoc]; rfl
  have here : (ch (a ++ Str.ofString "." ++ b))[a.length]? = some 46 := by
    rw [hch, ← ch_len a, List.getElem?_append_right (Nat.le_refl _), Nat.sub_self]; rfl
  have above : ∀ i, a.length < i → (ch (a ++ Str.ofString "." ++ b))[i]? ≠ some 46 := fun i hi q => by
    rw [hch, List.getElem?_append_right (by rw [ch_len]; omega)] at q
    obtain ⟨j, hj⟩ : ∃ j, i - (ch a).length = j + 1 := ⟨i - (ch a).length - 1, by rw [ch_len]; omega⟩
    rw [hj, List.getElem?_cons_succ] at q
    exact h (List.mem_of_getElem? q)
  unfold Txt.rfind
  rcases hs with ⟨_, hn⟩ | ⟨i, he, hi, hgt⟩
  · exact absurd ((hat _).mpr here) (hn _)
  · rw [he]
    have h1 : ¬ a.length < i := fun q => above i q ((hat i).mp hi)
    have h2 : ¬ i < a.length := fun q => hgt _ q ((hat _).mpr here)
    show ((i : Nat) : Int) = _
    omega
theorem slice_one {a : Str} {c : Nat} {y : Str} {r : List Nat} (hy : ch y = c :: r) (hc : c ≠ 46) : Txt.slice (a ++ y) (some (a.length : Int)) (some ((a.length : Int) + 1)) ≠ Str.ofString "." := by
  intro e
  have e' := congrArg ch e
  have hyl : y.length = r.length + 1 := by rw [← ch_len, hy]; rfl
  have hl : (ch (a ++ y)).length = a.length + y.length := by rw [ch_app, List.length_append, ch_len, ch_len]
  rw [dot_is, slice_is, StrLaws.sliceText_plain ⟨by omega, by omega, by show _ ≤ ((ch (a ++ y)).length : Int); omega⟩] at e'
  replace e' : ((ch (a ++ y)).drop (a.length : Int).toNat).take ((a.length : Int) + 1 - (a.length : Int)).toNat = [46] := e'
  rw [show ((a.length : Int)).toNat = a.length by omega, show ((a.length : Int) + 1 - (a.length : Int)).toNat = 1 by omega, ch_app, List.drop_append_of_le_length (by rw [ch_len]; exact Nat.le_refl _), List.drop_of_length_le (by rw [ch_len]; exact Nat.le_refl _), hy] at e'
  simp at e'
  exact hc e'
theorem plOf_sx {c : Int} : SX (plOf c) := by
  have hL := intS_is (plOf_has (c := c)).hl0 plOf_has.hl1
  have hc0 := (plOf_has (c := c)).hc0
  have hC := intS_is (l := (plOf c).c) (by omega) plOf_has.hc1
  have ok := plOf_ok (c := c)
  have hbn : NoSl (plOf c).b := ok.hb.free
  have hb : (plOf c).b = intS (plOf c).l ++ Str.ofString "." ++ intS (plOf c).c := rfl
  generalize hA : (if (plOf c).f = [] then Str.empty else P (plOf c).f) = A
  have e1 : P (plOf c).full = A ++ Str.ofString "/" ++ (plOf c).b := by rw [← hA]; exact P_snoc
  have e2 : P (plOf c).full = (A ++ Str.ofString "/" ++ intS (plOf c).l) ++ Str.ofString "." ++ intS (plOf c).c := by
    rw [e1, hb]; simp only [Str.append_assoc]
  have r1 : Txt.rfind (P (plOf c).full) (Str.ofString "/") = A.length := by rw [e1]; exact rfind_sl hbn
  have r2 : Txt.rfind (P (plOf c).full) (Str.ofString ".") = (A ++ Str.ofString "/" ++ intS (plOf c).l).length := by rw [e2]; exact rfind_dot hC.2.2.2
  have hLl := hL.1.ne
  have lA : (A ++ Str.ofString "/").length = A.length + 1 := by rw [Str.length_append, len_sl]
  refine ⟨?_, ?_, ?_, ?_, hL.1, hL.2.1, hC.2.1⟩
  · rw [r1, r2, Str.length_append, lA]; omega
  · rw [r1]
    obtain ⟨x, r, hx, _⟩ := hL.1.head
    have hx46 : x ≠ 46 := fun q => hL.2.2.2 (by rw [hx, q]; exact .head _)
    have hy : ch (plOf c).b = x :: (r ++ ch (Str.ofString "." ++ intS (plOf c).c)) := by
      rw [hb, Str.append_assoc, ch_app, hx]; rfl
    have := slice_one (a := A ++ Str.ofString "/") hy hx46
    rw [lA, ← e1] at this
    simpa using this
  · unfold rootS
    rw [r2, e2, Str.append_assoc, slice_to, P_snoc, hA]
  · unfold extS
    rw [r2, e2, Str.append_assoc, slice_of]
theorem startOf_is {i : Int} (h0 : 0 ≤ i) (h1 : i < 3) : (∀ n ∈ startOf i, Nm n) ∧ (startOf i).length ≤ 2 := by
  have h : i = 0 ∨ i = 1 ∨ i = 2 := by omega
  rcases h with rfl | rfl | rfl
  · exact ⟨(fun n hn => nomatch hn), by decide⟩
  · refine ⟨fun n hn => ?_, by decide⟩
    rw [List.mem_singleton.mp hn]
    exact (nameAt_is (i := 0) (by decide) (by decide)).1
  · refine ⟨fun n hn => ?_, by decide⟩
    rcases List.mem_cons.mp hn with rfl | hn
    · exact (nameAt_is (i := 1) (by decide) (by decide)).1
    · rw [List.mem_singleton.mp hn]
      exact (nameAt_is (i := 2) (by decide) (by decide)).1
end
section
def relN (s p : List Str) : List Str := if relL s p = [] then [Str.ofString "."] else relL s p
theorem route_J (s p : List Str) : routeS s p = J (relN s p) := by
  unfold routeS relN
  split
  · exact (J_one _).symm
  · rfl
theorem J_cons {n : Str} {r : List Str} (h : r ≠ []) : J (n :: r) = n ++ Str.ofString "/" ++ J r := by
  cases r with
  | nil => exact absurd rfl h
  | cons m r => exact J_two n m r
theorem J_app : ∀ {f cs : List Str}, f ≠ [] → cs ≠ [] → J (f ++ cs) = J f ++ (Str.ofString "/" ++ J cs)
  | [], _, h, _ => absurd rfl h
  | [n], cs, _, h => by rw [J_one, List.singleton_append, J_cons h, Str.append_assoc]
  | n :: m :: r, cs, _, h => by
    have ih := J_app (f := m :: r) (cs := cs) (by simp) h
    rw [List.cons_append, J_cons (by simp), ih, J_two]
    simp only [Str.append_assoc]
theorem NH_first {n : Str} {r : List Str} (h0 : n.length ≠ 0) (hf : NoSl n) : NH (J (n :: r)) := by
  have hn : ∀ x t, ch n = x :: t → x ≠ 47 := fun x t e q => hf (by rw [show n.cps.toList = ch n from rfl, e, q]; exact .head _)
  intro t q
  cases hc : ch n with
  | nil => exact h0 (by rw [← ch_len, hc]; rfl)
  | cons x y =>
    cases r with
    | nil => rw [J_one, hc] at q; exact hn x y hc (List.cons.inj q).1
    | cons m r => rw [J_two, Str.append_assoc, ch_app, hc] at q; exact hn x y hc (List.cons.inj q).1
theorem J_len6 : ∀ {ns : List Str}, (∀ n ∈ ns, n.length ≤ 6) → (J ns).length ≤ 7 * ns.length
  | [], _ => Nat.zero_le _
  | [n], h => by have := h n (.head _); rw [J_one]; simp; omega
  | n :: m :: t, h => by
    have h1 := h n (.head _)
    have h2 := J_len6 (ns := m :: t) fun z hz => h z (.tail _ hz)
    rw [J_two, Str.length_append, Str.length_append, len_sl]
    simp only [List.length_cons] at h2 ⊢
    omega
theorem hang_of {f ns : List Str} {n : Str} {r : List Str} (hf : ∀ n ∈ f, Nm n) (hfl : f.length ≤ 20) (h0 : n.length ≠ 0) (hfree : ∀ m ∈ n :: r, NoSl m) (hsz : ∀ m ∈ n :: r, m.length ≤ 6) (hl : (n :: r).length ≤ 25) (hn : (n :: r).foldl nstep f = ns) : Hangs f (J (n :: r)) ns := by
  have hlen := J_len6 hsz
  have hNH := NH_first (r := r) h0 (hfree n (.head _))
  refine ⟨by omega, J (f ++ n :: r), ?_, ?_, ?_, ?_⟩
  · show jstep (P f) (J (n :: r)) = _
    rw [jstep_P hf hNH]
    by_cases e : f = []
    · subst e; rw [if_pos rfl]; rfl
    · rw [if_neg e, J_app e (by simp)]
  · cases f with
    | nil => exact hNH
    | cons m t => exact NH_first (r := t ++ n :: r) (hf m (.head _)).ne (hf m (.head _)).free
  · show (jstep (P f) (J (n :: r))).length ≤ 1000
    have h1 := jstep_len (P f) (J (n :: r))
    have h2 := P_len hf
    omega
  · rw [split_J (by simp) (fun m hm => ?_)]
    · unfold normL
      rw [List.foldl_append, norm_names [] hf, List.nil_append, hn]
    · rcases List.mem_append.mp hm with hm | hm
      · exact (hf m hm).free
      · exact hfree m hm
theorem cpl_take : ∀ a b : List Str, a.take (cpl a b) = b.take (cpl a b)
  | [], b => by cases b <;> rfl
  | _ :: _, [] => rfl
  | x :: xs, y :: ys => by
    unfold cpl
    by_cases e : x = y
    · subst e; rw [if_pos rfl, List.take_succ_cons, List.take_succ_cons, cpl_take xs ys]
    · rw [if_neg e]; rfl
theorem nstep_dd {st : List Str} (h : ∀ n ∈ st, n ≠ Str.ofString "..") : nstep st (Str.ofString "..") = st.dropLast := by
  unfold nstep
  rw [if_neg (by decide +kernel), if_neg]
  rintro (q | ⟨_, q⟩)
  · exact q rfl
  · exact h _ (List.mem_of_getLast? q) rfl
theorem fold_dd : ∀ (k : Nat) (f : List Str), (∀ n ∈ f, n ≠ Str.ofString "..") → (List.replicate k (Str.ofString "..")).foldl nstep f = f.take (f.length - k)
  | 0, f, _ => by simp
  | k + 1, f, h => by
    rw [List.replicate_succ, List.foldl_cons, nstep_dd h, fold_dd k f.dropLast fun n hn => h n (List.dropLast_subset _ hn), List.length_dropLast, List.dropLast_eq_take, List.take_take]
    congr 1
    omega
theorem fold_relL {f p : List Str} (hf : ∀ n ∈ f, Nm n) (hp : ∀ n ∈ p, Nm n) : (relL f p).foldl nstep f = p := by
  have h1 := cpl_le f p
  unfold relL
  rw [List.foldl_append, fold_dd _ _ fun n hn => (hf n hn).ndd, show f.length - (f.length - cpl f p) = cpl f p by omega, norm_names _ fun n hn => hp n (List.drop_subset _ _ hn), cpl_take, List.take_append_drop]
theorem fold_relN {f p : List Str} (hf : ∀ n ∈ f, Nm n) (hp : ∀ n ∈ p, Nm n) : (relN f p).foldl nstep f = p := by
  have h := fold_relL hf hp
  unfold relN
  split
  · rename_i e
    rw [e] at h
    rw [List.foldl_cons, List.foldl_nil]
    exact (if_pos (.inr rfl) : nstep f _ = f).trans h
  · exact h
theorem relN_is {f p : List Str} (hp : ∀ n ∈ p, Nm n) (hfl : f.length ≤ 3) (hpl : p.length ≤ 4) : (∃ n r, relN f p = n :: r) ∧ (∀ n ∈ relN f p, NoSl n ∧ n.length ≤ 6 ∧ n.length ≠ 0) ∧ (relN f p).length ≤ 7 := by
  unfold relN
  split
  · refine ⟨⟨_, _, rfl⟩, fun n hn => ?_, by simp⟩
    rw [List.mem_singleton.mp hn]
    exact ⟨nosl_of (by decide +kernel), by decide +kernel, by decide +kernel⟩
  · rename_i e
    refine ⟨?_, fun n hn => ?_, ?_⟩
    · cases h : relL f p with
      | nil => exact absurd h e
      | cons n r => exact ⟨n, r, rfl⟩
    · unfold relL at hn
      rcases List.mem_append.mp hn with hn | hn
      · rw [(List.mem_replicate.mp hn).2]
        exact ⟨nosl_of (by decide +kernel), by decide +kernel, by decide +kernel⟩
      · have := hp n (List.drop_subset _ _ hn)
        exact ⟨this.free, this.short, this.ne⟩
    · unfold relL
      rw [List.length_append, List.length_replicate, List.length_drop]
      omega
theorem hang_route {f p : List Str} (hf : ∀ n ∈ f, Nm n) (hp : ∀ n ∈ p, Nm n) (hfl : f.length ≤ 3) (hpl : p.length ≤ 4) : Hangs f (routeS f p) p := by
  obtain ⟨⟨n, r, e⟩, hall, hlen⟩ := relN_is (f := f) hp hfl hpl
  rw [route_J, e]
  rw [e] at hall hlen
  refine hang_of hf (by omega) (hall n (.head _)).2.2 (fun m hm => (hall m hm).1) (fun m hm => (hall m hm).2.1) (by omega) ?_
  rw [← e]; exact fold_relN hf hp
/-! crooked rows -/
structure Neu (L : List Str) : Prop where
  go : ∀ st, L.foldl nstep st = st
  free : ∀ n ∈ L, NoSl n ∧ n.length ≤ 6
  len : L.length ≤ 2
def headOf : List Str → Str
  | [] => Str.empty
  | l :: r => l ++ (Str.ofString "/" ++ headOf r)
def sepOf (L : List Str) : Str := Str.ofString "/" ++ headOf L
def inter (L : List Str) : List Str → List Str
  | [] => []
  | [c] => [c]
  | c :: d :: r => c :: (L ++ inter L (d :: r))
theorem J_head : ∀ {L cs : List Str}, cs ≠ [] → J (L ++ cs) = headOf L ++ J cs
  | [], _, _ => by rw [headOf, Str.empty_append]; rfl
  | l :: r, cs, h => by
    rw [List.cons_append, J_cons (by simp [h]), J_head (L := r) h, headOf]
    simp only [Str.append_assoc]
theorem inter_ne {L : List Str} : ∀ {cs : List Str}, cs ≠ [] → inter L cs ≠ []
  | [], h => absurd rfl h
  | [c], _ => by simp [inter]
  | c :: d :: r, _ => by simp [inter]
theorem J_inter {L : List Str} : ∀ {cs : List Str}, cs ≠ [] → J (inter L cs) = Str.join (sepOf L) cs
  | [], h => absurd rfl h
  | [c], _ => by rw [inter, J_one]; rfl
  | c :: d :: r, _ => by
    have ih := J_inter (L := L) (cs := d :: r) (by simp)
    have hne := inter_ne (L := L) (cs := d :: r) (by simp)
    rw [inter, J_cons (by simp [hne]), J_head hne, ih, join_two, sepOf]
    simp only [Str.append_assoc]
theorem fold_inter {L : List Str} (hL : Neu L) : ∀ (cs st : List Str), (inter L cs).foldl nstep st = cs.foldl nstep st
  | [], _ => rfl
  | [c], _ => rfl
  | c :: d :: r, st => by
    rw [inter, List.foldl_cons, List.foldl_append, hL.go, fold_inter hL (d :: r)]; rfl
theorem inter_mem {L : List Str} {p : Str → Prop} (hL : ∀ n ∈ L, p n) : ∀ {cs : List Str}, (∀ n ∈ cs, p n) → ∀ n ∈ inter L cs, p n
  | [], h => h
  | [c], h => h
  | c :: d :: r, h => fun n hn => by
    rw [inter] at hn
    rcases List.mem_cons.mp hn with rfl | hn
    · exact h _ (.head _)
    · rcases List.mem_append.mp hn with hn | hn
      · exact hL n hn
      · exact inter_mem hL (fun m hm => h m (.tail _ hm)) n hn
theorem inter_len {L : List Str} (hL : L.length ≤ 2) : ∀ (cs : List Str), (inter L cs).length ≤ 3 * cs.length
  | [] => Nat.le_refl _
  | [c] => by simp [inter]
  | c :: d :: r => by
    have ih := inter_len hL (d :: r)
    simp only [inter, List.length_cons, List.length_append] at ih ⊢
    omega
theorem inter_first {L : List Str} {n : Str} : ∀ {r : List Str}, ∃ t, inter L (n :: r) = n :: t
  | [] => ⟨_, rfl⟩
  | _ :: _ => ⟨_, rfl⟩
theorem neu_nil : Neu [] := ⟨fun _ => rfl, (fun n h => nomatch h), by decide⟩
theorem neu_empty : Neu [Str.empty] := ⟨fun st => nstep_skip, fun n hn => by rw [List.mem_singleton.mp hn]; exact ⟨nosl_of (by decide +kernel), by decide +kernel⟩, by decide⟩
theorem neu_dot : Neu [Str.ofString "."] := ⟨fun st => (show nstep st (Str.ofString ".") = st from if_pos (.inr rfl)), fun n hn => by rw [List.mem_singleton.mp hn]; exact ⟨nosl_of (by decide +kernel), by decide +kernel⟩, by decide⟩
theorem neu_q : Neu [Str.ofString "q", Str.ofString ".."] := by
  refine ⟨fun st => ?_, fun n hn => ?_, by decide⟩
  · have hq : nstep st (Str.ofString "q") = st ++ [Str.ofString "q"] := by
      unfold nstep
      rw [if_neg (by decide +kernel), if_pos (.inl (by decide +kernel))]
    rw [List.foldl_cons, List.foldl_cons, List.foldl_nil, hq]
    unfold nstep
    rw [if_neg (by decide +kernel), if_neg]
    · simp
    · rintro (q | ⟨_, q⟩)
      · exact q rfl
      · rw [List.getLast?_concat] at q
        exact absurd (Option.some.inj q) (by decide +kernel)
  · rcases List.mem_cons.mp hn with rfl | hn
    · exact ⟨nosl_of (by decide +kernel), by decide +kernel⟩
    · rw [List.mem_singleton.mp hn]; exact ⟨nosl_of (by decide +kernel), by decide +kernel⟩
theorem bend_head {d : Int} (h0 : 0 ≤ d) : ∃ H, Neu H ∧ bendHead d = headOf H ∧ (H = [] ∨ ∃ n r, H = n :: r ∧ n.length ≠ 0) := by
  have b0 : 0 ≤ d.fmod 3 := Int.fmod_nonneg_of_pos _ (by decide)
  have b1 : d.fmod 3 < 3 := Int.fmod_lt_of_pos _ (by decide)
  have h : d.fmod 3 = 0 ∨ d.fmod 3 = 1 ∨ d.fmod 3 = 2 := by omega
  unfold bendHead
  rcases h with e | e | e <;> rw [e]
  · exact ⟨[], neu_nil, by decide +kernel, .inl rfl⟩
  · exact ⟨_, neu_dot, by decide +kernel, .inr ⟨_, _, rfl, by decide +kernel⟩⟩
  · exact ⟨_, neu_q, by decide +kernel, .inr ⟨_, _, rfl, by decide +kernel⟩⟩
theorem bend_sep {d : Int} (h0 : 0 ≤ d) (h1 : d < 12) : ∃ S, Neu S ∧ bendSep d = sepOf S := by
  have h : d.fdiv 3 = 0 ∨ d.fdiv 3 = 1 ∨ d.fdiv 3 = 2 ∨ d.fdiv 3 = 3 := by
    rw [Int.fdiv_eq_ediv_of_nonneg _ (by decide)]; omega
  unfold bendSep
  rcases h with e | e | e | e <;> rw [e]
  · exact ⟨_, neu_nil, by decide +kernel⟩
  · exact ⟨_, neu_empty, by decide +kernel⟩
  · exact ⟨_, neu_dot, by decide +kernel⟩
  · exact ⟨_, neu_q, by decide +kernel⟩
theorem hang_crook {f p : List Str} {d : Int} (hf : ∀ n ∈ f, Nm n) (hp : ∀ n ∈ p, Nm n) (hfl : f.length ≤ 3) (hpl : p.length ≤ 4) (h0 : 0 ≤ d) (h1 : d < 12) : Hangs f (crook d (routeS f p)) p := by
  obtain ⟨⟨n, r, e⟩, hall, hlen⟩ := relN_is (f := f) hp hfl hpl
  obtain ⟨H, hH, eH, hH0⟩ := bend_head h0
  obtain ⟨S, hS, eS⟩ := bend_sep h0 h1
  have hne : relN f p ≠ [] := by rw [e]; simp
  have hrow : crook d (routeS f p) = J (H ++ inter S (relN f p)) := by
    unfold crook
    rw [route_J, eH, eS, J_head (inter_ne hne), J_inter hne]
    congr 1
    rw [sl_is, StrLaws.replace_one, ← sl_is, split_J hne fun m hm => (hall m hm).1]
  have hmem : ∀ m ∈ H ++ inter S (relN f p), NoSl m ∧ m.length ≤ 6 := fun m hm => by
    rcases List.mem_append.mp hm with hm | hm
    · exact hH.free m hm
    · exact inter_mem (p := fun m => NoSl m ∧ m.length ≤ 6) hS.free (fun m hm => ⟨(hall m hm).1, (hall m hm).2.1⟩) m hm
  have hln : (H ++ inter S (relN f p)).length ≤ 25 := by
    have := inter_len hS.len (relN f p)
    have := hH.len
    rw [List.length_append]; omega
  have hfold : (H ++ inter S (relN f p)).foldl nstep f = p := by
    rw [List.foldl_append, hH.go, fold_inter hS, fold_relN hf hp]
  obtain ⟨x, t, ex, hx⟩ : ∃ x t, H ++ inter S (relN f p) = x :: t ∧ x.length ≠ 0 := by
    rcases hH0 with rfl | ⟨x, t, rfl, hx⟩
    · obtain ⟨t, et⟩ := inter_first (L := S) (n := n) (r := r)
      exact ⟨n, t, by rw [e, List.nil_append, et], (hall n (by rw [e]; exact .head _)).2.2⟩
    · exact ⟨x, _, rfl, hx⟩
  rw [hrow, ex]
  rw [ex] at hmem hln hfold
  exact hang_of hf (by omega) hx (fun m hm => (hmem m hm).1) (fun m hm => (hmem m hm).2) hln hfold
end
section
theorem flt_P {ns : List Str} (h : ∀ n ∈ ns, Nm n) : flt (P ns) = ns := by
  by_cases e : ns = []
  · subst e; decide +kernel
  · have hp : P ns = J (Str.empty :: ns) := by
      cases ns with
      | nil => exact absurd rfl e
      | cons n r => rw [J_two, Str.empty_append]; rfl
    unfold flt
    rw [hp, split_J (by simp) (fun m hm => ?_), List.filter_cons]
    · rw [if_neg (by decide +kernel)]
      refine List.filter_eq_self.mpr fun n hn => ?_
      have hn' := h n hn
      rw [Bool.and_eq_true]
      exact ⟨decide_eq_true (by have := hn'.ne; omega), by rw [bne_iff_ne]; exact hn'.nd⟩
    · rcases List.mem_cons.mp hm with rfl | hm
      · intro q; cases q
      · exact (h m hm).free
theorem between : ∀ {a b x : List Str}, lexLt x a = false → lexLt b x = false → cpl a b ≤ cpl a x
  | [], b, _, _, _ => by cases b <;> exact Nat.zero_le _
  | _ :: _, [], _, _, _ => Nat.zero_le _
  | y :: a, z :: b, [], h, _ => by simp [lexLt] at h
  | y :: a, z :: b, u :: x, h, g => by
    by_cases e : y = z
    · subst e
      rw [lexLt] at h g
      by_cases e2 : u = y
      · subst e2
        rw [if_pos (beq_self_eq_true u)] at h g
        have := between h g
        simp only [cpl, if_true]
        omega
      · exfalso
        rw [if_neg (by simpa using e2)] at h
        rw [if_neg (by simpa using Ne.symm e2)] at g
        unfold ltS at h g
        rw [decide_eq_false_iff_not] at h g
        exact e2 (Str.ext' (Array.toList_inj.mp (List.le_antisymm (List.not_lt.mp g) (List.not_lt.mp h))))
    · simp [cpl, e]
theorem cpl_takes : ∀ a b : List Str, a.take (cpl a b) = b.take (cpl a b)
  | [], b => by cases b <;> rfl
  | _ :: _, [] => rfl
  | x :: xs, y :: ys => by
    unfold cpl
    by_cases e : x = y
    · subst e; rw [if_pos rfl, List.take_succ_cons, List.take_succ_cons, cpl_takes xs ys]
    · rw [if_neg e]; rfl
theorem take_of_le {a x : List Str} {c : Nat} (h : c ≤ cpl a x) : a.take c = x.take c ∧ c ≤ a.length ∧ c ≤ x.length := by
  have h1 := cpl_takes a x
  have h2 := cpl_le a x
  refine ⟨?_, by omega, by omega⟩
  have := congrArg (List.take c) h1
  rwa [List.take_take, List.take_take, Nat.min_eq_left h] at this
theorem le_of_take : ∀ {a x : List Str} {c : Nat}, a.take c = x.take c → c ≤ a.length → c ≤ x.length → c ≤ cpl a x
  | _, _, 0, _, _, _ => Nat.zero_le _
  | [], _, _ + 1, _, h, _ => by simp at h
  | _ :: _, [], _ + 1, _, _, h => by simp at h
  | y :: a, z :: x, c + 1, e, h, g => by
    rw [List.take_succ_cons, List.take_succ_cons, List.cons.injEq] at e
    obtain ⟨rfl, e⟩ := e
    simp only [List.length_cons] at h g
    have := le_of_take e (by omega) (by omega)
    simp only [cpl, if_true]
    omega
theorem common_take {start : List Str} {fulls : List (List Str)} {ks' : List (List (Str × Tok))} {k1 k2 : List (Str × Tok)} {M : Nat} (hks : ks'.map (·.map (·.1)) = start :: fulls)
    (h1 : ks'[argBest (btL ks') (ks'.length - 1)]? = some k1) (h2 : ks'[argBest (btG ks') (ks'.length - 1)]? = some k2) (hM1 : ∃ f ∈ fulls, M = cpl start f) (hM2 : ∀ f ∈ fulls, M ≤ cpl start f) :
    (k1.map (·.1)).take (cpl (k1.map (·.1)) (k2.map (·.1))) = start.take M := by
  have all : ∀ x ∈ start :: fulls, lexLt x (k1.map (·.1)) = false ∧ lexLt (k2.map (·.1)) x = false := fun x hx => by
    rw [← hks] at hx
    obtain ⟨k, hk, rfl⟩ := List.mem_map.mp hx
    exact ⟨best_min h1 hk, best_max h2 hk⟩
  have m1 : k1.map (·.1) ∈ start :: fulls := by rw [← hks]; exact List.mem_map.mpr ⟨k1, List.mem_of_getElem? h1, rfl⟩
  have m2 : k2.map (·.1) ∈ start :: fulls := by rw [← hks]; exact List.mem_map.mpr ⟨k2, List.mem_of_getElem? h2, rfl⟩
  generalize k1.map (·.1) = a at all m1 ⊢
  generalize k2.map (·.1) = b at all m2 ⊢
  have sh : ∀ x ∈ start :: fulls, a.take (cpl a b) = x.take (cpl a b) ∧ cpl a b ≤ a.length ∧ cpl a b ≤ x.length := fun x hx => take_of_le (between (all x hx).1 (all x hx).2)
  obtain ⟨f, hf, hMf⟩ := hM1
  have hs := sh start (.head _)
  have hff := sh f (.tail _ hf)
  have c1 : cpl a b ≤ M := by rw [hMf]; exact le_of_take (hs.1.symm.trans hff.1) hs.2.2 hff.2.2
  have st : ∀ x ∈ start :: fulls, start.take M = x.take M ∧ M ≤ start.length ∧ M ≤ x.length := fun x hx => by
    rcases List.mem_cons.mp hx with rfl | hx
    · have := (take_of_le (hM2 f hf)).2.1
      exact ⟨rfl, this, this⟩
    · exact take_of_le (hM2 x hx)
  have sa := st a m1
  have sb := st b m2
  have c2 : M ≤ cpl a b := le_of_take (sa.1.symm.trans sb.1) sa.2.2 sb.2.2
  have e : cpl a b = M := Nat.le_antisymm c1 c2
  rw [e]; exact sa.1.symm
end
section
theorem look_new {h₀ h : Heap} {L : Addr} {m : Str → Option Value} {x : Str} {v : Value} (F : Fr h₀ L h (fun z => if z = x then some v else m z)) : ∃ m', Fr h₀ L h m' ∧ m' x = some v ∧ ∀ z, z ≠ x → m' z = m z :=
  ⟨_, F, if_pos rfl, fun z hz => if_neg hz⟩
theorem law_all {prog : Program} {w : World} {dp un : Nat} {fr : Option (List Env)} {gd : Option (List Code)} {g : Heap} {body : List Stmt} {sc : Scope} {nm : Str} {L fa : Addr} {cd : Value} {Q : Flow → Shared → Prop} {E : Value → Shared → Prop} {s : Shared} {mean : ExcName → Option Value} {mg mb : Str → Option Value} {m : Str → Option Value} {oc : Obj} {v0 : Option Value} {a : Addr} {vs : List Value} {ns : List Int}
    (hb : lawB = body) (hsc : lawSc = sc) (X : (tp.heap_39 w.params).In g) (T : Top tp.view_39 [Str.ofString "relpath"] mean mg mb g) (r : Rm dp un 20) (F : Fr g L s.heap m) (N : News g L s.heap [(L + 1, oc)])
    (hs : m (Str.ofString "script") = some (.ref a)) (ha : g.IsList a vs.toArray) (hi : IntsAre vs ns) (hz : ns.length ≤ 63) (hoc : oc.data = .cell v0) (hQ : ∀ h' tk' m', Fr g L h' m' → Q (.ret (.bool true)) { s with heap := h', toks := tk' }) :
    wpAny (model prog w) (AA dp un fr gd) (execs (body.drop 0) (envOfC nm sc L fa cd)) Q E s := by
  refine law0 hb hsc X T r F N hs ha hi hz ?_
  obtain ⟨hcl8, hcl0⟩ := cells_len (ns := ns)
  have hp : ∀ p ∈ (cellsOf ns).map plOf, ∃ c, p = plOf c := fun p hp => by
    obtain ⟨c, _, rfl⟩ := List.mem_map.mp hp; exact ⟨c, rfl⟩
  have hpl8 : ((cellsOf ns).map plOf).length ≤ 8 := by rw [List.length_map]; exact hcl8
  have hpl0 : 0 < ((cellsOf ns).map plOf).length := by rw [List.length_map]; exact hcl0
  have hlen : (cellsOf ns).length = ((cellsOf ns).map plOf).length := (List.length_map _).symm
  rw [hlen]
  clear F N hlen
  generalize (cellsOf ns).map plOf = pls at hp hpl8 hpl0 ⊢
  have hp1 : ∀ p ∈ pls, Pl.Ok p := fun p h => by obtain ⟨c, rfl⟩ := hp p h; exact plOf_ok
  have hp2 : ∀ p ∈ pls, Pl.Has p := fun p h => by obtain ⟨c, rfl⟩ := hp p h; exact plOf_has
  have hsk : ∀ p ∈ pls, ∀ n ∈ Pl.full p, SOk n := fun p h => by obtain ⟨c, rfl⟩ := hp p h; exact plOf_cps
  have hlc : ∀ p ∈ pls, LC p := fun p h => by obtain ⟨c, rfl⟩ := hp p h; exact plOf_lc
  have hsx : ∀ p ∈ pls, SX p := fun p h => by obtain ⟨c, rfl⟩ := hp p h; exact plOf_sx
  have hpf : ∀ p ∈ pls, SOk (P (Pl.f p)) := fun p h => sok_P fun n hn => hsk p h n (List.mem_append_left _ hn)
  have hz20 : pls.length ≤ 20 := Nat.le_trans hpl8 (by decide)
  intro h0 tk0 D0 vs0 n0 nx0 F N hoff hDp hvl hPl
  have hm0 := look_new (x := Str.ofString "places") F
  obtain ⟨m0, F0, LP, hm0⟩ := hm0
  clear F; rename Fr _ _ _ m0 => F
  refine law1 hb hsc X T r F N hoc hoff LP hDp hvl hPl hpl8 ?_
  clear F N hoff
  intro h1 tk1 oc ks cs nx1 st F N s1 hoc hst hks
  replace hDp := s1 _ hDp
  replace hPl := hPl.more s1
  have hst3 := startOf_is (i := ((pls.map fun p : Pl => p.d).sum).fmod 3) (Int.fmod_nonneg_of_pos _ (by decide)) (Int.fmod_lt_of_pos _ (by decide))
  rw [← hks] at hst3
  obtain ⟨hsn, hsl⟩ := hst3
  have hsl2 : ks.length ≤ 2 := by rw [List.length_map] at hsl; exact hsl
  have hsl3 : ks.length ≤ 3 := Nat.le_trans hsl2 (by decide)
  have hsl20 : (ks.map (·.1)).length ≤ 20 := Nat.le_trans hsl (by decide)
  refine law2 hb hsc X T r F N hoc hst hsl3 hsn ?_
  clear F N
  intro h2 tk2 nx2 t2 F N s2
  replace hDp := s2 _ hDp
  replace hst := s2 _ hst
  replace hPl := hPl.more s2
  have hm2 := look_new (x := Str.ofString "here") F
  obtain ⟨m2, F2, LH, hm2⟩ := hm2
  clear F; rename Fr _ _ _ m2 => F
  replace LP := (hm2 (Str.ofString "places") (by decide)).trans LP
  refine law3 hb hsc X T r F N LP hDp hvl hPl hpl8 hp1 hp2 ?_
  clear F N
  intro h3 tk3 nx3 Df vf nf F N s3 hDf hvf hLf
  replace hDp := s3 _ hDp
  replace hst := s3 _ hst
  replace hPl := hPl.more s3
  have hm3 := look_new (x := Str.ofString "fulls") F
  obtain ⟨m3, F3, LF, hm3⟩ := hm3
  clear F; rename Fr _ _ _ m3 => F
  replace LP := (hm3 (Str.ofString "places") (by decide)).trans LP
  replace LH := (hm3 (Str.ofString "here") (by decide)).trans LH
  refine law4 hb hsc X T r F N LF hDf hvf hLf hpl8 hp1 ?_
  clear F N
  intro h4 tk4 nx4 Da ka na F N s4 hDa hka
  replace hDp := s4 _ hDp
  replace hst := s4 _ hst
  replace hDf := s4 _ hDf
  replace hPl := hPl.more s4
  replace hLf := hLf.more s4
  have hm4 := look_new (x := Str.ofString "paths") F
  obtain ⟨m4, F4, LA, hm4⟩ := hm4
  clear F; rename Fr _ _ _ m4 => F
  replace LP := (hm4 (Str.ofString "places") (by decide)).trans LP
  replace LH := (hm4 (Str.ofString "here") (by decide)).trans LH
  replace LF := (hm4 (Str.ofString "fulls") (by decide)).trans LF
  refine law5 hb hsc X T r F N LF hDf hvf hLf hpl8 hp1 LA hDa hka hsk ?_
  clear F N
  intro h5 tk5 nx5 F N s5
  replace hDp := s5 _ hDp
  replace hst := s5 _ hst
  replace hDf := s5 _ hDf
  replace hDa := s5 _ hDa
  replace hPl := hPl.more s5
  replace hLf := hLf.more s5
  refine law6 hb hsc X T r F N hoc hst LP hDp hvl hPl hpl8 hpl0 ?_
  clear F N
  intro h6 tk6 nx6 Db vb nb F N s6 hDb hvb hLb
  replace hDp := s6 _ hDp
  replace hst := s6 _ hst
  replace hDf := s6 _ hDf
  replace hDa := s6 _ hDa
  replace hPl := hPl.more s6
  replace hLf := hLf.more s6
  have hm6 := look_new (x := Str.ofString "befores") F
  obtain ⟨m6, F6, LB, hm6⟩ := hm6
  clear F; rename Fr _ _ _ m6 => F
  replace LP := (hm6 (Str.ofString "places") (by decide)).trans LP
  replace LH := (hm6 (Str.ofString "here") (by decide)).trans LH
  replace LF := (hm6 (Str.ofString "fulls") (by decide)).trans LF
  replace LA := (hm6 (Str.ofString "paths") (by decide)).trans LA
  refine law7 hb hsc X T r F N LA LH hDa hka hp1 hz20 hsn hsl20 ?_
  clear F N
  intro h7 tk7 nx7 Dc kc nc F N s7 hDc hkc
  replace hDp := s7 _ hDp
  replace hst := s7 _ hst
  replace hDf := s7 _ hDf
  replace hDa := s7 _ hDa
  replace hDb := s7 _ hDb
  replace hPl := hPl.more s7
  replace hLf := hLf.more s7
  replace hLb := hLb.more s7
  have hm7 := look_new (x := Str.ofString "chain") F
  obtain ⟨m7, F7, LC0, hm7⟩ := hm7
  clear F; rename Fr _ _ _ m7 => F
  replace LP := (hm7 (Str.ofString "places") (by decide)).trans LP
  replace LH := (hm7 (Str.ofString "here") (by decide)).trans LH
  replace LF := (hm7 (Str.ofString "fulls") (by decide)).trans LF
  replace LA := (hm7 (Str.ofString "paths") (by decide)).trans LA
  replace LB := (hm7 (Str.ofString "befores") (by decide)).trans LB
  refine law8 hb hsc X T r F N LC0 LB LF hDc hDb hDf hkc hvb hLb hvf hLf hp1 hsk hsl20 hpl8 ?_
  clear F N
  intro h8 tk8 nx8 F N s8
  replace hDp := s8 _ hDp
  replace hst := s8 _ hst
  replace hDf := s8 _ hDf
  replace hDa := s8 _ hDa
  replace hDb := s8 _ hDb
  replace hDc := s8 _ hDc
  replace hPl := hPl.more s8
  replace hLf := hLf.more s8
  replace hLb := hLb.more s8
  refine law9 hb hsc X T r F N LP hDp hvl hPl hpl8 hp1 ?_
  clear F N
  intro h9 tk9 nx9 Dt vt nt F N s9 hDt hvt hTl
  replace hDp := s9 _ hDp
  replace hst := s9 _ hst
  replace hDf := s9 _ hDf
  replace hDa := s9 _ hDa
  replace hDb := s9 _ hDb
  replace hDc := s9 _ hDc
  replace hPl := hPl.more s9
  replace hLf := hLf.more s9
  replace hLb := hLb.more s9
  have hm9 := look_new (x := Str.ofString "told") F
  obtain ⟨m9, F9, LT, hm9⟩ := hm9
  clear F; rename Fr _ _ _ m9 => F
  replace LP := (hm9 (Str.ofString "places") (by decide)).trans LP
  replace LH := (hm9 (Str.ofString "here") (by decide)).trans LH
  replace LF := (hm9 (Str.ofString "fulls") (by decide)).trans LF
  replace LA := (hm9 (Str.ofString "paths") (by decide)).trans LA
  replace LB := (hm9 (Str.ofString "befores") (by decide)).trans LB
  replace LC0 := (hm9 (Str.ofString "chain") (by decide)).trans LC0
  have hkcl : kc.length = pls.length := by rw [← List.length_map (f := fun x : Str × Tok => x.1), hkc, chainL_len]
  have hbf : ∀ (i : Nat) (f : List Str), (befs (ks.map (·.1)) pls)[i]? = some f → (∀ n ∈ f, Nm n) ∧ f.length ≤ 3 := fun i f hf => by
    rcases List.mem_cons.mp (List.mem_of_getElem? hf) with rfl | hf
    · exact ⟨hsn, Nat.le_trans hsl (by decide)⟩
    · obtain ⟨q, hq, rfl⟩ := List.mem_map.mp hf
      exact ⟨(hp1 q hq).hf, (hp1 q hq).hl⟩
  have hfl4 : ∀ p ∈ pls, (Pl.full p).length ≤ 4 := fun p hp => by
    have := (hp1 p hp).hl
    unfold Pl.full; rw [List.length_append]; simp; omega
  refine law10 hb hsc X T r F N LH LC0 LT hDc hDt hkcl hvt hTl (fun i f p row hf hp hrow => ?_) hlc hp1 hsn hsl20 hz20 hpf ?_
  · rw [hkc, chainL_at hp hf] at hrow
    obtain rfl := Option.some.inj hrow
    have hpm := List.mem_of_getElem? hp
    exact hang_route (hbf i f hf).1 (hp1 p hpm).names (hbf i f hf).2 (hfl4 p hpm)
  clear F N
  intro h10 tk10 nx10 F N s10
  replace hDp := s10 _ hDp
  replace hst := s10 _ hst
  replace hDf := s10 _ hDf
  replace hDa := s10 _ hDa
  replace hDb := s10 _ hDb
  replace hDc := s10 _ hDc
  replace hDt := s10 _ hDt
  replace hPl := hPl.more s10
  replace hLf := hLf.more s10
  replace hLb := hLb.more s10
  replace hTl := hTl.more s10
  refine law11 hb hsc X T r F N LC0 LP hDc hDp hkc (fun y hy => ?_) hvl hPl hp2 hpl8 ?_
  · rw [hkc] at hy
    obtain ⟨i, hi, rfl⟩ := List.mem_iff_getElem.mp hy
    have hi2 : i < pls.length := by rw [chainL_len] at hi; exact hi
    have hib : i < (befs (ks.map (·.1)) pls).length := by unfold befs; rw [List.length_cons, List.length_map]; omega
    have e := chainL_at (List.getElem?_eq_getElem hi2) (List.getElem?_eq_getElem hib)
    rw [List.getElem?_eq_getElem hi] at e
    have hpm := List.getElem_mem hi2
    have hf := hbf i _ (List.getElem?_eq_getElem hib)
    rw [Option.some.inj e]
    exact (hang_route hf.1 (hp1 _ hpm).names hf.2 (hfl4 _ hpm)).1
  clear F N
  intro h11 tk11 nx11 Dn kn nn F N s11 hDn hkn
  replace hDp := s11 _ hDp
  replace hst := s11 _ hst
  replace hDf := s11 _ hDf
  replace hDa := s11 _ hDa
  replace hDb := s11 _ hDb
  replace hDc := s11 _ hDc
  replace hDt := s11 _ hDt
  replace hPl := hPl.more s11
  replace hLf := hLf.more s11
  replace hLb := hLb.more s11
  replace hTl := hTl.more s11
  have hm11 := look_new (x := Str.ofString "bent") F
  obtain ⟨m11, F11, LN, hm11⟩ := hm11
  clear F; rename Fr _ _ _ m11 => F
  replace LP := (hm11 (Str.ofString "places") (by decide)).trans LP
  replace LH := (hm11 (Str.ofString "here") (by decide)).trans LH
  replace LF := (hm11 (Str.ofString "fulls") (by decide)).trans LF
  replace LA := (hm11 (Str.ofString "paths") (by decide)).trans LA
  replace LB := (hm11 (Str.ofString "befores") (by decide)).trans LB
  replace LC0 := (hm11 (Str.ofString "chain") (by decide)).trans LC0
  replace LT := (hm11 (Str.ofString "told") (by decide)).trans LT
  have hknl : kn.length = pls.length := by rw [← List.length_map (f := fun x : Str × Tok => x.1), hkn]; simp [crookL, chainL_len]
  refine law12 hb hsc X T r F N LH LN LT hDn hDt hknl hvt hTl (fun i f p row hf hp hrow => ?_) hlc hp1 hsn hsl20 hz20 hpf ?_
  · rw [hkn, crookL, List.getElem?_zipWith, chainL_at hp hf, hp] at hrow
    obtain rfl := Option.some.inj hrow
    have hpm := List.mem_of_getElem? hp
    exact hang_crook (hbf i f hf).1 (hp1 p hpm).names (hbf i f hf).2 (hfl4 p hpm) (hp2 p hpm).hd0 (hp2 p hpm).hd1
  clear F N
  intro h12 tk12 nx12 F N s12
  replace hDp := s12 _ hDp
  replace hst := s12 _ hst
  replace hDf := s12 _ hDf
  replace hDa := s12 _ hDa
  replace hDb := s12 _ hDb
  replace hDc := s12 _ hDc
  replace hDt := s12 _ hDt
  replace hDn := s12 _ hDn
  replace hPl := hPl.more s12
  replace hLf := hLf.more s12
  replace hLb := hLb.more s12
  replace hTl := hTl.more s12
  refine law13 hb hsc X T r F N LA LP hDa hDp hka hvl hPl hp1 hp2 hsx hsk hpl8 ?_
  clear F N
  intro h13 tk13 nx13 m13 F N s13 hm13
  replace hDp := s13 _ hDp
  replace hst := s13 _ hst
  replace hDf := s13 _ hDf
  replace hDa := s13 _ hDa
  replace hDb := s13 _ hDb
  replace hDc := s13 _ hDc
  replace hDt := s13 _ hDt
  replace hDn := s13 _ hDn
  replace hPl := hPl.more s13
  replace hLf := hLf.more s13
  replace hLb := hLb.more s13
  replace hTl := hTl.more s13
  replace LP := (hm13 (Str.ofString "places") (by decide) (by decide)).trans LP
  replace LH := (hm13 (Str.ofString "here") (by decide) (by decide)).trans LH
  replace LF := (hm13 (Str.ofString "fulls") (by decide) (by decide)).trans LF
  replace LA := (hm13 (Str.ofString "paths") (by decide) (by decide)).trans LA
  replace LB := (hm13 (Str.ofString "befores") (by decide) (by decide)).trans LB
  replace LC0 := (hm13 (Str.ofString "chain") (by decide) (by decide)).trans LC0
  replace LT := (hm13 (Str.ofString "told") (by decide) (by decide)).trans LT
  replace LN := (hm13 (Str.ofString "bent") (by decide) (by decide)).trans LN
  refine law14 hb hsc X T r F N hoc hst hsl3 LF hDf hvf hLf hpl8 hpl0 hp1 ?_
  clear F N
  intro h14 tk14 nx14 t14 M F N s14 hM1 hM2
  replace hDp := s14 _ hDp
  replace hst := s14 _ hst
  replace hDf := s14 _ hDf
  replace hDa := s14 _ hDa
  replace hDb := s14 _ hDb
  replace hDc := s14 _ hDc
  replace hDt := s14 _ hDt
  replace hDn := s14 _ hDn
  replace hPl := hPl.more s14
  replace hLf := hLf.more s14
  replace hLb := hLb.more s14
  replace hTl := hTl.more s14
  have hm14 := look_new (x := Str.ofString "count") F
  obtain ⟨m14, F14, LM, hm14⟩ := hm14
  clear F; rename Fr _ _ _ m14 => F
  replace LP := (hm14 (Str.ofString "places") (by decide)).trans LP
  replace LH := (hm14 (Str.ofString "here") (by decide)).trans LH
  replace LF := (hm14 (Str.ofString "fulls") (by decide)).trans LF
  replace LA := (hm14 (Str.ofString "paths") (by decide)).trans LA
  replace LB := (hm14 (Str.ofString "befores") (by decide)).trans LB
  replace LC0 := (hm14 (Str.ofString "chain") (by decide)).trans LC0
  replace LT := (hm14 (Str.ofString "told") (by decide)).trans LT
  replace LN := (hm14 (Str.ofString "bent") (by decide)).trans LN
  obtain ⟨pM, hpM, eM⟩ := hM1
  have hMl : M ≤ 3 := by
    have := (cpl_le (ks.map (·.1)) pM.full).1
    rw [List.length_map] at this
    omega
  refine law15 hb hsc X T r F N hoc hst hsl3 hsn LH LA hDa hka LM hMl hp1 hpl8 (fun ks' k1 k2 hk h1 h2 => ?_) ?_
  · have e : ((P (ks.map (·.1))) :: pls.map fun p => P (Pl.full p)).map flt = ks.map (·.1) :: pls.map Pl.full := by
      rw [List.map_cons, flt_P hsn, List.map_map]
      congr 1
      exact List.map_congr_left fun p hp => flt_P (hp1 p hp).names
    rw [e] at hk
    exact common_take hk h1 h2 ⟨_, List.mem_map.mpr ⟨pM, hpM, rfl⟩, eM⟩ fun f hf => by
      obtain ⟨q, hq, rfl⟩ := List.mem_map.mp hf
      exact hM2 q hq
  · intro h15 tk15 m15 F15
    exact hQ h15 tk15 m15 F15
end
end
end
end
end
end
end
end
end
end
end
end
end
end
end
end
end
end
end
end
end
end
end
end
end
end
end
end
end Mine
open PySem PySem.W PySem.Calls PyProof.Rows in
set_option maxHeartbeats 8000000 in
theorem PySem.Challenge.cw_mq0389_01_holds : PySem.Challenge.rw_mq0389_01.Holds := by
  w_on
  refine Mine.tp (by rfl) (by rfl) (by rfl) (by w_witness2) ?_
  k_fill
  intro w s₀ s₁ mg mb G Y fa o pm cd doc dV kV ho hd hcd hD hmg hg args vals as hpre hlay hrd hwl hlo
  have KX := kIn_of Y
  have X := (Ground.X G).1
  have V := (Ground.X G).2
  refine Ground.open G ?_
  intro T B D TE TW
  try (refine guard_noD D (by decide +kernel) ?_; clear D)
  obtain ⟨_, _, M⟩ := bmod_of_top T
  have TA := at_of_top T
  try (obtain ⟨_, _, he, B0⟩ := based_of_top T rfl hmg ho hd; have he' : cd = _ := he; subst he'; clear he)
  clear hmg
  wrow_args hpre hlay hrd hwl hlo
  all_goals (
    first | refine callC_kw (enter_call ?_) | refine enter_call ?_ | refine callC_kw (enter_callW ?_) | refine enter_callW ?_ | w_how
    w_top on
    try refine codeAny_mono ?_ (fun _ _ g => GoodW.toG g)
    have K0 := below_caller (Top.heap T)
    w_call any ho hd hcd hD T F
    clear hd TA
    k_drop
    skip)
  all_goals try k_fold
  rename News _ _ _ _ => N
  rename Fr _ _ _ _ => F
  rename CellsAre _ _ _ => Y
  rename Frag.In _ _ => KX
  rename Top _ _ _ _ _ _ => T
  rename Heap.IsList _ _ _ => hL
  rename IntsAre _ _ => hI
  rename ¬ _ < _ => hz
  rename _ = Data.cell _ => hoc
  rename _ = #[] => hg
  clear Y
  have T' : Top Mine.tp.view_39 [Str.ofString "relpath"] _ _ _ _ := T
  refine Mine.law_all (dp := _) (un := _) (fr := _) (gd := _) rfl rfl KX T' ⟨by decide, by decide⟩ F N rfl hL hI (by omega) hoc ?_
  intro h' tk' m' F'
  refine goodW_bool F' hg (raisesW_false ?_) ?_
  · wrow_none_raised
  · kc_post

