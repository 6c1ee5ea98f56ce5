import PyProof.Rows.All
import Wide.All
import OpenK.AllK
import Wide.FinOn
import PySem.Challenge.RW_ty0021_02
open PySem PySem.W PyProof.Rows
set_option Elab.async false
set_option maxRecDepth 100000
set_option maxHeartbeats 8000000
set_option linter.unusedVariables false
/- part -/
namespace Mine
/- the head: the text's functions are pointed at in the row -/
noncomputable def topAt (i : Nat) : Stmt := PySem.Challenge.pw_ty0021_02.main.body.getD i (.Pass default)
noncomputable def inAt (i j : Nat) : Stmt := match topAt i with
  | .ClassDef _ _ _ body _ _ _ _ _ _ _ => body.getD j (.Pass default)
  | s => s
noncomputable def fnO (st : Stmt) (qual : Str) (dV kV pm cd : Value) : Obj := match st with
  | .FunctionDef name args body _ _ _ scope _ _ _ => { cls := .type "function", data := .func { name := name, qualname := qual, params := args, body := .stmts body, scope := scope, globals := 3, closure := [], defaults := dV, kwdefaults := kV, pyModule := pm, code := cd } }
  | _ => default
noncomputable def K02 : Params → Frag := fun P =>
  (nat_lit 2, { cls := PySem.Value.none, data := PySem.Data.dict #[] }) ::
  (nat_lit 3, { cls := PySem.Value.type "dict", data := PySem.Data.dict #[{ hash := PySem.PyData.keyHash P (PySem.Str.ofString "__name__"), key := PySem.Value.str (PySem.Str.ofString "__name__") 165, val := PySem.Value.str (PySem.Str.ofString "law_ty0021_02") 303 }, { hash := PySem.PyData.keyHash P (PySem.Str.ofString "__doc__"), key := PySem.Value.str (PySem.Str.ofString "__doc__") 166, val := PySem.Value.none }, { hash := PySem.PyData.keyHash P (PySem.Str.ofString "__package__"), key := PySem.Value.str (PySem.Str.ofString "__package__") 167, val := PySem.Value.none }, { hash := PySem.PyData.keyHash P (PySem.Str.ofString "__loader__"), key := PySem.Value.str (PySem.Str.ofString "__loader__") 168, val := PySem.Value.builtin "__main__.__loader__#opaque" }, { hash := PySem.PyData.keyHash P (PySem.Str.ofString "__spec__"), key := PySem.Value.str (PySem.Str.ofString "__spec__") 169, val := PySem.Value.none }, { hash := PySem.PyData.keyHash P (PySem.Str.ofString "__annotations__"), key := PySem.Value.str (PySem.Str.ofString "__annotations__") 170, val := PySem.Value.ref 6 }, { hash := PySem.PyData.keyHash P (PySem.Str.ofString "__builtins__"), key := PySem.Value.str (PySem.Str.ofString "__builtins__") 171, val := PySem.Value.ref 4 }, { hash := PySem.PyData.keyHash P (PySem.Str.ofString "__file__"), key := PySem.Value.str (PySem.Str.ofString "__file__") 173, val := PySem.Value.str (PySem.Str.ofString "/claim/cut.py") 172 }, { hash := PySem.PyData.keyHash P (PySem.Str.ofString "__cached__"), key := PySem.Value.str (PySem.Str.ofString "__cached__") 174, val := PySem.Value.none }, { hash := PySem.PyData.keyHash P (PySem.Str.ofString "_netrclex"), key := PySem.Value.str (PySem.Str.ofString "_netrclex") 246, val := PySem.Value.ref 52 }, { hash := PySem.PyData.keyHash P (PySem.Str.ofString "insort_right"), key := PySem.Value.str (PySem.Str.ofString "insort_right") 261, val := PySem.Value.ref 65 }, { hash := PySem.PyData.keyHash P (PySem.Str.ofString "bisect_right"), key := PySem.Value.str (PySem.Str.ofString "bisect_right") 275, val := PySem.Value.ref 74 }, { hash := PySem.PyData.keyHash P (PySem.Str.ofString "_parse_varint"), key := PySem.Value.str (PySem.Str.ofString "_parse_varint") 286, val := PySem.Value.ref 81 }, { hash := PySem.PyData.keyHash P (PySem.Str.ofString "ELLIPSIS_MARKER"), key := PySem.Value.str (PySem.Str.ofString "ELLIPSIS_MARKER") 290, val := PySem.Value.str (PySem.Str.ofString "...") 289 }, { hash := PySem.PyData.keyHash P (PySem.Str.ofString "_ellipsis_match"), key := PySem.Value.str (PySem.Str.ofString "_ellipsis_match") 302, val := PySem.Value.ref 88 }, { hash := PySem.PyData.keyHash P (PySem.Str.ofString "_law_lexer"), key := PySem.Value.str (PySem.Str.ofString "_law_lexer") 313, val := PySem.Value.ref 95 }, { hash := PySem.PyData.keyHash P (PySem.Str.ofString "_law_written"), key := PySem.Value.str (PySem.Str.ofString "_law_written") 319, val := PySem.Value.ref 100 }, { hash := PySem.PyData.keyHash P (PySem.Str.ofString "_law_told"), key := PySem.Value.str (PySem.Str.ofString "_law_told") 325, val := PySem.Value.ref 105 }, { hash := PySem.PyData.keyHash P (PySem.Str.ofString "_law_piles"), key := PySem.Value.str (PySem.Str.ofString "_law_piles") 335, val := PySem.Value.ref 112 }, { hash := PySem.PyData.keyHash P (PySem.Str.ofString "_law_deal"), key := PySem.Value.str (PySem.Str.ofString "_law_deal") 347, val := PySem.Value.ref 119 }, { hash := PySem.PyData.keyHash P (PySem.Str.ofString "_law_more"), key := PySem.Value.str (PySem.Str.ofString "_law_more") 353, val := PySem.Value.ref 124 }, { hash := PySem.PyData.keyHash P (PySem.Str.ofString "_law_rows"), key := PySem.Value.str (PySem.Str.ofString "_law_rows") 359, val := PySem.Value.ref 129 }, { hash := PySem.PyData.keyHash P (PySem.Str.ofString "law"), key := PySem.Value.str (PySem.Str.ofString "law") 365, val := PySem.Value.ref 134 }] 23 }) ::
  (nat_lit 6, { cls := PySem.Value.type "dict", data := PySem.Data.dict #[] }) ::
  (nat_lit 22, { cls := PySem.Value.type "tuple", data := PySem.Data.seq #[] }) ::
  (nat_lit 24, { cls := PySem.Value.type "tuple", data := PySem.Data.seq #[PySem.Value.str (PySem.Str.ofString "self") 204, PySem.Value.str (PySem.Str.ofString "fp") 205] }) ::
  (nat_lit 25, { cls := PySem.Value.type "tuple", data := PySem.Data.seq #[] }) ::
  (nat_lit 27, { cls := PySem.Value.type "code", data := PySem.Data.fields #[PySem.Value.str (PySem.Str.ofString "__init__") 201, PySem.Value.str (PySem.Str.ofString "_netrclex.__init__") 202, PySem.Value.str (PySem.Str.ofString "/claim/cut.py") 203, PySem.Value.int 4 0, PySem.Value.int 2 0, PySem.Value.int 0 0, PySem.Value.int 0 0, PySem.Value.int 3 0, PySem.Value.ref 22, PySem.Value.bool true, PySem.Value.int 181 0, PySem.Value.ref 23, PySem.Value.none, PySem.Value.ref 24, PySem.Value.ref 25, PySem.Value.ref 26, PySem.Value.int 206 0, PySem.Value.int 4 0, PySem.Value.str (PySem.Str.ofString "/claim/cut.py") 207] }) ::
  (nat_lit 28, fnO (inAt 1 0) (PySem.Str.ofString "_netrclex.__init__") (PySem.Value.none) (PySem.Value.none) (PySem.Value.str (PySem.Str.ofString "cpy313.netrc") 187) (PySem.Value.ref 27)) ::
  (nat_lit 29, { cls := PySem.Value.type "tuple", data := PySem.Data.seq #[] }) ::
  (nat_lit 31, { cls := PySem.Value.type "tuple", data := PySem.Data.seq #[PySem.Value.str (PySem.Str.ofString "self") 212, PySem.Value.str (PySem.Str.ofString "ch") 213] }) ::
  (nat_lit 32, { cls := PySem.Value.type "tuple", data := PySem.Data.seq #[] }) ::
  (nat_lit 34, { cls := PySem.Value.type "code", data := PySem.Data.fields #[PySem.Value.str (PySem.Str.ofString "_read_char") 209, PySem.Value.str (PySem.Str.ofString "_netrclex._read_char") 210, PySem.Value.str (PySem.Str.ofString "/claim/cut.py") 211, PySem.Value.int 10 0, PySem.Value.int 1 0, PySem.Value.int 0 0, PySem.Value.int 0 0, PySem.Value.int 3 0, PySem.Value.ref 29, PySem.Value.bool true, PySem.Value.int 181 0, PySem.Value.ref 30, PySem.Value.none, PySem.Value.ref 31, PySem.Value.ref 32, PySem.Value.ref 33, PySem.Value.int 214 0, PySem.Value.int 10 0, PySem.Value.str (PySem.Str.ofString "/claim/cut.py") 215] }) ::
  (nat_lit 35, fnO (inAt 1 1) (PySem.Str.ofString "_netrclex._read_char") (PySem.Value.none) (PySem.Value.none) (PySem.Value.str (PySem.Str.ofString "cpy313.netrc") 187) (PySem.Value.ref 34)) ::
  (nat_lit 36, { cls := PySem.Value.type "tuple", data := PySem.Data.seq #[] }) ::
  (nat_lit 38, { cls := PySem.Value.type "tuple", data := PySem.Data.seq #[PySem.Value.str (PySem.Str.ofString "self") 220, PySem.Value.str (PySem.Str.ofString "token") 221, PySem.Value.str (PySem.Str.ofString "fiter") 222, PySem.Value.str (PySem.Str.ofString "ch") 223] }) ::
  (nat_lit 39, { cls := PySem.Value.type "tuple", data := PySem.Data.seq #[] }) ::
  (nat_lit 41, { cls := PySem.Value.type "code", data := PySem.Data.fields #[PySem.Value.str (PySem.Str.ofString "get_token") 217, PySem.Value.str (PySem.Str.ofString "_netrclex.get_token") 218, PySem.Value.str (PySem.Str.ofString "/claim/cut.py") 219, PySem.Value.int 16 0, PySem.Value.int 1 0, PySem.Value.int 0 0, PySem.Value.int 0 0, PySem.Value.int 3 0, PySem.Value.ref 36, PySem.Value.bool true, PySem.Value.int 181 0, PySem.Value.ref 37, PySem.Value.none, PySem.Value.ref 38, PySem.Value.ref 39, PySem.Value.ref 40, PySem.Value.int 224 0, PySem.Value.int 16 0, PySem.Value.str (PySem.Str.ofString "/claim/cut.py") 225] }) ::
  (nat_lit 42, fnO (inAt 1 2) (PySem.Str.ofString "_netrclex.get_token") (PySem.Value.none) (PySem.Value.none) (PySem.Value.str (PySem.Str.ofString "cpy313.netrc") 187) (PySem.Value.ref 41)) ::
  (nat_lit 43, { cls := PySem.Value.type "tuple", data := PySem.Data.seq #[] }) ::
  (nat_lit 45, { cls := PySem.Value.type "tuple", data := PySem.Data.seq #[PySem.Value.str (PySem.Str.ofString "self") 230, PySem.Value.str (PySem.Str.ofString "token") 231] }) ::
  (nat_lit 46, { cls := PySem.Value.type "tuple", data := PySem.Data.seq #[] }) ::
  (nat_lit 48, { cls := PySem.Value.type "code", data := PySem.Data.fields #[PySem.Value.str (PySem.Str.ofString "push_token") 227, PySem.Value.str (PySem.Str.ofString "_netrclex.push_token") 228, PySem.Value.str (PySem.Str.ofString "/claim/cut.py") 229, PySem.Value.int 43 0, PySem.Value.int 2 0, PySem.Value.int 0 0, PySem.Value.int 0 0, PySem.Value.int 3 0, PySem.Value.ref 43, PySem.Value.bool true, PySem.Value.int 181 0, PySem.Value.ref 44, PySem.Value.none, PySem.Value.ref 45, PySem.Value.ref 46, PySem.Value.ref 47, PySem.Value.int 232 0, PySem.Value.int 43 0, PySem.Value.str (PySem.Str.ofString "/claim/cut.py") 233] }) ::
  (nat_lit 49, fnO (inAt 1 3) (PySem.Str.ofString "_netrclex.push_token") (PySem.Value.none) (PySem.Value.none) (PySem.Value.str (PySem.Str.ofString "cpy313.netrc") 187) (PySem.Value.ref 48)) ::
  (nat_lit 50, { cls := PySem.Value.type "tuple", data := PySem.Data.seq #[PySem.Value.str (PySem.Str.ofString "instream") 235, PySem.Value.str (PySem.Str.ofString "lineno") 236, PySem.Value.str (PySem.Str.ofString "pushback") 237, PySem.Value.str (PySem.Str.ofString "whitespace") 238] }) ::
  (nat_lit 51, { cls := PySem.Value.type "dict", data := PySem.Data.dict #[{ hash := PySem.PyData.keyHash P (PySem.Str.ofString "__module__"), key := PySem.Value.str (PySem.Str.ofString "__module__") 196, val := PySem.Value.str (PySem.Str.ofString "cpy313.netrc") 187 }, { hash := PySem.PyData.keyHash P (PySem.Str.ofString "__firstlineno__"), key := PySem.Value.str (PySem.Str.ofString "__firstlineno__") 200, val := PySem.Value.int 2 199 }, { hash := PySem.PyData.keyHash P (PySem.Str.ofString "__init__"), key := PySem.Value.str (PySem.Str.ofString "__init__") 208, val := PySem.Value.ref 28 }, { hash := PySem.PyData.keyHash P (PySem.Str.ofString "_read_char"), key := PySem.Value.str (PySem.Str.ofString "_read_char") 216, val := PySem.Value.ref 35 }, { hash := PySem.PyData.keyHash P (PySem.Str.ofString "get_token"), key := PySem.Value.str (PySem.Str.ofString "get_token") 226, val := PySem.Value.ref 42 }, { hash := PySem.PyData.keyHash P (PySem.Str.ofString "push_token"), key := PySem.Value.str (PySem.Str.ofString "push_token") 234, val := PySem.Value.ref 49 }, { hash := PySem.PyData.keyHash P (PySem.Str.ofString "__static_attributes__"), key := PySem.Value.str (PySem.Str.ofString "__static_attributes__") 239, val := PySem.Value.ref 50 }, { hash := PySem.PyData.keyHash P (PySem.Str.ofString "__dict__"), key := PySem.Value.str (PySem.Str.ofString "__dict__") 241, val := PySem.Value.ref 53 }, { hash := PySem.PyData.keyHash P (PySem.Str.ofString "__weakref__"), key := PySem.Value.str (PySem.Str.ofString "__weakref__") 243, val := PySem.Value.ref 54 }, { hash := PySem.PyData.keyHash P (PySem.Str.ofString "__doc__"), key := PySem.Value.str (PySem.Str.ofString "__doc__") 244, val := PySem.Value.none }] 4 }) ::
  (nat_lit 52, { cls := PySem.Value.type "type", data := PySem.Data.cls { name := PySem.Str.ofString "_netrclex", bases := [PySem.Value.type "object"], mro := [PySem.Value.ref 52, PySem.Value.type "object"], ns := 51, qualname := PySem.Str.ofString "_netrclex" }, slots := #[none, none, some (PySem.Value.str (PySem.Str.ofString "_netrclex") 189), some (PySem.Value.str (PySem.Str.ofString "_netrclex") 197), some (PySem.Value.builtin "object.__new__"), some (PySem.Value.bool true)] }) ::
  (nat_lit 53, { cls := PySem.Value.type "getset_descriptor", data := PySem.Data.fields #[PySem.Value.str (PySem.Str.ofString "__dict__") 240, PySem.Value.ref 52, PySem.Value.builtin "function.__dict__", PySem.Value.builtin "function.__dict__#set"] }) ::
  (nat_lit 54, { cls := PySem.Value.type "getset_descriptor", data := PySem.Data.fields #[PySem.Value.str (PySem.Str.ofString "__weakref__") 242, PySem.Value.ref 52, PySem.Value.builtin "ExceptionGroup.__weakref__", PySem.Value.none] }) ::
  (nat_lit 57, { cls := PySem.Value.type "tuple", data := PySem.Data.seq #[PySem.Value.int 0 249, PySem.Value.none] }) ::
  (nat_lit 58, { cls := PySem.Value.type "dict", data := PySem.Data.dict #[{ hash := PySem.PyData.keyHash P (PySem.Str.ofString "key"), key := PySem.Value.str (PySem.Str.ofString "key") 250, val := PySem.Value.none }] 1 }) ::
  (nat_lit 59, { cls := PySem.Value.type "tuple", data := PySem.Data.seq #[] }) ::
  (nat_lit 61, { cls := PySem.Value.type "tuple", data := PySem.Data.seq #[PySem.Value.str (PySem.Str.ofString "a") 254, PySem.Value.str (PySem.Str.ofString "x") 255, PySem.Value.str (PySem.Str.ofString "lo") 256, PySem.Value.str (PySem.Str.ofString "hi") 257, PySem.Value.str (PySem.Str.ofString "key") 258] }) ::
  (nat_lit 62, { cls := PySem.Value.type "tuple", data := PySem.Data.seq #[] }) ::
  (nat_lit 64, { cls := PySem.Value.type "code", data := PySem.Data.fields #[PySem.Value.str (PySem.Str.ofString "insort_right") 251, PySem.Value.str (PySem.Str.ofString "insort_right") 252, PySem.Value.str (PySem.Str.ofString "/claim/cut.py") 253, PySem.Value.int 46 0, PySem.Value.int 4 0, PySem.Value.int 0 0, PySem.Value.int 1 0, PySem.Value.int 3 0, PySem.Value.ref 59, PySem.Value.bool true, PySem.Value.int 181 0, PySem.Value.ref 60, PySem.Value.none, PySem.Value.ref 61, PySem.Value.ref 62, PySem.Value.ref 63, PySem.Value.int 259 0, PySem.Value.int 46 0, PySem.Value.str (PySem.Str.ofString "/claim/cut.py") 260] }) ::
  (nat_lit 65, fnO (topAt 3) (PySem.Str.ofString "insort_right") (PySem.Value.ref 57) (PySem.Value.ref 58) (PySem.Value.str (PySem.Str.ofString "cpy313.bisect") 247) (PySem.Value.ref 64)) ::
  (nat_lit 66, { cls := PySem.Value.type "tuple", data := PySem.Data.seq #[PySem.Value.int 0 262, PySem.Value.none] }) ::
  (nat_lit 67, { cls := PySem.Value.type "dict", data := PySem.Data.dict #[{ hash := PySem.PyData.keyHash P (PySem.Str.ofString "key"), key := PySem.Value.str (PySem.Str.ofString "key") 263, val := PySem.Value.none }] 1 }) ::
  (nat_lit 68, { cls := PySem.Value.type "tuple", data := PySem.Data.seq #[] }) ::
  (nat_lit 70, { cls := PySem.Value.type "tuple", data := PySem.Data.seq #[PySem.Value.str (PySem.Str.ofString "a") 267, PySem.Value.str (PySem.Str.ofString "x") 268, PySem.Value.str (PySem.Str.ofString "lo") 269, PySem.Value.str (PySem.Str.ofString "hi") 270, PySem.Value.str (PySem.Str.ofString "key") 271, PySem.Value.str (PySem.Str.ofString "mid") 272] }) ::
  (nat_lit 71, { cls := PySem.Value.type "tuple", data := PySem.Data.seq #[] }) ::
  (nat_lit 73, { cls := PySem.Value.type "code", data := PySem.Data.fields #[PySem.Value.str (PySem.Str.ofString "bisect_right") 264, PySem.Value.str (PySem.Str.ofString "bisect_right") 265, PySem.Value.str (PySem.Str.ofString "/claim/cut.py") 266, PySem.Value.int 52 0, PySem.Value.int 4 0, PySem.Value.int 0 0, PySem.Value.int 1 0, PySem.Value.int 3 0, PySem.Value.ref 68, PySem.Value.bool true, PySem.Value.int 181 0, PySem.Value.ref 69, PySem.Value.none, PySem.Value.ref 70, PySem.Value.ref 71, PySem.Value.ref 72, PySem.Value.int 273 0, PySem.Value.int 52 0, PySem.Value.str (PySem.Str.ofString "/claim/cut.py") 274] }) ::
  (nat_lit 74, fnO (topAt 4) (PySem.Str.ofString "bisect_right") (PySem.Value.ref 66) (PySem.Value.ref 67) (PySem.Value.str (PySem.Str.ofString "cpy313.bisect") 247) (PySem.Value.ref 73)) ::
  (nat_lit 75, { cls := PySem.Value.type "tuple", data := PySem.Data.seq #[] }) ::
  (nat_lit 77, { cls := PySem.Value.type "tuple", data := PySem.Data.seq #[PySem.Value.str (PySem.Str.ofString "iterator") 281, PySem.Value.str (PySem.Str.ofString "b") 282, PySem.Value.str (PySem.Str.ofString "val") 283] }) ::
  (nat_lit 78, { cls := PySem.Value.type "tuple", data := PySem.Data.seq #[] }) ::
  (nat_lit 80, { cls := PySem.Value.type "code", data := PySem.Data.fields #[PySem.Value.str (PySem.Str.ofString "_parse_varint") 278, PySem.Value.str (PySem.Str.ofString "_parse_varint") 279, PySem.Value.str (PySem.Str.ofString "/claim/cut.py") 280, PySem.Value.int 73 0, PySem.Value.int 1 0, PySem.Value.int 0 0, PySem.Value.int 0 0, PySem.Value.int 3 0, PySem.Value.ref 75, PySem.Value.bool true, PySem.Value.int 181 0, PySem.Value.ref 76, PySem.Value.none, PySem.Value.ref 77, PySem.Value.ref 78, PySem.Value.ref 79, PySem.Value.int 284 0, PySem.Value.int 73 0, PySem.Value.str (PySem.Str.ofString "/claim/cut.py") 285] }) ::
  (nat_lit 81, fnO (topAt 6) (PySem.Str.ofString "_parse_varint") (PySem.Value.none) (PySem.Value.none) (PySem.Value.str (PySem.Str.ofString "cpy313.dis") 276) (PySem.Value.ref 80)) ::
  (nat_lit 82, { cls := PySem.Value.type "tuple", data := PySem.Data.seq #[] }) ::
  (nat_lit 84, { cls := PySem.Value.type "tuple", data := PySem.Data.seq #[PySem.Value.str (PySem.Str.ofString "want") 294, PySem.Value.str (PySem.Str.ofString "got") 295, PySem.Value.str (PySem.Str.ofString "ws") 296, PySem.Value.str (PySem.Str.ofString "startpos") 297, PySem.Value.str (PySem.Str.ofString "endpos") 298, PySem.Value.str (PySem.Str.ofString "w") 299] }) ::
  (nat_lit 85, { cls := PySem.Value.type "tuple", data := PySem.Data.seq #[] }) ::
  (nat_lit 87, { cls := PySem.Value.type "code", data := PySem.Data.fields #[PySem.Value.str (PySem.Str.ofString "_ellipsis_match") 291, PySem.Value.str (PySem.Str.ofString "_ellipsis_match") 292, PySem.Value.str (PySem.Str.ofString "/claim/cut.py") 293, PySem.Value.int 83 0, PySem.Value.int 2 0, PySem.Value.int 0 0, PySem.Value.int 0 0, PySem.Value.int 3 0, PySem.Value.ref 82, PySem.Value.bool true, PySem.Value.int 181 0, PySem.Value.ref 83, PySem.Value.none, PySem.Value.ref 84, PySem.Value.ref 85, PySem.Value.ref 86, PySem.Value.int 300 0, PySem.Value.int 83 0, PySem.Value.str (PySem.Str.ofString "/claim/cut.py") 301] }) ::
  (nat_lit 88, fnO (topAt 9) (PySem.Str.ofString "_ellipsis_match") (PySem.Value.none) (PySem.Value.none) (PySem.Value.str (PySem.Str.ofString "cpy313.doctest") 287) (PySem.Value.ref 87)) ::
  (nat_lit 89, { cls := PySem.Value.type "tuple", data := PySem.Data.seq #[] }) ::
  (nat_lit 91, { cls := PySem.Value.type "tuple", data := PySem.Data.seq #[PySem.Value.str (PySem.Str.ofString "text") 308, PySem.Value.str (PySem.Str.ofString "stream") 309] }) ::
  (nat_lit 92, { cls := PySem.Value.type "tuple", data := PySem.Data.seq #[PySem.Value.str (PySem.Str.ofString "signs") 310] }) ::
  (nat_lit 94, { cls := PySem.Value.type "code", data := PySem.Data.fields #[PySem.Value.str (PySem.Str.ofString "_law_lexer") 305, PySem.Value.str (PySem.Str.ofString "_law_lexer") 306, PySem.Value.str (PySem.Str.ofString "/claim/cut.py") 307, PySem.Value.int 112 0, PySem.Value.int 1 0, PySem.Value.int 0 0, PySem.Value.int 0 0, PySem.Value.int 3 0, PySem.Value.ref 89, PySem.Value.bool true, PySem.Value.int 181 0, PySem.Value.ref 90, PySem.Value.none, PySem.Value.ref 91, PySem.Value.ref 92, PySem.Value.ref 93, PySem.Value.int 311 0, PySem.Value.int 112 0, PySem.Value.str (PySem.Str.ofString "/claim/cut.py") 312] }) ::
  (nat_lit 95, fnO (topAt 11) (PySem.Str.ofString "_law_lexer") (PySem.Value.none) (PySem.Value.none) (PySem.Value.str (PySem.Str.ofString "law_ty0021_02") 303) (PySem.Value.ref 94)) ::
  (nat_lit 96, { cls := PySem.Value.type "tuple", data := PySem.Data.seq #[] }) ::
  (nat_lit 99, { cls := PySem.Value.type "code", data := PySem.Data.fields #[PySem.Value.str (PySem.Str.ofString "_law_written") 314, PySem.Value.str (PySem.Str.ofString "_law_written") 315, PySem.Value.str (PySem.Str.ofString "/claim/cut.py") 316, PySem.Value.int 117 0, PySem.Value.int 1 0, PySem.Value.int 0 0, PySem.Value.int 0 0, PySem.Value.int 3 0, PySem.Value.ref 96, PySem.Value.bool true, PySem.Value.int 181 0, PySem.Value.ref 97, PySem.Value.none, PySem.Value.none, PySem.Value.none, PySem.Value.ref 98, PySem.Value.int 317 0, PySem.Value.int 117 0, PySem.Value.str (PySem.Str.ofString "/claim/cut.py") 318] }) ::
  (nat_lit 100, fnO (topAt 12) (PySem.Str.ofString "_law_written") (PySem.Value.none) (PySem.Value.none) (PySem.Value.str (PySem.Str.ofString "law_ty0021_02") 303) (PySem.Value.ref 99)) ::
  (nat_lit 101, { cls := PySem.Value.type "tuple", data := PySem.Data.seq #[] }) ::
  (nat_lit 104, { cls := PySem.Value.type "code", data := PySem.Data.fields #[PySem.Value.str (PySem.Str.ofString "_law_told") 320, PySem.Value.str (PySem.Str.ofString "_law_told") 321, PySem.Value.str (PySem.Str.ofString "/claim/cut.py") 322, PySem.Value.int 125 0, PySem.Value.int 1 0, PySem.Value.int 0 0, PySem.Value.int 0 0, PySem.Value.int 3 0, PySem.Value.ref 101, PySem.Value.bool true, PySem.Value.int 181 0, PySem.Value.ref 102, PySem.Value.none, PySem.Value.none, PySem.Value.none, PySem.Value.ref 103, PySem.Value.int 323 0, PySem.Value.int 125 0, PySem.Value.str (PySem.Str.ofString "/claim/cut.py") 324] }) ::
  (nat_lit 105, fnO (topAt 13) (PySem.Str.ofString "_law_told") (PySem.Value.none) (PySem.Value.none) (PySem.Value.str (PySem.Str.ofString "law_ty0021_02") 303) (PySem.Value.ref 104)) ::
  (nat_lit 106, { cls := PySem.Value.type "tuple", data := PySem.Data.seq #[] }) ::
  (nat_lit 108, { cls := PySem.Value.type "tuple", data := PySem.Data.seq #[PySem.Value.str (PySem.Str.ofString "total") 329, PySem.Value.str (PySem.Str.ofString "number") 330, PySem.Value.str (PySem.Str.ofString "piles") 331, PySem.Value.str (PySem.Str.ofString "place") 332] }) ::
  (nat_lit 109, { cls := PySem.Value.type "tuple", data := PySem.Data.seq #[] }) ::
  (nat_lit 111, { cls := PySem.Value.type "code", data := PySem.Data.fields #[PySem.Value.str (PySem.Str.ofString "_law_piles") 326, PySem.Value.str (PySem.Str.ofString "_law_piles") 327, PySem.Value.str (PySem.Str.ofString "/claim/cut.py") 328, PySem.Value.int 127 0, PySem.Value.int 2 0, PySem.Value.int 0 0, PySem.Value.int 0 0, PySem.Value.int 3 0, PySem.Value.ref 106, PySem.Value.bool true, PySem.Value.int 181 0, PySem.Value.ref 107, PySem.Value.none, PySem.Value.ref 108, PySem.Value.ref 109, PySem.Value.ref 110, PySem.Value.int 333 0, PySem.Value.int 127 0, PySem.Value.str (PySem.Str.ofString "/claim/cut.py") 334] }) ::
  (nat_lit 112, fnO (topAt 14) (PySem.Str.ofString "_law_piles") (PySem.Value.none) (PySem.Value.none) (PySem.Value.str (PySem.Str.ofString "law_ty0021_02") 303) (PySem.Value.ref 111)) ::
  (nat_lit 113, { cls := PySem.Value.type "tuple", data := PySem.Data.seq #[] }) ::
  (nat_lit 115, { cls := PySem.Value.type "tuple", data := PySem.Data.seq #[PySem.Value.str (PySem.Str.ofString "lexer") 339, PySem.Value.str (PySem.Str.ofString "count") 340, PySem.Value.str (PySem.Str.ofString "row") 341, PySem.Value.str (PySem.Str.ofString "step") 342, PySem.Value.str (PySem.Str.ofString "word") 343, PySem.Value.str (PySem.Str.ofString "size") 344] }) ::
  (nat_lit 116, { cls := PySem.Value.type "tuple", data := PySem.Data.seq #[] }) ::
  (nat_lit 118, { cls := PySem.Value.type "code", data := PySem.Data.fields #[PySem.Value.str (PySem.Str.ofString "_law_deal") 336, PySem.Value.str (PySem.Str.ofString "_law_deal") 337, PySem.Value.str (PySem.Str.ofString "/claim/cut.py") 338, PySem.Value.int 135 0, PySem.Value.int 2 0, PySem.Value.int 0 0, PySem.Value.int 0 0, PySem.Value.int 3 0, PySem.Value.ref 113, PySem.Value.bool true, PySem.Value.int 181 0, PySem.Value.ref 114, PySem.Value.none, PySem.Value.ref 115, PySem.Value.ref 116, PySem.Value.ref 117, PySem.Value.int 345 0, PySem.Value.int 135 0, PySem.Value.str (PySem.Str.ofString "/claim/cut.py") 346] }) ::
  (nat_lit 119, fnO (topAt 15) (PySem.Str.ofString "_law_deal") (PySem.Value.none) (PySem.Value.none) (PySem.Value.str (PySem.Str.ofString "law_ty0021_02") 303) (PySem.Value.ref 118)) ::
  (nat_lit 120, { cls := PySem.Value.type "tuple", data := PySem.Data.seq #[] }) ::
  (nat_lit 123, { cls := PySem.Value.type "code", data := PySem.Data.fields #[PySem.Value.str (PySem.Str.ofString "_law_more") 348, PySem.Value.str (PySem.Str.ofString "_law_more") 349, PySem.Value.str (PySem.Str.ofString "/claim/cut.py") 350, PySem.Value.int 147 0, PySem.Value.int 2 0, PySem.Value.int 0 0, PySem.Value.int 0 0, PySem.Value.int 3 0, PySem.Value.ref 120, PySem.Value.bool true, PySem.Value.int 181 0, PySem.Value.ref 121, PySem.Value.none, PySem.Value.none, PySem.Value.none, PySem.Value.ref 122, PySem.Value.int 351 0, PySem.Value.int 147 0, PySem.Value.str (PySem.Str.ofString "/claim/cut.py") 352] }) ::
  (nat_lit 124, fnO (topAt 16) (PySem.Str.ofString "_law_more") (PySem.Value.none) (PySem.Value.none) (PySem.Value.str (PySem.Str.ofString "law_ty0021_02") 303) (PySem.Value.ref 123)) ::
  (nat_lit 125, { cls := PySem.Value.type "tuple", data := PySem.Data.seq #[] }) ::
  (nat_lit 128, { cls := PySem.Value.type "code", data := PySem.Data.fields #[PySem.Value.str (PySem.Str.ofString "_law_rows") 354, PySem.Value.str (PySem.Str.ofString "_law_rows") 355, PySem.Value.str (PySem.Str.ofString "/claim/cut.py") 356, PySem.Value.int 155 0, PySem.Value.int 2 0, PySem.Value.int 0 0, PySem.Value.int 0 0, PySem.Value.int 3 0, PySem.Value.ref 125, PySem.Value.bool true, PySem.Value.int 181 0, PySem.Value.ref 126, PySem.Value.none, PySem.Value.none, PySem.Value.none, PySem.Value.ref 127, PySem.Value.int 357 0, PySem.Value.int 155 0, PySem.Value.str (PySem.Str.ofString "/claim/cut.py") 358] }) ::
  (nat_lit 129, fnO (topAt 17) (PySem.Str.ofString "_law_rows") (PySem.Value.none) (PySem.Value.none) (PySem.Value.str (PySem.Str.ofString "law_ty0021_02") 303) (PySem.Value.ref 128)) ::
  (nat_lit 130, { cls := PySem.Value.type "tuple", data := PySem.Data.seq #[] }) ::
  (nat_lit 133, { cls := PySem.Value.type "code", data := PySem.Data.fields #[PySem.Value.str (PySem.Str.ofString "law") 360, PySem.Value.str (PySem.Str.ofString "law") 361, PySem.Value.str (PySem.Str.ofString "/claim/cut.py") 362, PySem.Value.int 172 0, PySem.Value.int 1 0, PySem.Value.int 0 0, PySem.Value.int 0 0, PySem.Value.int 3 0, PySem.Value.ref 130, PySem.Value.bool true, PySem.Value.int 181 0, PySem.Value.ref 131, PySem.Value.none, PySem.Value.none, PySem.Value.none, PySem.Value.ref 132, PySem.Value.int 363 0, PySem.Value.int 172 0, PySem.Value.str (PySem.Str.ofString "/claim/cut.py") 364] }) ::
  (nat_lit 134, fnO (topAt 18) (PySem.Str.ofString "law") (PySem.Value.none) (PySem.Value.none) (PySem.Value.str (PySem.Str.ofString "law_ty0021_02") 303) (PySem.Value.ref 133)) :: []

noncomputable def as02 : List Addr := [2, 3, 6, 22, 24, 25, 27, 28, 29, 31, 32, 34, 35, 36, 38, 39, 41, 42, 43, 45, 46, 48, 49, 50, 51, 52, 53, 54, 57, 58, 59, 61, 62, 64, 65, 66, 67, 68, 70, 71, 73, 74, 75, 77, 78, 80, 81, 82, 84, 85, 87, 88, 89, 91, 92, 94, 95, 96, 99, 100, 101, 104, 105, 106, 108, 109, 111, 112, 113, 115, 116, 118, 119, 120, 123, 124, 125, 128, 129, 130, 133, 134]
noncomputable def view02 : Program := { PySem.Challenge.pw_ty0021_02 with main := { PySem.Challenge.pw_ty0021_02.main with body := [1, 6, 8, 9, 11, 12, 13, 14, 15, 16, 17, 18].map topAt } }
noncomputable def hk02 : Hook := kmHook K02 as02 (fun _ => by kernel_rfl) [90]
noncomputable def loose02 : List Str := [Str.ofString "insort_right", Str.ofString "bisect_right"]
/- the end state: the written part and what stands beside it -/
noncomputable def tabO : Obj := { cls := .none, data := .fields #[] }
noncomputable def cdO (st : Stmt) (qual : Str) : Obj := match st with
  | .FunctionDef name args body _ _ _ scope _ _ _ => { cls := .none, data := .func { name := name, qualname := qual, params := args, body := .stmts body, scope := scope, globals := 0, closure := [], defaults := .none, kwdefaults := .none } }
  | _ => default
noncomputable def rest02 : Params → List Obj := fun P =>
  boot_o_0 P ::
  boot_o_1 P ::
  boot_o_4 P ::
  boot_o_5 P ::
  boot_o_7 P ::
  boot_o_8 P ::
  boot_o_9 P ::
  boot_o_10 P ::
  { cls := PySem.Value.type "tuple", data := PySem.Data.seq #[] } ::
  { cls := PySem.Value.none, data := PySem.Data.fields #[PySem.Value.int 2 0, PySem.Value.int 0 0, PySem.Value.ref 20, PySem.Value.int 46 0, PySem.Value.int 0 0, PySem.Value.ref 64, PySem.Value.int 52 0, PySem.Value.int 0 0, PySem.Value.ref 73, PySem.Value.int 73 0, PySem.Value.int 0 0, PySem.Value.ref 80, PySem.Value.int 83 0, PySem.Value.int 0 0, PySem.Value.ref 87, PySem.Value.int 112 0, PySem.Value.int 0 0, PySem.Value.ref 94, PySem.Value.int 117 0, PySem.Value.int 0 0, PySem.Value.ref 99, PySem.Value.int 125 0, PySem.Value.int 0 0, PySem.Value.ref 104, PySem.Value.int 127 0, PySem.Value.int 0 0, PySem.Value.ref 111, PySem.Value.int 135 0, PySem.Value.int 0 0, PySem.Value.ref 118, PySem.Value.int 147 0, PySem.Value.int 0 0, PySem.Value.ref 123, PySem.Value.int 155 0, PySem.Value.int 0 0, PySem.Value.ref 128, PySem.Value.int 172 0, PySem.Value.int 0 0, PySem.Value.ref 133] } ::
  { cls := PySem.Value.type "code", data := PySem.Data.fields #[PySem.Value.str (PySem.Str.ofString "<module>") 182, PySem.Value.str (PySem.Str.ofString "<module>") 183, PySem.Value.str (PySem.Str.ofString "/claim/cut.py") 184, PySem.Value.int 1 0, PySem.Value.int 0 0, PySem.Value.int 0 0, PySem.Value.int 0 0, PySem.Value.int 0 0, PySem.Value.ref 11, PySem.Value.bool Bool.false, PySem.Value.int 181 0, PySem.Value.ref 12, PySem.Value.none, PySem.Value.none, PySem.Value.none, PySem.Value.none, PySem.Value.int 185 0, PySem.Value.int 1 0, PySem.Value.str (PySem.Str.ofString "/claim/cut.py") 186] } ::
  { cls := PySem.Value.type "frame", slots := #[Option.some (PySem.Value.ref 13), Option.some (PySem.Value.ref 3), Option.some (PySem.Value.ref 3), Option.none, Option.some (PySem.Value.str (PySem.Str.ofString "__main__") 164), Option.none, Option.some (PySem.Value.ref 0)] } ::
  { cls := PySem.Value.type "tuple", data := PySem.Data.seq #[] } ::
  { cls := PySem.Value.type "builtin_function_or_method", data := PySem.Data.fields #[PySem.Value.builtin "type.__prepare__", PySem.Value.type "type"] } ::
  { cls := PySem.Value.type "dict", data := PySem.Data.dict #[{ hash := PySem.PyData.keyHash P (PySem.Str.ofString "__module__"), key := PySem.Value.str (PySem.Str.ofString "__module__") 196, val := PySem.Value.str (PySem.Str.ofString "cpy313.netrc") 187 }, { hash := PySem.PyData.keyHash P (PySem.Str.ofString "__qualname__"), key := PySem.Value.str (PySem.Str.ofString "__qualname__") 198, val := PySem.Value.str (PySem.Str.ofString "_netrclex") 197 }, { hash := PySem.PyData.keyHash P (PySem.Str.ofString "__firstlineno__"), key := PySem.Value.str (PySem.Str.ofString "__firstlineno__") 200, val := PySem.Value.int 2 199 }, { hash := PySem.PyData.keyHash P (PySem.Str.ofString "__init__"), key := PySem.Value.str (PySem.Str.ofString "__init__") 208, val := PySem.Value.ref 28 }, { hash := PySem.PyData.keyHash P (PySem.Str.ofString "_read_char"), key := PySem.Value.str (PySem.Str.ofString "_read_char") 216, val := PySem.Value.ref 35 }, { hash := PySem.PyData.keyHash P (PySem.Str.ofString "get_token"), key := PySem.Value.str (PySem.Str.ofString "get_token") 226, val := PySem.Value.ref 42 }, { hash := PySem.PyData.keyHash P (PySem.Str.ofString "push_token"), key := PySem.Value.str (PySem.Str.ofString "push_token") 234, val := PySem.Value.ref 49 }, { hash := PySem.PyData.keyHash P (PySem.Str.ofString "__static_attributes__"), key := PySem.Value.str (PySem.Str.ofString "__static_attributes__") 239, val := PySem.Value.ref 50 }] 8 } ::
  { cls := PySem.Value.type "tuple", data := PySem.Data.seq #[] } ::
  { cls := PySem.Value.none, data := PySem.Data.fields #[PySem.Value.int 4 0, PySem.Value.int 4 0, PySem.Value.ref 27, PySem.Value.int 10 0, PySem.Value.int 4 0, PySem.Value.ref 34, PySem.Value.int 16 0, PySem.Value.int 4 0, PySem.Value.ref 41, PySem.Value.int 43 0, PySem.Value.int 4 0, PySem.Value.ref 48] } ::
  { cls := PySem.Value.type "code", data := PySem.Data.fields #[PySem.Value.str (PySem.Str.ofString "_netrclex") 191, PySem.Value.str (PySem.Str.ofString "_netrclex") 192, PySem.Value.str (PySem.Str.ofString "/claim/cut.py") 193, PySem.Value.int 2 0, PySem.Value.int 0 0, PySem.Value.int 0 0, PySem.Value.int 0 0, PySem.Value.int 0 0, PySem.Value.ref 18, PySem.Value.bool Bool.false, PySem.Value.int 181 0, PySem.Value.ref 19, PySem.Value.none, PySem.Value.none, PySem.Value.none, PySem.Value.none, PySem.Value.int 194 0, PySem.Value.int 2 0, PySem.Value.str (PySem.Str.ofString "/claim/cut.py") 195] } ::
  { cls := PySem.Value.type "frame", slots := #[Option.some (PySem.Value.ref 20), Option.some (PySem.Value.ref 3), Option.some (PySem.Value.ref 17), Option.none, Option.some (PySem.Value.str (PySem.Str.ofString "cpy313.netrc") 187), Option.none, Option.some (PySem.Value.ref 0)] } ::
  tabO ::
  cdO (inAt 1 0) (PySem.Str.ofString "_netrclex.__init__") ::
  tabO ::
  cdO (inAt 1 1) (PySem.Str.ofString "_netrclex._read_char") ::
  tabO ::
  cdO (inAt 1 2) (PySem.Str.ofString "_netrclex.get_token") ::
  tabO ::
  cdO (inAt 1 3) (PySem.Str.ofString "_netrclex.push_token") ::
  { cls := PySem.Value.type "super", data := PySem.Data.fields #[PySem.Value.ref 52, PySem.Value.ref 52, PySem.Value.ref 52] } ::
  { cls := PySem.Value.type "builtin_function_or_method", data := PySem.Data.fields #[PySem.Value.builtin "object.__init_subclass__", PySem.Value.ref 52] } ::
  tabO ::
  cdO (topAt 3) (PySem.Str.ofString "insort_right") ::
  tabO ::
  cdO (topAt 4) (PySem.Str.ofString "bisect_right") ::
  tabO ::
  cdO (topAt 6) (PySem.Str.ofString "_parse_varint") ::
  tabO ::
  cdO (topAt 9) (PySem.Str.ofString "_ellipsis_match") ::
  tabO ::
  cdO (topAt 11) (PySem.Str.ofString "_law_lexer") ::
  tabO ::
  cdO (topAt 12) (PySem.Str.ofString "_law_written") ::
  tabO ::
  cdO (topAt 13) (PySem.Str.ofString "_law_told") ::
  tabO ::
  cdO (topAt 14) (PySem.Str.ofString "_law_piles") ::
  tabO ::
  cdO (topAt 15) (PySem.Str.ofString "_law_deal") ::
  tabO ::
  cdO (topAt 16) (PySem.Str.ofString "_law_more") ::
  tabO ::
  cdO (topAt 17) (PySem.Str.ofString "_law_rows") ::
  tabO ::
  cdO (topAt 18) (PySem.Str.ofString "law") ::
  []

noncomputable def weave : Nat → Nat → Frag → List Obj → List Obj
  | 0, _, _, _ => []
  | m + 1, i, K, os => match K with
    | [] => match os with
      | [] => []
      | o :: os => o :: weave m (i + 1) [] os
    | x :: K => match Nat.beq x.1 i with
      | true => x.2 :: weave m (i + 1) K os
      | false => match os with
        | [] => []
        | o :: os => o :: weave m (i + 1) (x :: K) os
noncomputable def heap02 (P : Params) : Heap := ⟨⟨weave 135 0 (K02 P) (rest02 P)⟩, {}⟩
theorem run02 : ∀ w : World, (openEnds treeTable PySem.Challenge.rw_ty0021_02.row.prog w 1626).map (fun s => (s.heap, s.gens, s.drawn, s.toks)) = some (heap02 w.params, #[], {}, 366) := fun w => by
  unfold openEnds topFrom fencedOpening
  first | rw [PySem.W.Fast.te14082659384304107361, PySem.W.Fast.te14364793385576792824] | skip
  kernel_rfl
theorem seen02 (w : World) (os : OsState) : openSeen view02 loose02 (importedModules PySem.Challenge.rw_ty0021_02.row.prog.main.body) (fun s => xlAt view02 [] s && recOk (RowW.records PySem.Challenge.rw_ty0021_02.row.toRowW) s) true ⟨heap02 w.params, #[], {}, 366, os⟩ = openGood view02 loose02 := by kernel_rfl
theorem obs02 (w : World) (os : OsState) : Hook.obs hk02 ⟨heap02 w.params, #[], {}, 366, os⟩ = Hook.val hk02 w := by kernel_rfl
theorem left02 : LeftO PySem.Challenge.rw_ty0021_02.row.prog view02 loose02 (fun s => xlAt view02 [] s && recOk (RowW.records PySem.Challenge.rw_ty0021_02.row.toRowW) s) (Hook.obs hk02) (Hook.val hk02) 1626 := fun w => by
  obtain ⟨⟨h, gs, d, k, os⟩, e, e'⟩ := Option.map_eq_some_iff.mp (run02 w)
  obtain ⟨rfl, rfl, rfl, rfl⟩ : h = heap02 w.params ∧ gs = #[] ∧ d = {} ∧ k = 366 := by simpa only [Prod.mk.injEq] using e'
  rw [e]
  exact congrArg some (Prod.ext (seen02 w os) (obs02 w os))
theorem looks02 : looksOpen PySem.Challenge.rw_ty0021_02.row.prog = true := by
  unfold looksOpen
  iterate 5 refine look_both ?_ ?_
  all_goals decide +kernel
theorem part02 : PySem.Challenge.rw_ty0021_02.row.partSaid = true := by
  unfold OpenRow.partSaid
  iterate 13 refine look_both ?_ ?_
  · exact looks02
  all_goals decide +kernel
theorem said02 : PySem.Challenge.rw_ty0021_02.wellSaid = true := by
  unfold OpenLaw.wellSaid
  iterate 18 refine look_both ?_ ?_
  · exact look_both (look_both part02 (by decide +kernel)) (by decide +kernel)
  all_goals decide +kernel
end Mine

/- part -/
namespace Mine
open PySem.Calls

/- abstract values and objects -/
inductive AV where
  | none | bool (b : Bool) | int (i : Int) | str (s : List Nat) | bi (id : String) | ty (n : String) | fn (a : Nat) | loc (i : Nat)

inductive AO where
  | list (xs : List AV)
  | ro (xs : List AV)
  | tup (xs : List AV)
  | rng (a b : Int)
  | cell (v : Option AV)
  | liter (l i : Nat)
  | citer (f : Nat) (sent : List Nat)
  | meth (f : Nat) (self : Nat)
  | inst (C : Nat) (d : Nat)
  | idict (es : List (Str × AV))
  | code (qual : Str)
  | tab (p : Nat) (es : List (Nat × Nat × Nat))
  | dead
  | clo (qual : Str) (args : Arguments) (body : PySem.Expr) (scope : Scope) (cl : List (Str × Nat)) (code : Nat)

inductive VRel (ρ : List Addr) : AV → Value → Prop
  | none : VRel ρ .none .none
  | bool (b : Bool) : VRel ρ (.bool b) (.bool b)
  | int (i : Int) (t : Tok) : VRel ρ (.int i) (.int i t)
  | str (l : List Nat) (t : Tok) : VRel ρ (.str l) (.str ⟨l.toArray⟩ t)
  | bi (id : String) : VRel ρ (.bi id) (.builtin id)
  | ty (n : String) : VRel ρ (.ty n) (.type n)
  | fn (a : Nat) : VRel ρ (.fn a) (.ref a)
  | loc {i : Nat} {a : Addr} (h : ρ[i]? = some a) : VRel ρ (.loc i) (.ref a)

inductive VRels (ρ : List Addr) : List AV → List Value → Prop
  | nil : VRels ρ [] []
  | cons {v V vs Vs} (h : VRel ρ v V) (t : VRels ρ vs Vs) : VRels ρ (v :: vs) (V :: Vs)

inductive KRels (ρ : List Addr) : List (Str × AV) → List (Str × Value) → Prop
  | nil : KRels ρ [] []
  | cons {x v V vs Vs} (h : VRel ρ v V) (t : KRels ρ vs Vs) : KRels ρ ((x, v) :: vs) ((x, V) :: Vs)

noncomputable def AO.isRo : AO → Bool
  | .ro _ => true
  | _ => false

/- what is static: the program, the world, the heap below, the written part -/
structure SW where
  prog : Program
  w : World
  h₀ : Heap
  K : Frag
  mg : Str → Option Value
  mb : Str → Option Value
  kin : K.In h₀
  g : h₀.Ns mainGlobals mg
  b : h₀.Ns builtinsNs mb
  boot : ∀ x : Str, x ≠ ("__name__" : Str) → mb x = bootBuiltins x
  lim : h₀.NoLimit
  bat : ∃ bm ob, mg "__builtins__" = some (.ref bm) ∧ bm ≠ builtinsNs ∧ h₀.get? bm = some ob ∧ ob.cls = .type "module" ∧ ob.dict = some builtinsNs ∧ ob.data = .plain

noncomputable abbrev SW.M (W : SW) : Model := model W.prog W.w

noncomputable abbrev listO (vs : List Value) (n : Nat) : Obj := { cls := .type "list", data := .seq vs.toArray n }
noncomputable abbrev tupO (vs : List Value) (n : Nat) : Obj := { cls := .type "tuple", data := .seq vs.toArray n }

noncomputable def tabVals (ρ : List Addr) : List (Nat × Nat × Nat) → List Value → Prop
  | [], vs => vs = []
  | (l, c, j) :: r, vs => ∃ a t, ρ[j]? = some a ∧ vs = rawInt l :: rawInt c :: .ref a :: t ∧ tabVals ρ r t

noncomputable def DictIs (ρ : List Addr) (es : List (Str × AV)) (l : Array DictEntry) : Prop :=
  StrKeys l ∧ l.size ≤ es.length ∧ ∀ x : Str, match es.lookup x with
    | some v => ∃ V, nsFind l x = some V ∧ VRel ρ v V
    | none => nsFind l x = none

noncomputable def cellsRel (ρ : List Addr) : List (Str × Nat) → List (Str × Addr) → Prop
  | [], cs => cs = []
  | (x, j) :: r, cs => ∃ a t, ρ[j]? = some a ∧ cs = (x, a) :: t ∧ cellsRel ρ r t

noncomputable def ORel (W : SW) (ρ : List Addr) (h : Heap) (a : Addr) : AO → Prop
  | .list xs => ∃ vs n, h.get? a = some (listO vs n) ∧ VRels ρ xs vs
  | .ro xs => ∃ vs : List Value, W.h₀.IsList a vs.toArray ∧ VRels ρ xs vs
  | .tup xs => ∃ vs n, h.get? a = some (tupO vs n) ∧ VRels ρ xs vs
  | .rng x y => ∃ t u v, h.get? a = some { cls := .type "range", data := .fields #[.int x t, .int y u, .int 1 v] }
  | .cell v => ∃ o, h.get? a = some o ∧ (match v with | none => o.data = .cell none | some v => ∃ V, o.data = .cell (some V) ∧ VRel ρ v V)
  | .liter l i => ∃ b, ρ[l]? = some b ∧ h.IsListIter a b i
  | .citer f sent => ∃ F t, ρ[f]? = some F ∧ h.get? a = some { cls := .type "callable_iterator", data := .fields #[.ref F, .str ⟨sent.toArray⟩ t, .bool false] }
  | .meth f self => ∃ b, ρ[self]? = some b ∧ h.get? a = some (methodObj (.ref f) (.ref b))
  | .inst C d => ∃ dx, ρ[d]? = some dx ∧ h.get? a = some (instObj C dx)
  | .idict es => ∃ o l n, h.get? a = some o ∧ o.data = .dict l n ∧ DictIs ρ es l
  | .code qual => h.CodeRec (.ref a) qual
  | .tab p es => a = p ∧ ∃ vs, h.get? a = some (tabObj vs.toArray) ∧ tabVals ρ es vs
  | .dead => ∃ o, h.get? a = some o
  | .clo qual args body scope cl code => ∃ C rcl pm ctv, ρ[code]? = some C ∧ cellsRel ρ cl rcl ∧ h.get? a = some (kla_obj "<lambda>" qual args body scope rcl pm C ctv)

/- the state relation -/
structure SR (W : SW) (ρ : List Addr) (H : List AO) (h : Heap) : Prop where
  len : ρ.length = H.length
  nd : ρ.Nodup
  base : ∀ b o, W.h₀.get? b = some o → h.get? b = some o
  out : ∀ (i : Nat) (o : AO) (a : Addr), H[i]? = some o → ρ[i]? = some a → o.isRo = false → W.h₀.get? a = none
  obj : ∀ (i : Nat) (o : AO) (a : Addr), H[i]? = some o → ρ[i]? = some a → ORel W ρ h a o

/- what a step leaves: new places at the end, all else but the places of ρ and those of X stands -/
structure Post (W : SW) (X : List Addr) (ρ ρ' : List Addr) (H' : List AO) (h h' : Heap) : Prop where
  ext : ∃ l, ρ' = ρ ++ l ∧ ∀ a ∈ l, h.get? a = none
  sr : SR W ρ' H' h'
  keep : ∀ a o, h.get? a = some o → a ∉ ρ → a ∉ X → h'.get? a = some o

theorem get_app {ρ l : List Addr} {i : Nat} {a : Addr} (h : ρ[i]? = some a) : (ρ ++ l)[i]? = some a := by
  rw [List.getElem?_append_left (by exact (List.getElem?_eq_some_iff.mp h).1)]; exact h

theorem VRel.mono {ρ l : List Addr} {v : AV} {V : Value} (h : VRel ρ v V) : VRel (ρ ++ l) v V := by
  cases h with
  | loc h => exact .loc (get_app h)
  | _ => constructor
theorem VRels.mono {ρ l : List Addr} {v : List AV} {V : List Value} (h : VRels ρ v V) : VRels (ρ ++ l) v V := by
  induction h with
  | nil => exact .nil
  | cons h _ ih => exact .cons h.mono ih
theorem KRels.mono {ρ l : List Addr} {v : List (Str × AV)} {V : List (Str × Value)} (h : KRels ρ v V) : KRels (ρ ++ l) v V := by
  induction h with
  | nil => exact .nil
  | cons h _ ih => exact .cons h.mono ih
theorem tabVals.mono {ρ l : List Addr} : ∀ {es : List (Nat × Nat × Nat)} {vs : List Value}, tabVals ρ es vs → tabVals (ρ ++ l) es vs
  | [], _, h => h
  | (_, _, _) :: _, _, ⟨a, t, h1, h2, h3⟩ => ⟨a, t, get_app h1, h2, tabVals.mono h3⟩
theorem DictIs.mono {ρ l : List Addr} {es : List (Str × AV)} {d : Array DictEntry} (h : DictIs ρ es d) : DictIs (ρ ++ l) es d := by
  refine ⟨h.1, h.2.1, fun x => ?_⟩
  have := h.2.2 x
  cases q : es.lookup x with
  | none => rw [q] at this; exact this
  | some v => rw [q] at this; obtain ⟨V, e, r⟩ := this; exact ⟨V, e, r.mono⟩
theorem cellsRel.mono {ρ l : List Addr} : ∀ {es : List (Str × Nat)} {vs : List (Str × Addr)}, cellsRel ρ es vs → cellsRel (ρ ++ l) es vs
  | [], _, h => h
  | (_, _) :: _, _, ⟨a, t, h1, h2, h3⟩ => ⟨a, t, get_app h1, h2, cellsRel.mono h3⟩

/- an object's relation holds on where the places it looks at stand -/
theorem ORel.mono {W : SW} {ρ l : List Addr} {h : Heap} {a : Addr} {o : AO} (x : ORel W ρ h a o) : ORel W (ρ ++ l) h a o := by
  cases o with
  | list xs => obtain ⟨vs, n, e, r⟩ := x; exact ⟨vs, n, e, r.mono⟩
  | ro xs => obtain ⟨vs, e, r⟩ := x; exact ⟨vs, e, r.mono⟩
  | tup xs => obtain ⟨vs, n, e, r⟩ := x; exact ⟨vs, n, e, r.mono⟩
  | rng x y => exact x
  | cell v =>
    obtain ⟨o, e, r⟩ := x
    refine ⟨o, e, ?_⟩
    cases v with
    | none => exact r
    | some v => obtain ⟨V, e2, r2⟩ := r; exact ⟨V, e2, r2.mono⟩
  | liter l i => obtain ⟨b, e, r⟩ := x; exact ⟨b, get_app e, r⟩
  | citer f s => obtain ⟨F, t, e, r⟩ := x; exact ⟨F, t, get_app e, r⟩
  | meth f s => obtain ⟨b, e, r⟩ := x; exact ⟨b, get_app e, r⟩
  | inst C d => obtain ⟨dx, e, r⟩ := x; exact ⟨dx, get_app e, r⟩
  | idict es => obtain ⟨o, l', n, e, e2, r⟩ := x; exact ⟨o, l', n, e, e2, r.mono⟩
  | code q => exact x
  | tab p es => obtain ⟨q, vs, e, r⟩ := x; exact ⟨q, vs, e, r.mono⟩
  | dead => exact x
  | clo q as b sc cl cd =>
    obtain ⟨C, rcl, pm, ctv, e1, e2, e3⟩ := x
    exact ⟨C, rcl, pm, ctv, get_app e1, e2.mono, e3⟩

/- the relation looks at one address of the heap -/
theorem ORel.at {W : SW} {ρ : List Addr} {h h' : Heap} {a : Addr} {o : AO} (x : ORel W ρ h a o) (k : ∀ ob, h.get? a = some ob → h'.get? a = some ob) : ORel W ρ h' a o := by
  cases o with
  | list xs => obtain ⟨vs, n, e, r⟩ := x; exact ⟨vs, n, k _ e, r⟩
  | ro xs => exact x
  | tup xs => obtain ⟨vs, n, e, r⟩ := x; exact ⟨vs, n, k _ e, r⟩
  | rng x y => obtain ⟨t, u, v, e⟩ := x; exact ⟨t, u, v, k _ e⟩
  | cell v => obtain ⟨o, e, r⟩ := x; exact ⟨o, k _ e, r⟩
  | liter l i => obtain ⟨b, e, o, r, r2⟩ := x; exact ⟨b, e, o, k _ r, r2⟩
  | citer f s => obtain ⟨F, t, e, r⟩ := x; exact ⟨F, t, e, k _ r⟩
  | meth f s => obtain ⟨b, e, r⟩ := x; exact ⟨b, e, k _ r⟩
  | inst C d => obtain ⟨dx, e, r⟩ := x; exact ⟨dx, e, k _ r⟩
  | idict es => obtain ⟨o, l', n, e, e2, r⟩ := x; exact ⟨o, l', n, k _ e, e2, r⟩
  | code q =>
    obtain ⟨c, o, vs, t, e, g, r⟩ := x
    cases e
    exact ⟨_, o, vs, t, rfl, k _ g, r⟩
  | tab p es => obtain ⟨q, vs, e, r⟩ := x; exact ⟨q, vs, k _ e, r⟩
  | dead => obtain ⟨o, e⟩ := x; exact ⟨o, k _ e⟩
  | clo q as b sc cl cd =>
    obtain ⟨C, rcl, pm, ctv, e1, e2, e4⟩ := x
    exact ⟨C, rcl, pm, ctv, e1, e2, k _ e4⟩
theorem ORel.live {W : SW} {ρ : List Addr} {h : Heap} {a : Addr} {o : AO} (x : ORel W ρ h a o) (hb : ∀ b o, W.h₀.get? b = some o → h.get? b = some o) : ∃ ob, h.get? a = some ob := by
  cases o with
  | list xs => obtain ⟨vs, n, e, r⟩ := x; exact ⟨_, e⟩
  | ro xs => obtain ⟨vs, ⟨o, e, _⟩, r⟩ := x; exact ⟨_, hb _ _ e⟩
  | tup xs => obtain ⟨vs, n, e, r⟩ := x; exact ⟨_, e⟩
  | rng x y => obtain ⟨t, u, v, e⟩ := x; exact ⟨_, e⟩
  | cell v => obtain ⟨o, e, r⟩ := x; exact ⟨_, e⟩
  | liter l i => obtain ⟨b, e, o, r, r2⟩ := x; exact ⟨_, r⟩
  | citer f s => obtain ⟨F, t, e, r⟩ := x; exact ⟨_, r⟩
  | meth f s => obtain ⟨b, e, r⟩ := x; exact ⟨_, r⟩
  | inst C d => obtain ⟨dx, e, r⟩ := x; exact ⟨_, r⟩
  | idict es => obtain ⟨o, l', n, e, e2, r⟩ := x; exact ⟨_, e⟩
  | code q => obtain ⟨c, o, vs, t, e, g, r⟩ := x; cases e; exact ⟨_, g⟩
  | tab p es => obtain ⟨q, vs, e, r⟩ := x; exact ⟨_, e⟩
  | dead => exact x
  | clo q as b sc cl cd => obtain ⟨C, rcl, pm, ctv, e1, e2, e4⟩ := x; exact ⟨_, e4⟩

/- a heap that has grown: all stands -/
structure Grow (h h' : Heap) : Prop where
  keep : ∀ a o, h.get? a = some o → h'.get? a = some o
theorem Grow.refl (h : Heap) : Grow h h := ⟨fun _ _ e => e⟩
theorem Grow.push (h : Heap) (o : Obj) : Grow h (h.push o) := ⟨fun _ _ e => Heap.get?_push_of_some _ e⟩
theorem Grow.trans {h h' h'' : Heap} (x : Grow h h') (y : Grow h' h'') : Grow h h'' := ⟨fun a o e => y.keep a o (x.keep a o e)⟩
theorem noneAt {h : Heap} {a : Addr} (ha : h.objs.size ≤ a) : h.get? a = none := Heap.get?_none_of_le ha

theorem SR.lookup {W : SW} {ρ : List Addr} {H : List AO} {h : Heap} {i : Nat} {o : AO} (x : SR W ρ H h) (e : H[i]? = some o) : ∃ a, ρ[i]? = some a := by
  have := (List.getElem?_eq_some_iff.mp e).1
  exact ⟨ρ[i]'(by rw [x.len]; exact this), List.getElem?_eq_getElem _⟩
theorem SR.live {W : SW} {ρ : List Addr} {H : List AO} {h : Heap} {a : Addr} (x : SR W ρ H h) (ha : a ∈ ρ) : ∃ ob, h.get? a = some ob := by
  obtain ⟨i, hi⟩ := List.mem_iff_getElem?.mp ha
  have hlt := (List.getElem?_eq_some_iff.mp hi).1
  rw [x.len] at hlt
  exact (x.obj i H[i] a (List.getElem?_eq_getElem hlt) hi).live x.base
theorem SR.grow {W : SW} {ρ : List Addr} {H : List AO} {h h' : Heap} (x : SR W ρ H h) (g : Grow h h') : SR W ρ H h' :=
  ⟨x.len, x.nd, fun b o e => g.keep _ _ (x.base b o e), x.out, fun i o a h1 h2 => (x.obj i o a h1 h2).at fun _ e => g.keep _ _ e⟩
theorem SR.grown {W : SW} {X ρ : List Addr} {H : List AO} {h h' : Heap} (x : SR W ρ H h) (g : Grow h h') : Post W X ρ ρ H h h' :=
  ⟨⟨[], by simp, by simp⟩, x.grow g, fun a o e _ _ => g.keep a o e⟩

/- a new place -/
theorem SR.alloc {W : SW} {X ρ : List Addr} {H : List AO} {h h' : Heap} {a : Addr} {o : AO} (x : SR W ρ H h) (g : Grow h h') (ha : h.get? a = none)
    (r : ORel W (ρ ++ [a]) h' a o) : Post W X ρ (ρ ++ [a]) (H ++ [o]) h h' := by
  refine ⟨⟨[a], rfl, by simpa using ha⟩, ⟨by simp [x.len], ?_, fun b o e => g.keep _ _ (x.base b o e), ?_, ?_⟩, fun a o e _ _ => g.keep a o e⟩
  · rw [List.nodup_append]
    refine ⟨x.nd, by simp, fun b hb c hc e => ?_⟩
    rw [List.mem_singleton] at hc
    subst hc; subst e
    obtain ⟨ob, e⟩ := x.live hb
    rw [ha] at e; cases e
  · intro i o' b h1 h2 h3
    rcases Nat.lt_trichotomy i H.length with hi | hi | hi
    · rw [List.getElem?_append_left hi] at h1
      rw [List.getElem?_append_left (by rw [x.len]; exact hi)] at h2
      exact x.out i o' b h1 h2 h3
    · rw [List.getElem?_append_right (by rw [x.len]; omega)] at h2
      rw [show i - ρ.length = 0 by rw [x.len]; omega] at h2
      simp only [List.getElem?_cons_zero, Option.some.injEq] at h2
      subst h2
      cases q : W.h₀.get? a with
      | none => rfl
      | some ob => rw [x.base _ _ q] at ha; cases ha
    · rw [List.getElem?_eq_none (by simp; omega)] at h1; cases h1
  · intro i o' b h1 h2
    rcases Nat.lt_trichotomy i H.length with hi | hi | hi
    · rw [List.getElem?_append_left hi] at h1
      rw [List.getElem?_append_left (by rw [x.len]; exact hi)] at h2
      exact ((x.obj i o' b h1 h2).at fun ob e => g.keep _ _ e).mono
    · rw [List.getElem?_append_right (by rw [x.len]; omega)] at h2
      rw [show i - ρ.length = 0 by rw [x.len]; omega] at h2
      rw [List.getElem?_append_right (by omega), show i - H.length = 0 by omega] at h1
      simp only [List.getElem?_cons_zero, Option.some.injEq] at h1 h2
      subst h1; subst h2
      exact r
    · rw [List.getElem?_eq_none (by simp; omega)] at h1; cases h1

/- a place is changed -/
theorem SR.set {W : SW} {X ρ : List Addr} {H : List AO} {h h' : Heap} {i : Nat} {a : Addr} {o o' : AO} (x : SR W ρ H h) (hi : H[i]? = some o) (ha : ρ[i]? = some a) (hro : o.isRo = false) (hs : ∀ b o, b ≠ a → h.get? b = some o → h'.get? b = some o)
    (r : ORel W ρ h' a o') : Post W X ρ ρ (H.set i o') h h' := by
  have hiL := (List.getElem?_eq_some_iff.mp hi).1
  have hout := x.out i o a hi ha hro
  refine ⟨⟨[], by simp, by simp⟩, ⟨by simp [x.len], x.nd, fun b ob e => ?_, ?_, ?_⟩, fun b ob e n1 _ => ?_⟩
  · exact hs b ob (fun q => by rw [q, hout] at e; cases e) (x.base b ob e)
  · intro j oj b h1 h2 h3
    by_cases hij : i = j
    · subst hij; rw [ha] at h2; cases h2; exact hout
    · rw [List.getElem?_set_ne hij] at h1; exact x.out j oj b h1 h2 h3
  · intro j oj b h1 h2
    by_cases hij : i = j
    · subst hij
      rw [ha] at h2; cases h2
      rw [List.getElem?_set_self hiL] at h1; cases h1
      exact r
    · rw [List.getElem?_set_ne hij] at h1
      have hne : b ≠ a := fun q => by
        subst q
        obtain ⟨h3, h4⟩ := List.getElem?_eq_some_iff.mp ha
        obtain ⟨h5, h6⟩ := List.getElem?_eq_some_iff.mp h2
        exact hij (List.getElem_inj x.nd |>.mp (h4.trans h6.symm))
      exact (x.obj j oj b h1 h2).at fun ob e => hs b ob hne e
  · exact hs b ob (fun q => n1 (by rw [q]; exact List.mem_of_getElem? ha)) e

theorem Post.refl {W : SW} {X ρ : List Addr} {H : List AO} {h : Heap} (x : SR W ρ H h) : Post W X ρ ρ H h h :=
  ⟨⟨[], by simp, by simp⟩, x, fun _ _ e _ _ => e⟩

theorem Post.transX {W : SW} {X ρ ρ' ρ'' : List Addr} {H' H'' : List AO} {h h' h'' : Heap} (x : Post W X ρ ρ' H' h h') (y : Post W X ρ' ρ'' H'' h' h'') (hX : ∀ a ∈ X, ∃ o, h'.get? a = some o) : Post W X ρ ρ'' H'' h h'' := by
  obtain ⟨⟨l, rfl, hl⟩, sr, k⟩ := x
  obtain ⟨⟨l', rfl, hl'⟩, sr', k'⟩ := y
  refine ⟨⟨l ++ l', by simp, fun a ha => ?_⟩, sr', fun a o e n1 n2 => ?_⟩
  · rcases List.mem_append.mp ha with hm | hm
    · exact hl a hm
    · have hn := hl' a hm
      cases q : h.get? a with
      | none => rfl
      | some o =>
        exfalso
        by_cases h1 : a ∈ ρ
        · obtain ⟨ob, e⟩ := sr.live (List.mem_append_left l h1)
          rw [hn] at e; cases e
        · by_cases h2 : a ∈ X
          · obtain ⟨ob, e⟩ := hX a h2
            rw [hn] at e; cases e
          · rw [k a o q h1 h2] at hn; cases hn
  · refine k' a o (k a o e n1 n2) (fun q => ?_) n2
    rcases List.mem_append.mp q with h | h
    · exact n1 h
    · rw [hl a h] at e; cases e
theorem Post.trans {W : SW} {ρ ρ' ρ'' : List Addr} {H' H'' : List AO} {h h' h'' : Heap} (x : Post W [] ρ ρ' H' h h') (y : Post W [] ρ' ρ'' H'' h' h'') : Post W [] ρ ρ'' H'' h h'' := x.transX y (by simp)

theorem Post.widen {W : SW} {X Y ρ ρ' : List Addr} {H' : List AO} {h h' : Heap} (x : Post W X ρ ρ' H' h h') (hs : ∀ a ∈ X, a ∈ Y) : Post W Y ρ ρ' H' h h' :=
  ⟨x.ext, x.sr, fun a o e n1 n2 => x.keep a o e n1 fun q => n2 (hs a q)⟩
theorem Post.nilw {W : SW} {Y ρ ρ' : List Addr} {H' : List AO} {h h' : Heap} (x : Post W [] ρ ρ' H' h h') : Post W Y ρ ρ' H' h h' := x.widen (by simp)
/- what was not live ahead need not be named -/
theorem Post.drop {W : SW} {X ρ ρ' : List Addr} {H' : List AO} {h h' : Heap} {I : Addr} (x : Post W (I :: X) ρ ρ' H' h h') (hI : h.get? I = none ∨ I ∈ ρ) : Post W X ρ ρ' H' h h' :=
  ⟨x.ext, x.sr, fun a o e n1 n2 => x.keep a o e n1 fun q => by
    rcases List.mem_cons.mp q with r | r
    · subst r
      rcases hI with hI | hI
      · rw [hI] at e; cases e
      · exact n1 hI
    · exact n2 r⟩

theorem Post.vrel {W : SW} {X ρ ρ' : List Addr} {H' : List AO} {h h' : Heap} {v : AV} {V : Value} (x : Post W X ρ ρ' H' h h') (r : VRel ρ v V) : VRel ρ' v V := by
  obtain ⟨l, rfl, _⟩ := x.ext; exact r.mono
theorem Post.vrels {W : SW} {X ρ ρ' : List Addr} {H' : List AO} {h h' : Heap} {v : List AV} {V : List Value} (x : Post W X ρ ρ' H' h h') (r : VRels ρ v V) : VRels ρ' v V := by
  obtain ⟨l, rfl, _⟩ := x.ext; exact r.mono
theorem Post.krels {W : SW} {X ρ ρ' : List Addr} {H' : List AO} {h h' : Heap} {v : List (Str × AV)} {V : List (Str × Value)} (x : Post W X ρ ρ' H' h h') (r : KRels ρ v V) : KRels ρ' v V := by
  obtain ⟨l, rfl, _⟩ := x.ext; exact r.mono
theorem Post.get {W : SW} {X ρ ρ' : List Addr} {H' : List AO} {h h' : Heap} {i : Nat} {a : Addr} (x : Post W X ρ ρ' H' h h') (r : ρ[i]? = some a) : ρ'[i]? = some a := by
  obtain ⟨l, rfl, _⟩ := x.ext; exact get_app r

/- the frame -/
structure FI where
  ns : List Str
  cs : List Str
  kof : Str → Option NameKind
  qual : Str
  code : Value

structure FR (W : SW) (fi : FI) (vars : List (Option AV)) (ρ : List Addr) (h : Heap) (L : Addr) : Prop where
  out : L ∉ ρ
  base : W.h₀.get? L = none
  map : ∃ m, h.Ns L m ∧ ∀ (i : Nat) (x : Str) (v : AV), fi.ns[i]? = some x → vars[i]? = some (some v) → ∃ V, m x = some V ∧ VRel ρ v V

structure EnvOk (fi : FI) (env : Env) (L : Addr) (ρ : List Addr) (cl : List Nat) : Prop where
  loc : env.locals = L
  glb : env.globals = mainGlobals
  blt : env.builtins = builtinsNs
  kind : env.scope.kind = .function
  kof : ∀ x, env.kindOf x = fi.kof x
  qual : env.qual = fi.qual
  code : env.code = fi.code
  cell : ∀ (j : Nat) (x : Str) (c : Nat), fi.cs[j]? = some x → cl[j]? = some c → ∃ a, ρ[c]? = some a ∧ env.cells.lookup x = some a

theorem EnvOk.mono {fi : FI} {env : Env} {L : Addr} {ρ l : List Addr} {cl : List Nat} (x : EnvOk fi env L ρ cl) : EnvOk fi env L (ρ ++ l) cl :=
  ⟨x.loc, x.glb, x.blt, x.kind, x.kof, x.qual, x.code, fun j y c h1 h2 => let ⟨a, e1, e2⟩ := x.cell j y c h1 h2; ⟨a, get_app e1, e2⟩⟩
theorem Post.env {W : SW} {X ρ ρ' : List Addr} {H' : List AO} {h h' : Heap} {fi : FI} {env : Env} {L : Addr} {cl : List Nat} (x : Post W X ρ ρ' H' h h') (r : EnvOk fi env L ρ cl) : EnvOk fi env L ρ' cl := by
  obtain ⟨l, rfl, _⟩ := x.ext; exact r.mono
theorem Post.fr {W : SW} {ρ ρ' : List Addr} {H' : List AO} {h h' : Heap} {fi : FI} {vars : List (Option AV)} {L : Addr} (x : Post W [] ρ ρ' H' h h') (r : FR W fi vars ρ h L) : FR W fi vars ρ' h' L := by
  obtain ⟨o, b, m, n, q⟩ := r
  obtain ⟨l, rfl, hl⟩ := x.ext
  obtain ⟨oL, es, ep, e1, e2⟩ := id n
  refine ⟨fun z => ?_, b, m, ⟨oL, es, ep, x.keep _ _ e1 o (by simp), e2⟩, fun i y v h1 h2 => let ⟨V, e, r⟩ := q i y v h1 h2; ⟨V, e, r.mono⟩⟩
  rcases List.mem_append.mp z with h | h
  · exact o h
  · rw [hl L h] at e1; cases e1

theorem FR.live {W : SW} {fi : FI} {vars : List (Option AV)} {ρ : List Addr} {h : Heap} {L : Addr} (r : FR W fi vars ρ h L) : ∃ o, h.get? L = some o := by
  obtain ⟨_, _, m, ⟨oL, es, ep, e1, e2⟩, _⟩ := r; exact ⟨oL, e1⟩
theorem Post.transL {W : SW} {fi : FI} {vars : List (Option AV)} {ρ ρ' ρ'' : List Addr} {H' H'' : List AO} {h h' h'' : Heap} {L : Addr} (x : Post W [L] ρ ρ' H' h h') (f : FR W fi vars ρ' h' L) (y : Post W [L] ρ' ρ'' H'' h' h'') : Post W [L] ρ ρ'' H'' h h'' :=
  x.transX y fun a ha => by rw [List.mem_singleton] at ha; subst ha; exact f.live

noncomputable def Room (d : Nat) (A : Around) : Prop := A.handled = none ∧ A.depth + 20 * (d + 1) ≤ 1000 ∧ A.units + 50 * (d + 1) ≤ 9900

theorem Room.mono {d d' : Nat} {A : Around} (h : Room d A) (hd : d' ≤ d) : Room d' A := ⟨h.1, by have := h.2.1; omega, by have := h.2.2; omega⟩

/- the judgements -/
noncomputable def EvE (W : SW) (d : Nat) (fi : FI) (e : PySem.Expr) (vars : List (Option AV)) (cl : List Nat) (H : List AO) (v : AV) (H' : List AO) : Prop :=
  ∀ (A : Around) (env : Env) (L : Addr) (ρ : List Addr) (s : Shared) (Q E : Value → Shared → Prop),
    Room d A → EnvOk fi env L ρ cl → SR W ρ H s.heap → FR W fi vars ρ s.heap L →
    (∀ ρ' V h' tk, Post W [] ρ ρ' H' s.heap h' → VRel ρ' v V → Q V { s with heap := h', toks := tk }) →
    wpAny W.M A (eval e env) Q E s

/- the elements of a display or a call's places -/
noncomputable def EvEs (W : SW) (d : Nat) (fi : FI) (es : List PySem.Expr) (vars : List (Option AV)) (cl : List Nat) (H : List AO) (vs : List AV) (H' : List AO) : Prop :=
  ∀ (A : Around) (env : Env) (L : Addr) (ρ : List Addr) (s : Shared) (pos : Pos) (Q : List Value → Shared → Prop) (E : Value → Shared → Prop),
    Room d A → EnvOk fi env L ρ cl → SR W ρ H s.heap → FR W fi vars ρ s.heap L →
    (∀ ρ' Vs h' tk, Post W [] ρ ρ' H' s.heap h' → VRels ρ' vs Vs → Q Vs { s with heap := h', toks := tk }) →
    wpAny W.M A (spliced (backTo pos (starEach es env))) Q E s

noncomputable def IsT (W : SW) (d : Nat) (fi : FI) (e : PySem.Expr) (vars : List (Option AV)) (cl : List Nat) (H : List AO) (b : Bool) (H' : List AO) : Prop :=
  ∀ (A : Around) (env : Env) (L : Addr) (ρ : List Addr) (s : Shared) (Q : Bool → Shared → Prop) (E : Value → Shared → Prop),
    Room d A → EnvOk fi env L ρ cl → SR W ρ H s.heap → FR W fi vars ρ s.heap L →
    (∀ ρ' h' tk, Post W [] ρ ρ' H' s.heap h' → Q b { s with heap := h', toks := tk }) →
    wpAny W.M A (isTrue e env (eval e env)) Q E s

inductive AF where
  | next | brk | cont | ret (v : AV)

inductive FRel (ρ : List Addr) : AF → Flow → Prop
  | next : FRel ρ .next .next
  | brk : FRel ρ .brk .brk
  | cont : FRel ρ .cont .cont
  | ret {v V} (h : VRel ρ v V) : FRel ρ (.ret v) (.ret V)

noncomputable def ExOf (W : SW) (d : Nat) (fi : FI) (t : Env → Sem Flow) (vars : List (Option AV)) (cl : List Nat) (H : List AO) (f : AF) (vars' : List (Option AV)) (H' : List AO) : Prop :=
  ∀ (A : Around) (env : Env) (L : Addr) (ρ : List Addr) (s : Shared) (Q : Flow → Shared → Prop) (E : Value → Shared → Prop),
    Room d A → EnvOk fi env L ρ cl → SR W ρ H s.heap → FR W fi vars ρ s.heap L →
    (∀ ρ' F h' tk, Post W [L] ρ ρ' H' s.heap h' → FR W fi vars' ρ' h' L → FRel ρ' f F → Q F { s with heap := h', toks := tk }) →
    wpAny W.M A (t env) Q E s

noncomputable def ExS (W : SW) (d : Nat) (fi : FI) (st : Stmt) := ExOf W d fi (fun env => exec st env)
noncomputable def ExB (W : SW) (d : Nat) (fi : FI) (ss : List Stmt) := ExOf W d fi (fun env => execs ss env)

noncomputable def CallV (W : SW) (d : Nat) (f : AV) (args : List AV) (kw : List (Str × AV)) (H : List AO) (v : AV) (H' : List AO) : Prop :=
  ∀ (A : Around) (ρ : List Addr) (s : Shared) (F : Value) (As : List Value) (Ks : List (Str × Value)) (Q E : Value → Shared → Prop),
    Room d A → SR W ρ H s.heap → VRel ρ f F → VRels ρ args As → KRels ρ kw Ks →
    (∀ ρ' V h' tk, Post W [] ρ ρ' H' s.heap h' → VRel ρ' v V → Q V { s with heap := h', toks := tk }) →
    wpAny W.M A (call F As Ks) Q E s

end Mine

/- part -/
namespace Mine
open PySem.Calls

noncomputable def OpV (W : SW) (t : Value → Value → Sem Value) (a b : AV) (H : List AO) (v : AV) (H' : List AO) : Prop :=
  ∀ (A : Around) (ρ : List Addr) (s : Shared) (X Y : Value) (Q E : Value → Shared → Prop),
    Room 0 A → SR W ρ H s.heap → VRel ρ a X → VRel ρ b Y →
    (∀ ρ' V h' tk, Post W [] ρ ρ' H' s.heap h' → VRel ρ' v V → Q V { s with heap := h', toks := tk }) →
    wpAny W.M A (t X Y) Q E s
noncomputable def UnV (W : SW) (t : Value → Sem Value) (a : AV) (H : List AO) (v : AV) (H' : List AO) : Prop :=
  ∀ (A : Around) (ρ : List Addr) (s : Shared) (X : Value) (Q E : Value → Shared → Prop),
    Room 0 A → SR W ρ H s.heap → VRel ρ a X →
    (∀ ρ' V h' tk, Post W [] ρ ρ' H' s.heap h' → VRel ρ' v V → Q V { s with heap := h', toks := tk }) →
    wpAny W.M A (t X) Q E s
noncomputable def TrV (W : SW) (a : AV) (H : List AO) (b : Bool) : Prop :=
  ∀ (A : Around) (ρ : List Addr) (s : Shared) (X : Value) (Q : Bool → Shared → Prop) (E : Value → Shared → Prop),
    Room 0 A → SR W ρ H s.heap → VRel ρ a X → (∀ tk, Q b { s with toks := tk }) → wpAny W.M A (truthy X) Q E s

variable {W : SW} {d : Nat} {fi : FI} {vars vars' vars'' : List (Option AV)} {cl : List Nat} {H H1 H2 H3 H4 : List AO} {a b c v : AV} {e l r : PySem.Expr} {pos : Pos}

theorem Room.zero {d : Nat} {A : Around} (h : Room d A) : Room 0 A := h.mono (Nat.zero_le _)

/- literals and names -/
theorem EvE.cnone {k : Nat} : EvE W d fi (.Constant .none k pos) vars cl H .none H :=
  fun A env L ρ s Q E rm eo sr fr K => wpAny_Constant_none (K ρ _ _ s.toks (.refl sr) .none)
theorem EvE.cbool {x : Bool} {k : Nat} : EvE W d fi (.Constant (.bool x) k pos) vars cl H (.bool x) H :=
  fun A env L ρ s Q E rm eo sr fr K => wpAny_Constant_bool (K ρ _ _ s.toks (.refl sr) (.bool x))
theorem EvE.cint {x : Int} {k : Nat} : EvE W d fi (.Constant (.int x) k pos) vars cl H (.int x) H :=
  fun A env L ρ s Q E rm eo sr fr K => wpAny_Constant_int (K ρ _ _ _ (.refl sr) (.int x _))
theorem EvE.cstr {x : Str} {k : Nat} {l : List Nat} (hx : x = ⟨l.toArray⟩) : EvE W d fi (.Constant (.str x) k pos) vars cl H (.str l) H :=
  fun A env L ρ s Q E rm eo sr fr K => wpAny_Constant_str (by subst hx; exact K ρ _ _ _ (.refl sr) (.str l _))

theorem EvE.local (i : Nat) {x : Str} (hn : fi.ns[i]? = some x) (hk : fi.kof x = some .local) (hv : vars[i]? = some (some v)) (hd : (x == ("__debug__" : Str)) = false := by decide) :
    EvE W d fi (.Name x pos) vars cl H v H := by
  intro A env L ρ s Q E rm eo sr fr K
  obtain ⟨o, b, m, n, q⟩ := fr
  obtain ⟨V, e, rv⟩ := q i x v hn hv
  rw [← eo.loc] at n
  exact wpAny_Name (wpAny_loadName_local eo.kind ((eo.kof x).trans hk) n e (K ρ V _ s.toks (.refl sr) rv)) hd

theorem EvE.cell (j : Nat) {x : Str} {c : Nat} (hn : fi.cs[j]? = some x) (hk : fi.kof x = some .cell) (hc : cl[j]? = some c) (ho : H[c]? = some (.cell (some v))) (hd : (x == ("__debug__" : Str)) = false := by decide) :
    EvE W d fi (.Name x pos) vars cl H v H := by
  intro A env L ρ s Q E rm eo sr fr K
  obtain ⟨a, h1, h2⟩ := eo.cell j x c hn hc
  obtain ⟨o, e1, V, e2, rv⟩ := sr.obj c _ a ho h1
  exact wpAny_Name (wpAny_loadName_cell eo.kind ((eo.kof x).trans hk) h2 ⟨o, e1, e2⟩ (K ρ V _ s.toks (.refl sr) rv)) hd
theorem EvE.free (j : Nat) {x : Str} {c : Nat} (hn : fi.cs[j]? = some x) (hk : fi.kof x = some .free) (hc : cl[j]? = some c) (ho : H[c]? = some (.cell (some v))) (hd : (x == ("__debug__" : Str)) = false := by decide)
    (hd2 : (x == ("__classdict__" : Str)) = false := by decide) : EvE W d fi (.Name x pos) vars cl H v H := by
  intro A env L ρ s Q E rm eo sr fr K
  obtain ⟨a, h1, h2⟩ := eo.cell j x c hn hc
  obtain ⟨o, e1, V, e2, rv⟩ := sr.obj c _ a ho h1
  exact wpAny_Name (wpAny_loadName_free eo.kind ((eo.kof x).trans hk) h2 ⟨o, e1, e2⟩ (K ρ V _ s.toks (.refl sr) rv) hd2) hd

theorem mg_some {x : Str} {V : Value} (W : SW) (e : nsIn W.K mainGlobals x = some (some V)) : W.mg x = some V := mg_of W.kin W.g e
theorem EvE.glob {x : Str} {V : Value} (hk : fi.kof x = some .globalImplicit) (hg : nsIn W.K mainGlobals x = some (some V)) (hv : ∀ ρ, VRel ρ v V) (hd : (x == ("__debug__" : Str)) = false := by decide) :
    EvE W d fi (.Name x pos) vars cl H v H := by
  intro A env L ρ s Q E rm eo sr fr K
  exact Name_function_global eo.kind ((eo.kof x).trans hk) (loadGlobal_global (by rw [eo.glb]; exact W.g.keeps sr.base) (mg_some W hg) (K ρ V _ s.toks (.refl sr) (hv ρ))) hd
theorem EvE.blt {x : Str} {V : Value} (hk : fi.kof x = some .globalImplicit) (hg : nsIn W.K mainGlobals x = some none) (hb : bootBuiltins x = some V) (hv : ∀ ρ, VRel ρ v V) (hn : x ≠ ("__name__" : Str)) (hd : (x == ("__debug__" : Str)) = false := by decide) :
    EvE W d fi (.Name x pos) vars cl H v H := by
  intro A env L ρ s Q E rm eo sr fr K
  exact Name_function_global eo.kind ((eo.kof x).trans hk) (loadGlobal_builtin (by rw [eo.glb]; exact W.g.keeps sr.base) (mg_none_of W.kin W.g hg) (by rw [eo.blt]; exact W.b.keeps sr.base) ((W.boot x hn).trans hb) (K ρ V _ s.toks (.refl sr) (hv ρ))) hd

/- operators -/
theorem EvE.bin {op : Operator} (hl : EvE W d fi l vars cl H a H1) (hr : EvE W d fi r vars cl H1 b H2) (ho : OpV W (binaryOp op) a b H2 v H3) : EvE W d fi (.BinOp l op r pos) vars cl H v H3 := by
  intro A env L ρ s Q E rm eo sr fr K
  refine wpAny_BinOp (hl A env L ρ s _ E rm eo sr fr fun ρ1 V1 h1 t1 p1 v1 => ?_)
  refine hr A env L ρ1 _ _ E rm (p1.env eo) p1.sr (p1.fr fr) fun ρ2 V2 h2 t2 p2 v2 => ?_
  exact ho A ρ2 _ _ _ _ E rm.zero p2.sr (p2.vrel v1) v2 fun ρ3 V3 h3 t3 p3 v3 => K ρ3 V3 h3 t3 ((p1.trans p2).trans p3) v3
theorem EvE.cmp {op : CmpOp} (hl : EvE W d fi l vars cl H a H1) (hr : EvE W d fi r vars cl H1 b H2) (ho : OpV W (compareOp op) a b H2 v H3) (hm : behindInMarks op r = false := by with_unfolding_all rfl) : EvE W d fi (.Compare l [op] [r] pos) vars cl H v H3 := by
  intro A env L ρ s Q E rm eo sr fr K
  refine wpAny_Compare1 (hm := hm) (hl A env L ρ s _ E rm eo sr fr fun ρ1 V1 h1 t1 p1 v1 => ?_)
  refine hr A env L ρ1 _ _ E rm (p1.env eo) p1.sr (p1.fr fr) fun ρ2 V2 h2 t2 p2 v2 => ?_
  exact ho A ρ2 _ _ _ _ E rm.zero p2.sr (p2.vrel v1) v2 fun ρ3 V3 h3 t3 p3 v3 => K ρ3 V3 h3 t3 ((p1.trans p2).trans p3) v3
theorem EvE.un {op : UnaryOp} (hl : EvE W d fi l vars cl H a H1) (ho : UnV W (unaryOp op) a H1 v H2) : EvE W d fi (.UnaryOp op l pos) vars cl H v H2 := by
  intro A env L ρ s Q E rm eo sr fr K
  refine wpAny_UnaryOp (hl A env L ρ s _ E rm eo sr fr fun ρ1 V1 h1 t1 p1 v1 => ?_)
  exact ho A ρ1 _ _ _ E rm.zero p1.sr v1 fun ρ3 V3 h3 t3 p3 v3 => K ρ3 V3 h3 t3 (p1.trans p3) v3
theorem EvE.ifT {test body orelse : PySem.Expr} (ht : IsT W d fi test vars cl H true H1) (hb : EvE W d fi body vars cl H1 v H2) : EvE W d fi (.IfExp test body orelse pos) vars cl H v H2 := by
  intro A env L ρ s Q E rm eo sr fr K
  refine wpAny_IfExp (ht A env L ρ s _ E rm eo sr fr fun ρ1 h1 t1 p1 => ?_)
  exact hb A env L ρ1 _ _ E rm (p1.env eo) p1.sr (p1.fr fr) fun ρ2 V2 h2 t2 p2 v2 => K ρ2 V2 h2 t2 (p1.trans p2) v2
theorem EvE.ifF {test body orelse : PySem.Expr} (ht : IsT W d fi test vars cl H false H1) (hb : EvE W d fi orelse vars cl H1 v H2) : EvE W d fi (.IfExp test body orelse pos) vars cl H v H2 := by
  intro A env L ρ s Q E rm eo sr fr K
  refine wpAny_IfExp (ht A env L ρ s _ E rm eo sr fr fun ρ1 h1 t1 p1 => ?_)
  exact hb A env L ρ1 _ _ E rm (p1.env eo) p1.sr (p1.fr fr) fun ρ2 V2 h2 t2 p2 v2 => K ρ2 V2 h2 t2 (p1.trans p2) v2

theorem TrV.cbool {x : Bool} : TrV W (.bool x) H x := by
  intro A ρ s X Q E rm sr hv K; cases hv; exact wpAny_truthy_bool (K s.toks)
theorem EvE.andT (hl : EvE W d fi l vars cl H a H1) (ht : TrV W a H1 true) (hr : EvE W d fi r vars cl H1 b H2) : EvE W d fi (.BoolOp .And [l, r] pos) vars cl H b H2 := by
  intro A env L ρ s Q E rm eo sr fr K
  refine wpAny_And2 (hl A env L ρ s _ E rm eo sr fr fun ρ1 V1 h1 t1 p1 v1 => ?_)
  refine ht A ρ1 _ _ _ E rm.zero p1.sr v1 fun tk => ?_
  exact hr A env L ρ1 _ _ E rm (p1.env eo) p1.sr (p1.fr fr) fun ρ2 V2 h2 t2 p2 v2 => K ρ2 V2 h2 t2 (p1.trans p2) v2
theorem EvE.andF (hl : EvE W d fi l vars cl H a H1) (ht : TrV W a H1 false) : EvE W d fi (.BoolOp .And [l, r] pos) vars cl H a H1 := by
  intro A env L ρ s Q E rm eo sr fr K
  refine wpAny_And2 (hl A env L ρ s _ E rm eo sr fr fun ρ1 V1 h1 t1 p1 v1 => ?_)
  exact ht A ρ1 _ _ _ E rm.zero p1.sr v1 fun tk => K ρ1 V1 h1 _ p1 v1

/- tests -/
theorem IsT.cmp {op : CmpOp} {x : Bool} (hl : EvE W d fi l vars cl H a H1) (hr : EvE W d fi r vars cl H1 b H2) (ho : OpV W (compareOp op) a b H2 (.bool x) H3) (hm : behindInMarks op r = false := by with_unfolding_all rfl) : IsT W d fi (.Compare l [op] [r] pos) vars cl H x H3 := by
  intro A env L ρ s Q E rm eo sr fr K
  refine wpAny_isTrue_Compare1 (hm := hm) (hl A env L ρ s _ E rm eo sr fr fun ρ1 V1 h1 t1 p1 v1 => ?_)
  refine hr A env L ρ1 _ _ E rm (p1.env eo) p1.sr (p1.fr fr) fun ρ2 V2 h2 t2 p2 v2 => ?_
  refine ho A ρ2 _ _ _ _ E rm.zero p2.sr (p2.vrel v1) v2 fun ρ3 V3 h3 t3 p3 v3 => ?_
  cases v3
  exact wpAny_truthy_bool (K ρ3 h3 t3 ((p1.trans p2).trans p3))
theorem IsT.val {x : Bool} (h : EvE W d fi e vars cl H a H1) (ht : TrV W a H1 x) (he : ∀ env whole, isTrue e env whole = (do let v ← whole; standAt e.pos; holding [v] (truthy v)) := by intro _ _; rfl) : IsT W d fi e vars cl H x H1 := by
  intro A env L ρ s Q E rm eo sr fr K
  refine wpAny_isTrue_value (he := he env _) (h A env L ρ s _ E rm eo sr fr fun ρ1 V1 h1 t1 p1 v1 => ?_)
  exact ht A ρ1 _ _ _ E rm.zero p1.sr v1 fun tk => K ρ1 h1 tk p1
theorem IsT.not {x : Bool} (h : IsT W d fi e vars cl H x H1) : IsT W d fi (.UnaryOp .Not e pos) vars cl H (!x) H1 := by
  intro A env L ρ s Q E rm eo sr fr K
  exact wpAny_isTrue_Not (h A env L ρ s _ E rm eo sr fr fun ρ1 h1 t1 p1 => K ρ1 h1 t1 p1)

noncomputable def AllT (W : SW) (d : Nat) (fi : FI) (op : BoolOp) (es : List PySem.Expr) (vars : List (Option AV)) (cl : List Nat) (H : List AO) (b : Bool) (H' : List AO) : Prop :=
  ∀ (A : Around) (env : Env) (L : Addr) (ρ : List Addr) (s : Shared) (Q : Bool → Shared → Prop) (E : Value → Shared → Prop),
    Room d A → EnvOk fi env L ρ cl → SR W ρ H s.heap → FR W fi vars ρ s.heap L →
    (∀ ρ' h' tk, Post W [] ρ ρ' H' s.heap h' → Q b { s with heap := h', toks := tk }) →
    wpAny W.M A (allTrue op es env) Q E s
theorem IsT.bool {op : BoolOp} {es : List PySem.Expr} {x : Bool} (h : AllT W d fi op es vars cl H x H1) : IsT W d fi (.BoolOp op es pos) vars cl H x H1 :=
  fun A env L ρ s Q E rm eo sr fr K => wpAny_isTrue_BoolOp (h A env L ρ s Q E rm eo sr fr K)
theorem AllT.andNil : AllT W d fi .And [] vars cl H true H := fun A env L ρ s Q E rm eo sr fr K => wpAny_allTrue_And_nil (K ρ _ s.toks (.refl sr))
theorem AllT.orNil : AllT W d fi .Or [] vars cl H false H := fun A env L ρ s Q E rm eo sr fr K => wpAny_allTrue_Or_nil (K ρ _ s.toks (.refl sr))
theorem AllT.andT {es : List PySem.Expr} {x : Bool} (h : IsT W d fi e vars cl H true H1) (t : AllT W d fi .And es vars cl H1 x H2) : AllT W d fi .And (e :: es) vars cl H x H2 := by
  intro A env L ρ s Q E rm eo sr fr K
  refine wpAny_allTrue_And_cons (h A env L ρ s _ E rm eo sr fr fun ρ1 h1 t1 p1 => ?_)
  exact t A env L ρ1 _ _ E rm (p1.env eo) p1.sr (p1.fr fr) fun ρ2 h2 t2 p2 => K ρ2 h2 t2 (p1.trans p2)
theorem AllT.andF {es : List PySem.Expr} (h : IsT W d fi e vars cl H false H1) : AllT W d fi .And (e :: es) vars cl H false H1 := by
  intro A env L ρ s Q E rm eo sr fr K
  exact wpAny_allTrue_And_cons (h A env L ρ s _ E rm eo sr fr fun ρ1 h1 t1 p1 => K ρ1 h1 t1 p1)
theorem AllT.orF {es : List PySem.Expr} {x : Bool} (h : IsT W d fi e vars cl H false H1) (t : AllT W d fi .Or es vars cl H1 x H2) : AllT W d fi .Or (e :: es) vars cl H x H2 := by
  intro A env L ρ s Q E rm eo sr fr K
  refine wpAny_allTrue_Or_cons (h A env L ρ s _ E rm eo sr fr fun ρ1 h1 t1 p1 => ?_)
  exact t A env L ρ1 _ _ E rm (p1.env eo) p1.sr (p1.fr fr) fun ρ2 h2 t2 p2 => K ρ2 h2 t2 (p1.trans p2)
theorem AllT.orT {es : List PySem.Expr} (h : IsT W d fi e vars cl H true H1) : AllT W d fi .Or (e :: es) vars cl H true H1 := by
  intro A env L ρ s Q E rm eo sr fr K
  exact wpAny_allTrue_Or_cons (h A env L ρ s _ E rm eo sr fr fun ρ1 h1 t1 p1 => K ρ1 h1 t1 p1)

/- displays and calls' places -/
theorem EvEs.nil : EvEs W d fi [] vars cl H [] H := fun A env L ρ s pos Q E rm eo sr fr K => wpAny_items_nil (K ρ [] _ s.toks (.refl sr) .nil)
theorem EvEs.cons {es : List PySem.Expr} {vs : List AV} (h : EvE W d fi e vars cl H v H1) (t : EvEs W d fi es vars cl H1 vs H2) (he : ∀ env, starEach (e :: es) env = (false, eval e env) :: starEach es env := by intro _; rfl) :
    EvEs W d fi (e :: es) vars cl H (v :: vs) H2 := by
  intro A env L ρ s pos Q E rm eo sr fr K
  refine wpAny_items_cons (he := he env) (h A env L ρ s _ E rm eo sr fr fun ρ1 V1 h1 t1 p1 v1 => ?_)
  exact t A env L ρ1 _ _ _ E rm (p1.env eo) p1.sr (p1.fr fr) fun ρ2 Vs h2 t2 p2 v2 => K ρ2 _ h2 t2 (p1.trans p2) (.cons (p2.vrel v1) v2)

theorem VRels.length {ρ : List Addr} {vs : List AV} {Vs : List Value} (h : VRels ρ vs Vs) : vs.length = Vs.length := by
  induction h with
  | nil => rfl
  | cons _ _ ih => simp [ih]

theorem SR.allocList {X ρ : List Addr} {h : Heap} {vs : List AV} {Vs : List Value} (x : SR W ρ H h) (hv : VRels ρ vs Vs) : Post W X ρ (ρ ++ [h.objs.size]) (H ++ [.list vs]) h (h.push (listO Vs 0)) :=
  x.alloc (.push h _) (noneAt (Nat.le_refl _)) ⟨Vs, 0, Heap.get?_push_size _ rfl, hv.mono⟩
theorem SR.allocTup {X ρ : List Addr} {h : Heap} {vs : List AV} {Vs : List Value} (x : SR W ρ H h) (hv : VRels ρ vs Vs) : Post W X ρ (ρ ++ [h.objs.size]) (H ++ [.tup vs]) h (h.push (tupO Vs 0)) :=
  x.alloc (.push h _) (noneAt (Nat.le_refl _)) ⟨Vs, 0, Heap.get?_push_size _ rfl, hv.mono⟩
theorem SR.newLoc {ρ : List Addr} {h : Heap} {a : Addr} (x : SR W ρ H h) : VRel (ρ ++ [a]) (.loc H.length) (.ref a) := .loc (by rw [← x.len]; simp)

theorem EvE.list {es : List PySem.Expr} {vs : List AV} (h : EvEs W d fi es vars cl H vs H1) (hz : vs.length ≤ sizeLine := by decide) : EvE W d fi (.List es pos) vars cl H (.loc H1.length) (H1 ++ [.list vs]) := by
  intro A env L ρ s Q E rm eo sr fr K
  refine wpAny_List (h A env L ρ s _ _ E rm eo sr fr fun ρ1 Vs h1 t1 p1 v1 => ⟨by rw [← v1.length]; exact hz, ?_⟩)
  exact K _ _ _ t1 (p1.trans (p1.sr.allocList v1)) p1.sr.newLoc
theorem EvE.tup {es : List PySem.Expr} {k : Nat} {vs : List AV} (h : EvEs W d fi es vars cl H vs H1) (hz : vs.length ≤ sizeLine := by decide) : EvE W d fi (.Tuple es k pos) vars cl H (.loc H1.length) (H1 ++ [.tup vs]) := by
  intro A env L ρ s Q E rm eo sr fr K
  refine wpAny_Tuple (h A env L ρ s _ _ E rm eo sr fr fun ρ1 Vs h1 t1 p1 v1 => ⟨by rw [← v1.length]; exact hz, ?_⟩)
  exact K _ _ _ t1 (p1.trans (p1.sr.allocTup v1)) p1.sr.newLoc

/- blocks of statements -/
theorem ExB.nil : ExB W d fi [] vars cl H .next vars H := fun A env L ρ s Q E rm eo sr fr K => wpAny_execs_nil (K ρ _ _ s.toks (.refl sr) fr .next)
theorem Post.frX {W : SW} {fi : FI} {cl : List Nat} {X ρ ρ' : List Addr} {H' : List AO} {h h' : Heap} {env : Env} {L : Addr} (x : Post W X ρ ρ' H' h h') (r : EnvOk fi env L ρ cl) : EnvOk fi env L ρ' cl := x.env r
theorem ExB.cons {st : Stmt} {ss : List Stmt} {f : AF} (h : ExS W d fi st vars cl H .next vars' H1) (t : ExB W d fi ss vars' cl H1 f vars'' H2) : ExB W d fi (st :: ss) vars cl H f vars'' H2 := by
  intro A env L ρ s Q E rm eo sr fr K
  refine wpAny_execs_cons (h A env L ρ s _ E rm eo sr fr fun ρ1 F h1 t1 p1 f1 v1 => ?_)
  cases v1
  exact t A env L ρ1 _ _ E rm (p1.env eo) p1.sr f1 fun ρ2 F h2 t2 p2 f2 v2 => K ρ2 F h2 t2 (p1.transL f1 p2) f2 v2
theorem ExB.ret {st : Stmt} {ss : List Stmt} (h : ExS W d fi st vars cl H (.ret v) vars' H1) : ExB W d fi (st :: ss) vars cl H (.ret v) vars' H1 := by
  intro A env L ρ s Q E rm eo sr fr K
  refine wpAny_execs_cons (h A env L ρ s _ E rm eo sr fr fun ρ1 F h1 t1 p1 f1 v1 => ?_)
  cases v1 with
  | ret hv => exact K ρ1 _ h1 t1 p1 f1 (.ret hv)
theorem ExB.cont {st : Stmt} {ss : List Stmt} (h : ExS W d fi st vars cl H .cont vars' H1) : ExB W d fi (st :: ss) vars cl H .cont vars' H1 := by
  intro A env L ρ s Q E rm eo sr fr K
  refine wpAny_execs_cons (h A env L ρ s _ E rm eo sr fr fun ρ1 F h1 t1 p1 f1 v1 => ?_)
  cases v1
  exact K ρ1 _ h1 t1 p1 f1 .cont

theorem ExS.pass : ExS W d fi (.Pass pos) vars cl H .next vars H := fun A env L ρ s Q E rm eo sr fr K => wpAny_Pass (K ρ _ _ s.toks (.refl sr) fr .next)
theorem ExS.cont : ExS W d fi (.Continue pos) vars cl H .cont vars H := fun A env L ρ s Q E rm eo sr fr K => wpAny_Continue (K ρ _ _ s.toks (.refl sr) fr .cont)
theorem ExS.ret (h : EvE W d fi e vars cl H v H1) : ExS W d fi (.Return (some e) pos) vars cl H (.ret v) vars H1 :=
  fun A env L ρ s Q E rm eo sr fr K => wpAny_Return_some (h A env L ρ s _ E rm eo sr fr fun ρ1 V1 h1 t1 p1 v1 => K ρ1 _ h1 t1 p1.nilw (p1.fr fr) (.ret v1))
theorem ExS.ifT {test : PySem.Expr} {body orelse : List Stmt} {f : AF} (ht : IsT W d fi test vars cl H true H1) (hb : ExB W d fi body vars cl H1 f vars' H2) : ExS W d fi (.If test body orelse pos) vars cl H f vars' H2 := by
  intro A env L ρ s Q E rm eo sr fr K
  refine wpAny_If (ht A env L ρ s _ E rm eo sr fr fun ρ1 h1 t1 p1 => ?_)
  exact hb A env L ρ1 _ _ E rm (p1.env eo) p1.sr (p1.fr fr) fun ρ2 F h2 t2 p2 f2 v2 => K ρ2 F h2 t2 (p1.nilw.transL (p1.fr fr) p2) f2 v2
theorem ExS.ifF {test : PySem.Expr} {body orelse : List Stmt} {f : AF} (ht : IsT W d fi test vars cl H false H1) (hb : ExB W d fi orelse vars cl H1 f vars' H2) : ExS W d fi (.If test body orelse pos) vars cl H f vars' H2 := by
  intro A env L ρ s Q E rm eo sr fr K
  refine wpAny_If (ht A env L ρ s _ E rm eo sr fr fun ρ1 h1 t1 p1 => ?_)
  exact hb A env L ρ1 _ _ E rm (p1.env eo) p1.sr (p1.fr fr) fun ρ2 F h2 t2 p2 f2 v2 => K ρ2 F h2 t2 (p1.nilw.transL (p1.fr fr) p2) f2 v2
theorem ExS.assert {test : PySem.Expr} {msg : Option PySem.Expr} (ht : IsT W d fi test vars cl H true H1) : ExS W d fi (.Assert test msg pos) vars cl H .next vars H1 := by
  intro A env L ρ s Q E rm eo sr fr K
  exact wpAny_Assert_holds (ht A env L ρ s _ E rm eo sr fr fun ρ1 h1 t1 p1 => ⟨rfl, K ρ1 _ h1 t1 p1.nilw (p1.fr fr) .next⟩)

/- a name is stored -/
theorem FR.store {ρ : List Addr} {h h' : Heap} {L : Addr} {i : Nat} {x : Str} {V : Value} {m : Str → Option Value} (fr : FR W fi vars ρ h L) (hnd : fi.ns.Nodup) (hn : fi.ns[i]? = some x) (hm : ∀ (j : Nat) (y : Str) (u : AV), fi.ns[j]? = some y → vars[j]? = some (some u) → ∃ V, m y = some V ∧ VRel ρ u V)
    (ns : h'.Ns L (fun y => if y = x then some V else m y)) (rv : VRel ρ v V) : FR W fi (vars.set i (some v)) ρ h' L := by
  refine ⟨fr.out, fr.base, _, ns, fun j y u h1 h2 => ?_⟩
  by_cases hij : i = j
  · subst hij
    rw [hn] at h1; cases h1
    rw [List.getElem?_set] at h2
    split at h2
    · split at h2
      · cases h2; exact ⟨V, by simp, rv⟩
      · cases h2
    · exact absurd rfl ‹_›
  · rw [List.getElem?_set_ne hij] at h2
    obtain ⟨V', e, r⟩ := hm j y u h1 h2
    refine ⟨V', ?_, r⟩
    have : y ≠ x := fun q => by
      subst q
      obtain ⟨h3, h4⟩ := List.getElem?_eq_some_iff.mp h1
      obtain ⟨h5, h6⟩ := List.getElem?_eq_some_iff.mp hn
      exact hij (List.getElem_inj hnd |>.mp (h6.trans h4.symm))
    simp only [this, if_false]; exact e

theorem SR.frame {X ρ : List Addr} {h h' : Heap} {L : Addr} (x : SR W ρ H h) (hL : L ∉ ρ) (hb : W.h₀.get? L = none) (hs : ∀ b o, b ≠ L → h.get? b = some o → h'.get? b = some o) : Post W (L :: X) ρ ρ H h h' := by
  refine ⟨⟨[], by simp, by simp⟩, ⟨x.len, x.nd, fun b o e => ?_, x.out, fun i o a h1 h2 => (x.obj i o a h1 h2).at fun ob e => ?_⟩, fun a o e n1 n2 => ?_⟩
  · exact hs b o (fun q => by rw [q, hb] at e; cases e) (x.base b o e)
  · exact hs a ob (fun q => hL (by rw [← q]; exact List.mem_of_getElem? h2)) e
  · exact hs a o (fun q => n2 (by rw [q]; exact List.mem_cons_self)) e

theorem store_local {A : Around} {env : Env} {L : Addr} {ρ : List Addr} {s : Shared} {V : Value} {Q : Unit → Shared → Prop} {E : Value → Shared → Prop} {i : Nat} {x : Str}
    (hnd : fi.ns.Nodup) (hn : fi.ns[i]? = some x) (hk : fi.kof x = some .local) (eo : EnvOk fi env L ρ cl) (sr : SR W ρ H s.heap) (fr : FR W fi vars ρ s.heap L) (rv : VRel ρ v V)
    (K : ∀ h' tk, Post W [L] ρ ρ H s.heap h' → FR W fi (vars.set i (some v)) ρ h' L → Q () { s with heap := h', toks := tk }) : wpAny W.M A (storeName env x V) Q E s := by
  obtain ⟨o, b, m, n, q⟩ := id fr
  have n' := n
  rw [← eo.loc] at n'
  refine wpAny_storeName_local ((eo.kof x).trans hk) n' (fun h' hns hs => ?_) (by rw [eo.kind]; rfl)
  rw [eo.loc] at hns hs
  exact K h' _ (sr.frame o b hs.extBut) (fr.store hnd hn q hns rv)

theorem ExS.assign (i : Nat) {x : Str} {pos' : Pos} (h : EvE W d fi e vars cl H v H1) (hn : fi.ns[i]? = some x) (hk : fi.kof x = some .local) (hnd : fi.ns.Nodup)
    (hs : ∀ env, swapsWith e (some (.Name x pos')) pos.line env = pure false := by intro _; rfl) : ExS W d fi (.Assign [.Name x pos'] e pos) vars cl H .next (vars.set i (some v)) H1 := by
  intro A env L ρ s Q E rm eo sr fr K
  refine wpAny_Assign_Name (hs := hs env) (h A env L ρ s _ E rm eo sr fr fun ρ1 V1 h1 t1 p1 v1 => ?_)
  exact store_local hnd hn hk (p1.env eo) p1.sr (p1.fr fr) v1 fun h' tk p2 f2 => K ρ1 _ h' tk (p1.nilw.transL (p1.fr fr) p2) f2 .next

theorem ExS.aug (i : Nat) {x : Str} {pos' : Pos} {op : Operator} (hn : fi.ns[i]? = some x) (hk : fi.kof x = some .local) (hnd : fi.ns.Nodup) (hv : vars[i]? = some (some a)) (h : EvE W d fi e vars cl H b H1)
    (ho : OpV W (inplaceOp op) a b H1 v H2) : ExS W d fi (.AugAssign (.Name x pos') op e pos) vars cl H .next (vars.set i (some v)) H2 := by
  intro A env L ρ s Q E rm eo sr fr K
  obtain ⟨o, bb, m, n, q⟩ := id fr
  obtain ⟨V0, e0, rv0⟩ := q i x a hn hv
  have n' := n
  rw [← eo.loc] at n'
  refine wpAny_AugAssign_Name (wpAny_loadName_local eo.kind ((eo.kof x).trans hk) n' e0 ?_)
  refine h A env L ρ s _ E rm eo sr fr fun ρ1 V1 h1 t1 p1 v1 => ?_
  refine ho A ρ1 _ _ _ _ E rm.zero p1.sr (p1.vrel rv0) v1 fun ρ2 V2 h2 t2 p2 v2 => ?_
  exact store_local hnd hn hk (p2.env (p1.env eo)) p2.sr (p2.fr (p1.fr fr)) v2 fun h' tk p3 f3 => K ρ2 _ h' tk ((p1.trans p2).nilw.transL (p2.fr (p1.fr fr)) p3) f3 .next

/- a cell is stored -/
theorem store_cell {A : Around} {env : Env} {L : Addr} {ρ : List Addr} {s : Shared} {V : Value} {Q : Unit → Shared → Prop} {E : Value → Shared → Prop} {j c : Nat} {x : Str} {v₀ : Option AV}
    (hn : fi.cs[j]? = some x) (hk : fi.kof x = some .cell) (hc : cl[j]? = some c) (ho : H[c]? = some (.cell v₀)) (eo : EnvOk fi env L ρ cl) (sr : SR W ρ H s.heap) (rv : VRel ρ v V)
    (K : ∀ h' tk, Post W [] ρ ρ (H.set c (.cell (some v))) s.heap h' → Q () { s with heap := h', toks := tk }) : wpAny W.M A (storeName env x V) Q E s := by
  obtain ⟨a, h1, h2⟩ := eo.cell j x c hn hc
  obtain ⟨o, e1, e2⟩ := sr.obj c _ a ho h1
  have hcell : ∃ v', o.data = .cell v' := by
    cases v₀ with
    | none => exact ⟨_, e2⟩
    | some _ => obtain ⟨V', e, _⟩ := e2; exact ⟨_, e⟩
  obtain ⟨v', hd⟩ := hcell
  refine wpAny_storeName_cell eo.kind ((eo.kof x).trans hk) h2 ⟨o, e1, hd⟩ fun h' hv hs => ?_
  obtain ⟨o', ho', hd'⟩ := hv
  exact K h' s.toks (sr.set ho h1 rfl hs.extBut ⟨o', ho', V, hd', rv⟩)

theorem ExS.assignCell (j : Nat) {c : Nat} {x : Str} {pos' : Pos} {v₀ : Option AV} (h : EvE W d fi e vars cl H v H1) (hn : fi.cs[j]? = some x) (hk : fi.kof x = some .cell) (hc : cl[j]? = some c) (ho : H1[c]? = some (.cell v₀))
    (hs : ∀ env : Env, env.kindOf x = some .cell → swapsWith e (some (.Name x pos')) pos.line env = pure false := by intro _ _; rfl) : ExS W d fi (.Assign [.Name x pos'] e pos) vars cl H .next vars (H1.set c (.cell (some v))) := by
  intro A env L ρ s Q E rm eo sr fr K
  refine wpAny_Assign_Name (hs := hs env ((eo.kof x).trans hk)) (h A env L ρ s _ E rm eo sr fr fun ρ1 V1 h1 t1 p1 v1 => ?_)
  exact store_cell hn hk hc ho (p1.env eo) p1.sr v1 fun h' tk p2 => K ρ1 _ h' tk (p1.trans p2).nilw ((p1.trans p2).fr fr) .next

end Mine

/- part -/
namespace Mine
open PySem.Calls

variable {W : SW} {d : Nat} {fi : FI} {vars vars' vars'' : List (Option AV)} {cl : List Nat} {H H1 H2 H3 H4 : List AO} {a b c v : AV} {e l r : PySem.Expr} {pos : Pos}

noncomputable def cellNames (names : List (Str × NameKind)) : List Str := (names.filter fun x => x.2 == .cell).map (·.1)

theorem cellsFrom_eq : ∀ (names : List (Str × NameKind)) (n : Nat) (acc : List (Str × Addr)), cellsFrom n names acc = ((cellNames names).zipIdx n).reverse ++ acc
  | [], n, acc => by simp [cellsFrom, cellNames]
  | (x, k) :: r, n, acc => by
    unfold cellsFrom
    by_cases hk : (k == NameKind.cell) = true
    · rw [if_pos hk, cellsFrom_eq r (n + 1)]
      simp [cellNames, List.filter_cons, hk, List.zipIdx_cons]
    · rw [if_neg hk, cellsFrom_eq r n]
      simp [cellNames, List.filter_cons, hk]

theorem lookup_of_mem_nodupS {β : Type} : ∀ {l : List (Str × β)} {x : Str} {v : β}, (l.map (·.1)).Nodup → (x, v) ∈ l → l.lookup x = some v
  | [], _, _, _, h => nomatch h
  | (y, u) :: r, x, v, hn, h => by
    simp only [List.map_cons, List.nodup_cons] at hn
    rw [List.lookup_cons]
    rcases List.mem_cons.mp h with q | q
    · cases q; simp
    · have : x ≠ y := fun z => hn.1 (by rw [← z]; exact List.mem_map_of_mem (f := (·.1)) q)
      have hb : (x == y) = false := by simpa using this
      rw [hb]; exact lookup_of_mem_nodupS hn.2 q

theorem cells_lookup {names : List (Str × NameKind)} {n j : Nat} {x : Str} (hnd : (cellNames names).Nodup) (h : (cellNames names)[j]? = some x) : (cellsFrom n names []).lookup x = some (n + j) := by
  rw [cellsFrom_eq, List.append_nil]
  refine lookup_of_mem_nodupS ?_ ?_
  · rw [List.map_reverse, (List.reverse_perm _).nodup_iff, List.zipIdx_map_fst]; exact hnd
  · rw [List.mem_reverse, List.mem_zipIdx_iff_le_and_getElem?_sub]
    exact ⟨Nat.le_add_right _ _, by simpa using h⟩

theorem KRels.keys {ρ : List Addr} {bs : List (Str × AV)} {Bs : List (Str × Value)} (h : KRels ρ bs Bs) : Bs.map (·.1) = bs.map (·.1) := by
  induction h with
  | nil => rfl
  | cons _ _ ih => simp [ih]
theorem KRels.lookup {ρ : List Addr} {bs : List (Str × AV)} {Bs : List (Str × Value)} (h : KRels ρ bs Bs) (x : Str) :
    (bs.lookup x = none ∧ Bs.lookup x = none) ∨ ∃ v V, bs.lookup x = some v ∧ Bs.lookup x = some V ∧ VRel ρ v V := by
  induction h with
  | nil => exact .inl ⟨rfl, rfl⟩
  | @cons y v V vs Vs h _ ih =>
    simp only [List.lookup_cons]
    cases q : x == y with
    | true => exact .inr ⟨v, V, rfl, rfl, h⟩
    | false => exact ih

theorem bindL_eq (kof : Str → Option NameKind) : ∀ (Bs : List (Str × Value)) (m : Str → Option Value) (x : Str), (Bs.map (·.1)).Nodup →
    bindL kof Bs m x = (if kof x = some .local then Bs.lookup x else none).or (m x)
  | [], m, x, _ => by simp [bindL]
  | (y, v) :: r, m, x, hn => by
    simp only [List.map_cons, List.nodup_cons] at hn
    unfold bindL
    rw [bindL_eq kof r _ x hn.2, List.lookup_cons]
    by_cases hx : x = y
    · subst hx
      have : r.lookup x = none := by
        cases q : r.lookup x with
        | none => rfl
        | some w => exact absurd (List.mem_map_of_mem (f := (·.1)) (mem_of_lookup q)) hn.1
      by_cases hk : kof x = some .local <;> simp [hk, this]
    · have hb : (x == y) = false := by simpa using hx
      by_cases hk : kof y = some .local <;> by_cases hk2 : kof x = some .local <;> simp [hk, hk2, hb, hx]
theorem bindC_eq (kof : Str → Option NameKind) : ∀ (Bs : List (Str × Value)) (m : Str → Option Value) (x : Str), (Bs.map (·.1)).Nodup →
    bindC kof Bs m x = (if kof x = some .local then none else Bs.lookup x).or (m x)
  | [], m, x, _ => by simp [bindC]
  | (y, v) :: r, m, x, hn => by
    simp only [List.map_cons, List.nodup_cons] at hn
    unfold bindC
    rw [bindC_eq kof r _ x hn.2, List.lookup_cons]
    by_cases hx : x = y
    · subst hx
      have : r.lookup x = none := by
        cases q : r.lookup x with
        | none => rfl
        | some w => exact absurd (List.mem_map_of_mem (f := (·.1)) (mem_of_lookup q)) hn.1
      by_cases hk : kof x = some .local <;> simp [hk, this]
    · have hb : (x == y) = false := by simpa using hx
      by_cases hk : kof y = some .local <;> by_cases hk2 : kof x = some .local <;> simp [hk, hk2, hb, hx]

/- several new cells -/
theorem SR.allocCells {X ρ : List Addr} {h h' : Heap} (g : Grow h h') (n : Nat) (hn : h.objs.size ≤ n) : ∀ (os : List (Option AV)) (x : SR W ρ H h), (∀ (j : Nat) (o : Option AV), os[j]? = some o → ∃ V, h'.IsCell (n + j) V ∧ (match o with | none => V = none | some v => ∃ Y, V = some Y ∧ VRel ρ v Y)) →
    Post W X ρ (ρ ++ (List.range os.length).map (n + ·)) (H ++ os.map AO.cell) h h' := by
  intro os x hc
  refine ⟨⟨_, rfl, fun a ha => ?_⟩, ⟨by simp [x.len], ?_, fun b o e => g.keep _ _ (x.base b o e), ?_, ?_⟩, fun a o e _ _ => g.keep a o e⟩
  · obtain ⟨j, _, rfl⟩ := List.mem_map.mp ha; exact noneAt (by show _ ≤ n + j; omega)
  · rw [List.nodup_append]
    refine ⟨x.nd, ?_, fun b hb c hc e => ?_⟩
    · have := List.nodup_range (n := os.length)
      exact List.Pairwise.map _ (fun a b hab => by show n + a ≠ n + b; omega) this
    · obtain ⟨j, _, rfl⟩ := List.mem_map.mp hc
      obtain ⟨ob, h1⟩ := x.live hb
      rw [e] at h1
      have : n + j < h.objs.size := Heap.lt_size h1
      omega
  · intro i o' b h1 h2 h3
    by_cases hi : i < H.length
    · rw [List.getElem?_append_left hi] at h1
      rw [List.getElem?_append_left (by rw [x.len]; exact hi)] at h2
      exact x.out i o' b h1 h2 h3
    · rw [List.getElem?_append_right (by rw [x.len]; omega)] at h2
      have hm := List.mem_of_getElem? h2
      obtain ⟨j, _, rfl⟩ := List.mem_map.mp hm
      cases q : W.h₀.get? (n + j) with
      | none => rfl
      | some ob => have : n + j < h.objs.size := Heap.lt_size (x.base _ _ q); omega
  · intro i o' b h1 h2
    by_cases hi : i < H.length
    · rw [List.getElem?_append_left hi] at h1
      rw [List.getElem?_append_left (by rw [x.len]; exact hi)] at h2
      exact ((x.obj i o' b h1 h2).at fun ob e => g.keep _ _ e).mono
    · rw [List.getElem?_append_right (by omega)] at h1
      rw [List.getElem?_append_right (by rw [x.len]; omega), x.len] at h2
      rw [List.getElem?_map] at h1 h2
      cases q : os[i - H.length]? with
      | none => rw [q] at h1; cases h1
      | some o =>
        have hlt := (List.getElem?_eq_some_iff.mp q).1
        rw [q] at h1
        rw [List.getElem?_range hlt] at h2
        simp only [Option.map_some, Option.some.injEq] at h1 h2
        subst h1; subst h2
        obtain ⟨V, ⟨ob, e1, e2⟩, hv⟩ := hc _ _ q
        refine ⟨ob, e1, ?_⟩
        cases o with
        | none => simp only at hv; rw [hv] at e2; exact e2
        | some v => obtain ⟨Y, rfl, r⟩ := hv; exact ⟨Y, e2, r.mono⟩

noncomputable def AF.out : AF → AV
  | .ret v => v
  | _ => .none

theorem lookup_cell : ∀ {names : List (Str × NameKind)} {x : Str}, (names.map (·.1)).Nodup → x ∈ cellNames names → names.lookup x = some .cell := by
  intro names x hn hx
  obtain ⟨p, hp, rfl⟩ := List.mem_map.mp hx
  obtain ⟨h1, h2⟩ := List.mem_filter.mp hp
  refine lookup_of_mem_nodupS hn ?_
  obtain ⟨y, k⟩ := p
  have : k = .cell := by simpa using h2
  subst this; exact h1
theorem cellNames_nodup {names : List (Str × NameKind)} (hn : (names.map (·.1)).Nodup) : (cellNames names).Nodup :=
  List.Nodup.sublist ((List.filter_sublist).map _) hn

/- the frame that a call lays -/
theorem enter_frame {ρ : List Addr} {s : Shared} {scope : Scope} {qual : Str} {cdv : Value} {func : Option Addr} {ns : List Str} {bs : List (Str × AV)} {Bs : List (Str × Value)} {vars0 : List (Option AV)} {A : Around} {E : Value → Shared → Prop} {Q : Env → Shared → Prop}
    (sr : SR W ρ H s.heap) (hBs : KRels ρ bs Bs)
    (hkd : (bs.all fun y => scope.names.lookup y.1 == some .local || scope.names.lookup y.1 == some .cell) = true) (hkn : (bs.map (·.1)).Nodup) (hnd : (scope.names.map (·.1)).Nodup)
    (hv : vars0 = ns.map fun x => if scope.names.lookup x = some .local then bs.lookup x else none) (hk : scope.kind = .function)
    (K : ∀ ρ' L env h' tk, Post W [] ρ ρ' (H ++ ((cellNames scope.names).map fun x => bs.lookup x).map AO.cell) s.heap h' → s.heap.get? L = none →
      EnvOk ⟨ns, cellNames scope.names, fun x => scope.names.lookup x, qual ++ ".<locals>.", cdv⟩ env L ρ' ((List.range (cellNames scope.names).length).map (H.length + ·)) →
      FR W ⟨ns, cellNames scope.names, fun x => scope.names.lookup x, qual ++ ".<locals>.", cdv⟩ vars0 ρ' h' L → h'.NoLimit → Q env { s with heap := h', toks := tk }) :
    wpAny W.M A (newFunctionEnv scope mainGlobals [] Bs (qual ++ ".<locals>.") func cdv none builtinsNs) Q E s := by
  have hkeys := hBs.keys
  have hkd' : ∀ x ∈ Bs, scope.names.lookup x.1 = some .local ∨ scope.names.lookup x.1 = some .cell := fun x hx => by
    have : x.1 ∈ bs.map (·.1) := by rw [← hkeys]; exact List.mem_map_of_mem hx
    obtain ⟨y, hy, e⟩ := List.mem_map.mp this
    have := List.all_eq_true.mp hkd y hy
    rw [e] at this
    simpa using this
  have hcn := cellNames_nodup hnd
  refine wpAny_newFunctionEnv_cells hk (fun x hx => (hkd' x hx).imp id fun h => ⟨h, ?_⟩) fun env he s' x => ?_
  · have hm : x.1 ∈ cellNames scope.names := by
      unfold cellNames
      exact List.mem_map.mpr ⟨(x.1, .cell), List.mem_filter.mpr ⟨mem_of_lookup h, rfl⟩, rfl⟩
    obtain ⟨j, hj⟩ := List.mem_iff_getElem?.mp hm
    rw [cells_lookup hcn hj]; rfl
  subst he
  obtain ⟨h₁, tk, rfl, hk₁⟩ := x.done
  have hns := x.toInCall.ns
  have g : Grow s.heap h₁ := ⟨hk₁⟩
  have hkn' : (Bs.map (·.1)).Nodup := by rw [hkeys]; exact hkn
  have P0 := SR.allocCells (X := []) g (s.heap.objs.size + 1) (Nat.le_succ _) ((cellNames scope.names).map fun x => bs.lookup x) sr (fun j o hj => by
    rw [List.getElem?_map] at hj
    cases q : (cellNames scope.names)[j]? with
    | none => rw [q] at hj; cases hj
    | some y =>
      rw [q] at hj
      simp only [Option.map_some, Option.some.injEq] at hj
      subst hj
      have hc := x.cell y (s.heap.objs.size + 1 + j) (cells_lookup hcn q)
      have hl := lookup_cell hnd (List.mem_of_getElem? q)
      refine ⟨_, hc, ?_⟩
      rw [bindC_eq _ _ _ _ hkn', show Env.kindOf (newEnv scope s.heap.objs.size mainGlobals (cellsFrom (s.heap.objs.size + 1) scope.names []) (qual ++ ".<locals>.") func cdv none builtinsNs) y = some .cell from hl]
      rw [if_neg (by decide), Option.or_none]
      rcases hBs.lookup y with ⟨q1, q2⟩ | ⟨v, V, q1, q2, q3⟩
      · rw [q1]; exact q2
      · rw [q1]; exact ⟨V, q2, q3⟩)
  have hLρ : s.heap.objs.size ∉ ρ ++ (List.range ((cellNames scope.names).map fun x => bs.lookup x).length).map (s.heap.objs.size + 1 + ·) := fun hm => by
    rcases List.mem_append.mp hm with hm | hm
    · obtain ⟨ob, e⟩ := sr.live hm
      exact absurd (Heap.lt_size e) (Nat.lt_irrefl _)
    · obtain ⟨j, _, hj⟩ := List.mem_map.mp hm
      have : s.heap.objs.size + 1 + j = s.heap.objs.size := hj
      omega
  refine K _ s.heap.objs.size _ h₁ tk P0 (noneAt (Nat.le_refl _)) ⟨rfl, rfl, rfl, hk, fun _ => rfl, rfl, rfl, fun j y c h1 h2 => ?_⟩ ⟨hLρ, ?_, _, hns, fun i y v h1 h2 => ?_⟩ ((W.lim.keeps sr.base).keeps hk₁)
  · have hlt := (List.getElem?_eq_some_iff.mp h1).1
    rw [List.getElem?_map, List.getElem?_range hlt] at h2
    simp only [Option.map_some, Option.some.injEq] at h2
    subst h2
    refine ⟨s.heap.objs.size + 1 + j, ?_, cells_lookup hcn h1⟩
    rw [List.getElem?_append_right (by rw [sr.len]; omega), sr.len, Nat.add_sub_cancel_left, List.getElem?_map, List.getElem?_range (by simpa using hlt)]
    rfl
  · cases q : W.h₀.get? s.heap.objs.size with
    | none => rfl
    | some ob => exact absurd (Heap.lt_size (sr.base _ _ q)) (Nat.lt_irrefl _)
  · rw [hv, List.getElem?_map, h1] at h2
    simp only [Option.map_some, Option.some.injEq] at h2
    rw [bindL_eq _ _ _ _ hkn']
    by_cases hl : scope.names.lookup y = some .local
    · rw [if_pos hl] at h2
      rw [if_pos (show Env.kindOf (newEnv scope s.heap.objs.size mainGlobals (cellsFrom (s.heap.objs.size + 1) scope.names []) (qual ++ ".<locals>.") func cdv none builtinsNs) y = some .local from hl)]
      rcases hBs.lookup y with ⟨q1, q2⟩ | ⟨v', V, q1, q2, q3⟩
      · rw [q1] at h2; cases h2
      · rw [q1] at h2; cases h2
        exact ⟨V, by rw [q2]; rfl, q3.mono⟩
    · rw [if_neg hl] at h2; cases h2

theorem Room.deeper {A : Around} {env : Env} (h : Room (d + 1) A) : Room d (A.deeper env) := ⟨h.1, by have := h.2.1; show A.depth + 1 + _ ≤ _; omega, by have := h.2.2; show A.units + 3 + _ ≤ _; omega⟩
theorem Room.in1 {A : Around} (h : Room (d + 1) A) : Room d A.in1 := ⟨h.1, by have := h.2.1; show A.depth + _ ≤ _; omega, by have := h.2.2; show A.units + 1 + _ ≤ _; omega⟩

noncomputable def CodeV (W : SW) (d : Nat) (f : AV) (args : List AV) (kw : List (Str × AV)) (H : List AO) (v : AV) (H' : List AO) : Prop :=
  ∀ (A : Around) (ρ : List Addr) (s : Shared) (F : Value) (As : List Value) (Ks : List (Str × Value)) (R : Result → Shared → Prop),
    Room d A → SR W ρ H s.heap → VRel ρ f F → VRels ρ args As → KRels ρ kw Ks →
    (∀ ρ' V h' tk, Post W [] ρ ρ' H' s.heap h' → VRel ρ' v V → R (.ok (.ret V)) { s with heap := h', toks := tk }) →
    codeAny W.M A (.call F ⟨As, Ks⟩) R s
theorem CodeV.call {args : List AV} {kw : List (Str × AV)} {f : AV} (h : CodeV W d f args kw H v H') : CallV W d f args kw H v H' :=
  fun A ρ s F As Ks Q E rm sr hF hA hK K => wpAny_call (h A ρ s F As Ks _ rm sr hF hA hK fun ρ' V h' tk p r => K ρ' V h' tk p r)

/- a def of the text's, called -/
theorem CodeV.fn {f : Addr} {name qual : Str} {params : Arguments} {body : List Stmt} {scope : Scope} {dV kV doc pm cdv ct oc : Value} {an od : Option Addr} {osl : Array (Option Value)} (ns : List Str) {args : List AV} {kw bs : List (Str × AV)} {fl : AF} {vars0 : List (Option AV)}
    (hK : W.K.lookup f = some ⟨oc, od, .func (fnOf name qual params body scope dV kV doc pm an cdv ct), osl⟩) (hcd : codeIn W.K cdv qual = true)
    (hb : ∀ (ρ : List Addr) (s : Shared) (As : List Value) (Ks : List (Str × Value)), (∀ b o, W.h₀.get? b = some o → s.heap.get? b = some o) → VRels ρ args As → KRels ρ kw Ks →
      ∃ Bs, BindsTo s (fnOf name qual params body scope dV kV doc pm an cdv ct) ⟨As, Ks⟩ Bs ∧ KRels ρ bs Bs)
    (hkd : (bs.all fun y => scope.names.lookup y.1 == some .local || scope.names.lookup y.1 == some .cell) = true) (hkn : (bs.map (·.1)).Nodup) (hnd : (scope.names.map (·.1)).Nodup)
    (hv : vars0 = ns.map fun x => if scope.names.lookup x = some .local then bs.lookup x else none)
    (hbody : ExB W d ⟨ns, cellNames scope.names, fun x => scope.names.lookup x, qual ++ ".<locals>.", cdv⟩ body vars0 ((List.range (cellNames scope.names).length).map (H.length + ·)) (H ++ ((cellNames scope.names).map fun x => bs.lookup x).map AO.cell) fl vars' H')
    (hco : scope.isCoroutine = false := by rfl) (hgen : scope.isGenerator = false := by rfl) (hk : scope.kind = .function := by rfl) :
    CodeV W (d + 1) (.fn f) args kw H fl.out H' := by
  intro A ρ s F As Ks R rm sr hF hAs hKs K
  cases hF
  obtain ⟨Bs, hbind, hBs⟩ := hb ρ s As Ks sr.base hAs hKs
  have hrec : s.heap.CodeRec cdv qual := codeRec_of (W.kin.keeps sr.base) hcd
  refine codeAny_call_function (body := body) (by have := rm.2.1; show _ < 1000; omega) ((W.kin.keeps sr.base) _ _ hK) rfl hco hgen rfl hrec (hbind _ _ _ _ ?_)
  refine enter_frame sr hBs hkd hkn hnd hv hk fun ρ1 L env h1 t1 p1 hL eo fr hlim => ⟨hlim, codeAny_func ?_⟩
  refine hbody (A.deeper env) env L ρ1 _ _ _ rm.deeper eo p1.sr fr fun ρ2 F2 h2 t2 p2 f2 v2 => ?_
  have P' : Post W [] ρ ρ2 H' s.heap h2 := (p1.nilw.transL fr p2).drop (.inl hL)
  cases v2 with
  | ret r => exact K ρ2 _ h2 t2 P' r
  | next => exact K ρ2 _ h2 t2 P' .none
  | brk => exact K ρ2 _ h2 t2 P' .none
  | cont => exact K ρ2 _ h2 t2 P' .none
end Mine

/- part -/
namespace Mine
open PySem.Calls

variable {W : SW} {d : Nat} {fi : FI} {vars vars' vars'' : List (Option AV)} {cl : List Nat} {H H1 H2 H3 H4 : List AO} {a b c v f ov : AV} {e l r : PySem.Expr} {pos : Pos} {vs : List AV}

/- what is called is kept -/
noncomputable def Keepr (W : SW) (f : AV) (H : List AO) : Prop :=
  ∀ (ρ : List Addr) (h : Heap) (V : Value), SR W ρ H h → VRel ρ f V → ∃ k, (k = Keeper.frame ∨ k = Keeper.machine ∨ k = Keeper.boundFrame) ∧ Looks W.M h (keeperOf V) k
theorem Keepr.bi {id : String} : Keepr W (.bi id) H := fun ρ h V sr r => by cases r; exact ⟨.machine, .inr (.inl rfl), Looks.now⟩
theorem Keepr.ty {n : String} : Keepr W (.ty n) H := fun ρ h V sr r => by cases r; exact ⟨.machine, .inr (.inl rfl), Looks.now⟩
theorem Keepr.fn {g : Nat} (hk : keepIn W.K (.ref g) = true) : Keepr W (.fn g) H := fun ρ h V sr r => by
  cases r
  obtain ⟨k, p, q⟩ := looks_keep (M := W.M) hk (W.kin.keeps sr.base)
  exact ⟨k, p.elim .inl fun z => .inr (.inl z), q⟩
theorem Keepr.clo {i : Nat} {q as bd sc cls cd} (ho : H[i]? = some (.clo q as bd sc cls cd)) : Keepr W (.loc i) H := fun ρ h V sr r => by
  cases r with
  | loc hi =>
    obtain ⟨C, rcl, pm, ctv, e1, e2, e3⟩ := sr.obj i _ _ ho hi
    exact ⟨.frame, .inl rfl, (Looks.ld (part := none) e3).andThen .now⟩
theorem Keepr.meth {i g sl : Nat} (ho : H[i]? = some (.meth g sl)) (hf : fnIn W.K g = true) : Keepr W (.loc i) H := fun ρ h V sr r => by
  cases r with
  | loc hi =>
    obtain ⟨b, e1, e2⟩ := sr.obj i _ _ ho hi
    exact keeps_M (K := W.K) (M := W.M) hf h ⟨e2, W.kin.keeps sr.base⟩

/- calls -/
theorem EvE.call0 {func : PySem.Expr} (hf : EvE W d fi func vars cl H f H1) (hk : Keepr W f H1) (hc : CallV W d f [] [] H1 v H2)
    (he : ∀ env, eval (.Call func [] [] pos) env = (do callWith pos (← eval func env) [] (backTo pos (starEach [] env)) (backToKw pos (keywordEach [] env))) := by intro _; rfl) :
    EvE W d fi (.Call func [] [] pos) vars cl H v H2 := by
  intro A env L ρ s Q E rm eo sr fr K
  rw [he]
  refine wpAny_bind (hf A env L ρ s _ E rm eo sr fr fun ρ1 F h1 t1 p1 v1 => ?_)
  refine callWith_of (P := fun h => ∃ k, (k = Keeper.frame ∨ k = Keeper.machine ∨ k = Keeper.boundFrame) ∧ Looks W.M h (keeperOf F) k) rfl (fun h p => p) (evalArgs_nil3 ⟨hk ρ1 _ F p1.sr v1, ?_⟩)
  exact hc A ρ1 _ F _ _ _ E rm p1.sr v1 .nil .nil fun ρ2 V h2 t2 p2 v2 => K ρ2 V h2 t2 (p1.trans p2) v2

theorem EvE.call {func x : PySem.Expr} {xs : List PySem.Expr} (hf : EvE W d fi func vars cl H f H1) (ha : EvEs W d fi (x :: xs) vars cl H1 vs H2) (hk : Keepr W f H2) (hc : CallV W d f vs [] H2 v H3)
    (he : ∀ env, eval (.Call func (x :: xs) [] pos) env = (do callWith pos (← eval func env) [] (backTo pos (starEach (x :: xs) env)) (backToKw pos (keywordEach [] env))) := by intro _; rfl)
    (hs : ∀ env, starEach (x :: xs) env = (false, eval x env) :: starEach xs env := by intro _; rfl) (hpl : ∀ env, (backTo pos (starEach xs env)).any (·.1) = false := by intro _; rfl) :
    EvE W d fi (.Call func (x :: xs) [] pos) vars cl H v H3 := by
  intro A env L ρ s Q E rm eo sr fr K
  rw [he]
  refine wpAny_bind (hf A env L ρ s _ E rm eo sr fr fun ρ1 F h1 t1 p1 v1 => ?_)
  have hp : ((backTo pos (starEach (x :: xs) env)).any (·.1) || (backToKw pos (keywordEach [] env)).any (·.1.isNone)) = false := by
    rw [hs env]; show ((false || (backTo pos (starEach xs env)).any (·.1)) || false) = false; rw [hpl env]; rfl
  refine callWith_of (P := fun h => ∃ k, (k = Keeper.frame ∨ k = Keeper.machine ∨ k = Keeper.boundFrame) ∧ Looks W.M h (keeperOf F) k) hp (fun h p => p) ?_
  have := ha A env L ρ1 { s with heap := h1, toks := t1 } pos (fun vs' s' => (∃ k, (k = Keeper.frame ∨ k = Keeper.machine ∨ k = Keeper.boundFrame) ∧ Looks W.M s'.heap (keeperOf F) k) ∧ wpAny W.M A (PySem.call F ([] ++ vs') []) Q E s') E rm (p1.env eo) p1.sr (p1.fr fr) (fun ρ2 Vs h2 t2 p2 v2 => ⟨hk ρ2 _ F p2.sr (p2.vrel v1), ?_⟩)
  · rw [hs env] at this ⊢
    exact evalArgs_plain this
  · exact hc A ρ2 _ F _ _ _ E rm p2.sr (p2.vrel v1) v2 .nil fun ρ3 V h3 t3 p3 v3 => K ρ3 V h3 t3 ((p1.trans p2).trans p3) v3

/- a call with one keyword -/
theorem EvE.callK {func x kx : PySem.Expr} {xs : List PySem.Expr} {kn : Str} {kp : Pos} {kv : AV} (hf : EvE W d fi func vars cl H f H1) (ha : EvEs W d fi (x :: xs) vars cl H1 vs H2) (hkw : EvE W d fi kx vars cl H2 kv H3) (hk : Keepr W f H3) (hc : CallV W d f vs [(kn, kv)] H3 v H4)
    (he : ∀ env, eval (.Call func (x :: xs) [⟨some kn, kx, kp⟩] pos) env = (do callWith pos (← eval func env) [] (backTo pos (starEach (x :: xs) env)) (backToKw pos (keywordEach [⟨some kn, kx, kp⟩] env))) := by intro _; rfl)
    (hs : ∀ env, starEach (x :: xs) env = (false, eval x env) :: starEach xs env := by intro _; rfl) (hpl : ∀ env, (backTo pos (starEach xs env)).any (·.1) = false := by intro _; rfl) :
    EvE W d fi (.Call func (x :: xs) [⟨some kn, kx, kp⟩] pos) vars cl H v H4 := by
  intro A env L ρ s Q E rm eo sr fr K
  rw [he]
  refine wpAny_bind (hf A env L ρ s _ E rm eo sr fr fun ρ1 F h1 t1 p1 v1 => ?_)
  have hp : ((backTo pos (starEach (x :: xs) env)).any (·.1) || (backToKw pos (keywordEach [⟨some kn, kx, kp⟩] env)).any (·.1.isNone)) = false := by
    rw [hs env]; show ((false || (backTo pos (starEach xs env)).any (·.1)) || false) = false; rw [hpl env]; rfl
  refine callWith_of (P := fun h => ∃ k, (k = Keeper.frame ∨ k = Keeper.machine ∨ k = Keeper.boundFrame) ∧ Looks W.M h (keeperOf F) k) hp (fun h p => p) ?_
  refine evalArgs_kw2 (by rfl) ?_ (hs env)
  refine ha A env L ρ1 _ pos _ E rm (p1.env eo) p1.sr (p1.fr fr) (fun ρ2 Vs h2 t2 p2 v2 => ?_)
  refine kwAll_cons (hkw A env L ρ2 _ _ E rm (p2.env (p1.env eo)) p2.sr (p2.fr (p1.fr fr)) fun ρ3 KV h3 t3 p3 v3 => kwAll_nil ⟨hk ρ3 _ F p3.sr (p3.vrel (p2.vrel v1)), ?_⟩)
  exact hc A ρ3 _ F _ _ _ E rm p3.sr (p3.vrel (p2.vrel v1)) (p3.vrels v2) (.cons v3 .nil) fun ρ4 V h4 t4 p4 v4 => K ρ4 V h4 t4 (((p1.trans p2).trans p3).trans p4) v4

/- methods -/
noncomputable def GetM (W : SW) (o : AV) (name : Str) (H : List AO) (f : AV) (first : List AV) (H' : List AO) : Prop :=
  ∀ (A : Around) (ρ : List Addr) (s : Shared) (V : Value) (pl : Sem Bool) (Q : Value × List Value → Shared → Prop) (E : Value → Shared → Prop),
    Room 0 A → SR W ρ H s.heap → VRel ρ o V →
    (∀ ρ' F Fs h' tk, Post W [] ρ ρ' H' s.heap h' → VRel ρ' f F → VRels ρ' first Fs → Q (F, Fs) { s with heap := h', toks := tk }) →
    wpAny W.M A (getMethod V name pl) Q E s

theorem VRels.append {ρ : List Addr} {xs ys : List AV} {Xs Ys : List Value} (h : VRels ρ xs Xs) (t : VRels ρ ys Ys) : VRels ρ (xs ++ ys) (Xs ++ Ys) := by
  induction h with
  | nil => exact t
  | cons h _ ih => exact .cons h ih

theorem EvE.meth0 {o : PySem.Expr} {name : Str} {apos : Pos} {first : List AV} (ho : EvE W d fi o vars cl H ov H1) (hg : GetM W ov name H1 f first H2) (hk : Keepr W f H2) (hc : CallV W d f first [] H2 v H3)
    (pl : Env → Sem Bool)
    (he : ∀ env, eval (.Call (.Attribute o name apos) [] [] pos) env = (do
      let ov ← eval o env
      standAt apos.atName
      let (f, first) ← holding [ov] (getMethod ov name (pl env))
      callWith pos f first (backTo pos (starEach [] env)) (backToKw pos (keywordEach [] env))) := by intro _; rfl) :
    EvE W d fi (.Call (.Attribute o name apos) [] [] pos) vars cl H v H3 := by
  intro A env L ρ s Q E rm eo sr fr K
  refine methodCall_KW (he := he env) (ho A env L ρ s _ E rm eo sr fr fun ρ1 V1 h1 t1 p1 v1 => ?_)
  refine hg A ρ1 _ V1 _ _ E rm.zero p1.sr v1 fun ρ2 F Fs h2 t2 p2 vf vfs => ?_
  refine callWith_of (P := fun h => ∃ k, (k = Keeper.frame ∨ k = Keeper.machine ∨ k = Keeper.boundFrame) ∧ Looks W.M h (keeperOf F) k) rfl (fun h p => p) (evalArgs_nil3 ⟨hk ρ2 _ F p2.sr vf, ?_⟩)
  rw [List.append_nil]
  exact hc A ρ2 _ F _ _ _ E rm p2.sr vf vfs .nil fun ρ3 V h3 t3 p3 v3 => K ρ3 V h3 t3 ((p1.trans p2).trans p3) v3

theorem EvE.meth {o x : PySem.Expr} {xs : List PySem.Expr} {name : Str} {apos : Pos} {first : List AV} (ho : EvE W d fi o vars cl H ov H1) (hg : GetM W ov name H1 f first H2) (ha : EvEs W d fi (x :: xs) vars cl H2 vs H3) (hk : Keepr W f H3) (hc : CallV W d f (first ++ vs) [] H3 v H4)
    (pl : Env → Sem Bool)
    (he : ∀ env, eval (.Call (.Attribute o name apos) (x :: xs) [] pos) env = (do
      let ov ← eval o env
      standAt apos.atName
      let (f, first) ← holding [ov] (getMethod ov name (pl env))
      callWith pos f first (backTo pos (starEach (x :: xs) env)) (backToKw pos (keywordEach [] env))) := by intro _; rfl)
    (hs : ∀ env, starEach (x :: xs) env = (false, eval x env) :: starEach xs env := by intro _; rfl) (hpl : ∀ env, (backTo pos (starEach xs env)).any (·.1) = false := by intro _; rfl) :
    EvE W d fi (.Call (.Attribute o name apos) (x :: xs) [] pos) vars cl H v H4 := by
  intro A env L ρ s Q E rm eo sr fr K
  refine methodCall_KW (he := he env) (ho A env L ρ s _ E rm eo sr fr fun ρ1 V1 h1 t1 p1 v1 => ?_)
  refine hg A ρ1 _ V1 _ _ E rm.zero p1.sr v1 fun ρ2 F Fs h2 t2 p2 vf vfs => ?_
  have hp : ((backTo pos (starEach (x :: xs) env)).any (·.1) || (backToKw pos (keywordEach [] env)).any (·.1.isNone)) = false := by
    rw [hs env]; show ((false || (backTo pos (starEach xs env)).any (·.1)) || false) = false; rw [hpl env]; rfl
  refine callWith_of (P := fun h => ∃ k, (k = Keeper.frame ∨ k = Keeper.machine ∨ k = Keeper.boundFrame) ∧ Looks W.M h (keeperOf F) k) hp (fun h p => p) ?_
  have := ha A env L ρ2 { s with heap := h2, toks := t2 } pos (fun vs' s' => (∃ k, (k = Keeper.frame ∨ k = Keeper.machine ∨ k = Keeper.boundFrame) ∧ Looks W.M s'.heap (keeperOf F) k) ∧ wpAny W.M A (PySem.call F (Fs ++ vs') []) Q E s') E rm (p2.env (p1.env eo)) p2.sr (p2.fr (p1.fr fr)) (fun ρ3 Vs h3 t3 p3 v3 => ⟨hk ρ3 _ F p3.sr (p3.vrel vf), ?_⟩)
  · dsimp only
    rw [hs env] at this ⊢
    exact evalArgs_plain this
  · exact hc A ρ3 _ F _ _ _ E rm p3.sr (p3.vrel vf) ((p3.vrels vfs).append v3) .nil fun ρ4 V h4 t4 p4 v4 => K ρ4 V h4 t4 (((p1.trans p2).trans p3).trans p4) v4

theorem GetM.str {x : List Nat} {name : Str} {id : String} (slot : Slot "str" name id) (ty : typeOf (.builtin id) = pure (.type "method_descriptor")) : GetM W (.str x) name H (.bi id) [.str x] H := by
  intro A ρ s V pl Q E rm sr r K
  cases r with
  | str _ t => exact getMethod_builtin (typeIs_str _ _ _) F.plainAttrs_str slot ty (fun _ e => nomatch e) (K ρ _ _ _ s.toks (.refl sr) (.bi id) (.cons (.str x t) .nil))
theorem GetM.list {i : Nat} {xs : List AV} {name : Str} {id : String} (ho : H[i]? = some (.list xs)) (slot : Slot "list" name id) (ty : typeOf (.builtin id) = pure (.type "method_descriptor")) : GetM W (.loc i) name H (.bi id) [.loc i] H := by
  intro A ρ s V pl Q E rm sr r K
  cases r with
  | loc hi =>
    obtain ⟨vs, n, e, q⟩ := sr.obj i _ _ ho hi
    exact getMethod_builtin ⟨_, e, rfl⟩ F.plainAttrs_list slot ty (fun a' ea => by cases ea; exact ⟨_, e, rfl⟩) (K ρ _ _ _ s.toks (.refl sr) (.bi id) (.cons (.loc hi) .nil))

/- statements -/
theorem ExS.expr (h : EvE W d fi e vars cl H v H1) (hi : ∀ env : Env, env.scope.kind = .function → interactive env = false := by intro _ h; simp [interactive, h])
    (hs : ∀ env, swapsWith e Option.none pos.line env = pure false := by intro _; rfl) : ExS W d fi (.Expr e pos) vars cl H .next vars H1 := by
  intro A env L ρ s Q E rm eo sr fr K
  show wpAny W.M A (exec (Stmt.Expr e pos) env) Q E s
  rw [exec_Expr env e pos (hi env eo.kind) (hs env)]
  refine wpAny_bind (wpAny_standAt (wpAny_bind (h A env L ρ s _ E rm eo sr fr fun ρ1 V h1 t1 p1 v1 => ?_)))
  have fin : Q .next { s with heap := h1, toks := t1 } := K ρ1 _ h1 t1 p1.nilw (p1.fr fr) .next
  unfold dropValue
  split
  · exact wpAny_pure fin
  · exact wpAny_bind (wpAny_standAt (wpAny_bind (wpAny_runValue (codeAny_builtin entry_let_go (show wpAny _ _ (PySem.ret .none) _ _ _ from wpAny_pure (wpAny_pure fin))))))
  · exact wpAny_pure fin

theorem eval_Sub {value slice : PySem.Expr} {M : Model} {A : Around} {E : Value → Shared → Prop} {s : Shared} {env : Env} {Q : Value → Shared → Prop}
    (h : wpAny M A (eval value env) (fun o s₁ => wpAny M A (eval slice env) (fun i s₂ => wpAny M A (subscriptTail value slice o i) Q E s₂) E s₁) E s) : wpAny M A (eval (.Subscript value slice pos) env) Q E s := Subscript_ h

/- an item by an index, or a slice: the tail -/
noncomputable def SubV (W : SW) (slice : PySem.Expr) (a b : AV) (H : List AO) (v : AV) (H' : List AO) : Prop :=
  ∀ (value : PySem.Expr), OpV W (fun o i => subscriptTail value slice o i) a b H v H'
theorem EvE.sub {value slice : PySem.Expr} (h1 : EvE W d fi value vars cl H a H1) (h2 : EvE W d fi slice vars cl H1 b H2) (ht : SubV W slice a b H2 v H3) : EvE W d fi (.Subscript value slice pos) vars cl H v H3 := by
  intro A env L ρ s Q E rm eo sr fr K
  refine Subscript_ (h1 A env L ρ s _ E rm eo sr fr fun ρ1 V1 g1 t1 p1 v1 => ?_)
  refine h2 A env L ρ1 _ _ E rm (p1.env eo) p1.sr (p1.fr fr) fun ρ2 V2 g2 t2 p2 v2 => ?_
  exact ht value A ρ2 _ V1 V2 Q E rm.zero p2.sr (p2.vrel v1) v2 fun ρ3 V3 g3 t3 p3 v3 => K ρ3 V3 g3 t3 ((p1.trans p2).trans p3) v3
end Mine

/- part -/
namespace Mine
open PySem.Calls

variable {W : SW} {d : Nat} {fi : FI} {vars vars' vars'' : List (Option AV)} {cl : List Nat} {H H1 H2 H3 H4 : List AO} {a b c v f ov : AV} {e l r : PySem.Expr} {pos : Pos} {vs : List AV}

theorem Post.frX' {X ρ ρ' : List Addr} {H' : List AO} {h h' : Heap} {L : Addr} (x : Post W X ρ ρ' H' h h') (hL : L ∉ X) (r : FR W fi vars ρ h L) : FR W fi vars ρ' h' L := by
  obtain ⟨o, b, m, n, q⟩ := r
  obtain ⟨l, rfl, hl⟩ := x.ext
  obtain ⟨oL, es, ep, e1, e2⟩ := id n
  refine ⟨fun z => ?_, b, m, ⟨oL, es, ep, x.keep _ _ e1 o hL, e2⟩, fun i y v h1 h2 => let ⟨V, e, r⟩ := q i y v h1 h2; ⟨V, e, r.mono⟩⟩
  rcases List.mem_append.mp z with h | h
  · exact o h
  · rw [hl L h] at e1; cases e1

/- while -/
theorem while_unroll {prog : Program} {w : World} {A : Around} {R : Result → Shared → Prop} {s : Shared} {test : PySem.Expr} {body orelse : List Stmt} {env : Env}
    (h : wpAny (model prog w) A (isTrue test env (eval test env)) (fun b s₂ =>
        if b then wpAny (model prog w) A (execs body env) (fun f s₃ => match f with
            | .next | .cont => codeAny (model prog w) A (.whileLoop test body orelse env) R s₃
            | .brk => R (.ok .next) s₃
            | .ret v => R (.ok (.ret v)) s₃) (notedBy (model prog w) A env fun e s' => R (.error e) s') s₂
        else wpAny (model prog w) A (execs orelse env) (fun f s₃ => R (.ok f) s₃) (notedBy (model prog w) A env fun e s' => R (.error e) s') s₂)
        (notedBy (model prog w) A env fun e s' => R (.error e) s') s) : codeAny (model prog w) A (.whileLoop test body orelse env) R s := by
  refine codeAny_of_tree ?_
  show wpAny _ A ((whileTurn test body orelse env).onRaise (fun x => do noteFrame x env; theTreesLotGoes x)) _ _ s
  refine wpAny_noted ?_
  unfold whileTurn
  refine wpAny_bind (wpAny_mono h (fun b s₂ h₂ => ?_) fun _ _ h' => h')
  cases b with
  | false =>
    simp only [Bool.false_eq_true, if_false] at h₂ ⊢
    exact wpAny_bind (wpAny_mono h₂ (fun f s₃ h₃ => wpAny_pure h₃) fun _ _ h' => h')
  | true =>
    simp only [if_true] at h₂ ⊢
    refine wpAny_bind (wpAny_mono h₂ (fun f s₃ h₃ => ?_) fun _ _ h' => h')
    cases f with
    | next => exact wpAny_pure ⟨rfl, h₃⟩
    | cont => exact wpAny_pure ⟨rfl, h₃⟩
    | brk => exact wpAny_pure h₃
    | ret v => exact wpAny_pure h₃

noncomputable def WhC (W : SW) (d : Nat) (fi : FI) (test : PySem.Expr) (body : List Stmt) (vars : List (Option AV)) (cl : List Nat) (H : List AO) (f : AF) (vars' : List (Option AV)) (H' : List AO) : Prop :=
  ∀ (A : Around) (env : Env) (L : Addr) (ρ : List Addr) (s : Shared) (R : Result → Shared → Prop),
    Room d A → EnvOk fi env L ρ cl → SR W ρ H s.heap → FR W fi vars ρ s.heap L →
    (∀ ρ' F h' tk, Post W [L] ρ ρ' H' s.heap h' → FR W fi vars' ρ' h' L → FRel ρ' f F → R (.ok F) { s with heap := h', toks := tk }) →
    codeAny W.M A (.whileLoop test body [] env) R s

theorem WhC.stop {test : PySem.Expr} {body : List Stmt} (ht : IsT W d fi test vars cl H false H1) : WhC W d fi test body vars cl H .next vars H1 := by
  intro A env L ρ s R rm eo sr fr K
  refine while_unroll (ht A env L ρ s _ _ rm eo sr fr fun ρ1 h1 t1 p1 => ?_)
  exact wpAny_execs_nil (K ρ1 _ h1 t1 p1.nilw (p1.fr fr) .next)
theorem WhC.turn {test : PySem.Expr} {body : List Stmt} {f g : AF} (ht : IsT W d fi test vars cl H true H1) (hb : ExB W d fi body vars cl H1 g vars' H2) (hg : g = .next ∨ g = .cont) (hw : WhC W d fi test body vars' cl H2 f vars'' H3) :
    WhC W d fi test body vars cl H f vars'' H3 := by
  intro A env L ρ s R rm eo sr fr K
  refine while_unroll (ht A env L ρ s _ _ rm eo sr fr fun ρ1 h1 t1 p1 => ?_)
  refine hb A env L ρ1 _ _ _ rm (p1.env eo) p1.sr (p1.fr fr) fun ρ2 F h2 t2 p2 f2 v2 => ?_
  have P2 := p1.nilw.transL (p1.fr fr) p2
  have fin := hw A env L ρ2 { s with heap := h2, toks := t2 } R rm (P2.env eo) p2.sr f2 fun ρ3 F h3 t3 p3 f3 v3 => K ρ3 F h3 t3 (P2.transL f2 p3) f3 v3
  rcases hg with rfl | rfl <;> cases v2 <;> exact fin
theorem WhC.ret {test : PySem.Expr} {body : List Stmt} (ht : IsT W d fi test vars cl H true H1) (hb : ExB W d fi body vars cl H1 (.ret v) vars' H2) : WhC W d fi test body vars cl H (.ret v) vars' H2 := by
  intro A env L ρ s R rm eo sr fr K
  refine while_unroll (ht A env L ρ s _ _ rm eo sr fr fun ρ1 h1 t1 p1 => ?_)
  refine hb A env L ρ1 _ _ _ rm (p1.env eo) p1.sr (p1.fr fr) fun ρ2 F h2 t2 p2 f2 v2 => ?_
  cases v2 with
  | ret r => exact K ρ2 _ h2 t2 (p1.nilw.transL (p1.fr fr) p2) f2 (.ret r)
theorem ExS.while {test : PySem.Expr} {body : List Stmt} {f : AF} (h : WhC W d fi test body vars cl H f vars' H1) : ExS W d fi (.While test body [] pos) vars cl H f vars' H1 := by
  intro A env L ρ s Q E rm eo sr fr K
  exact wpAny_While (h A env L ρ s _ rm eo sr fr fun ρ1 F h1 t1 p1 f1 v1 => K ρ1 F h1 t1 p1 f1 v1)

/- iterators -/
inductive It where
  | list (l i : Nat)
  | tup (l i : Nat)
  | rng (x : Int) (n : Nat)
  | chars (cs : List Nat)
  | citer (k : Nat)
noncomputable def It.own : It → Bool
  | .citer _ => false
  | _ => true
noncomputable def ItRel (ρ : List Addr) (h : Heap) (I : Addr) : It → Prop
  | .list l i => ∃ b, ρ[l]? = some b ∧ h.IsListIter I b i
  | .tup l i => ∃ b, ρ[l]? = some b ∧ h.IsTupleIter I b i
  | .rng x n => IsRangeIter h I x n 1
  | .chars cs => ∃ k x t i, (k = "str_ascii_iterator" ∨ k = "str_iterator") ∧ h.IsStrIter I k x t i ∧ x.cps.toList.drop i = cs
  | .citer k => ρ[k]? = some I
structure ItOk (W : SW) (ρ : List Addr) (h : Heap) (I : Addr) (it : It) : Prop where
  rel : ItRel ρ h I it
  out : it.own = true → I ∉ ρ ∧ W.h₀.get? I = none

theorem ItOk.live {ρ : List Addr} {h : Heap} {I : Addr} {it : It} (x : ItOk W ρ h I it) (sr : SR W ρ H h) : ∃ o, h.get? I = some o := by
  cases it with
  | list l i => obtain ⟨b, e, o, r, _⟩ := x.rel; exact ⟨o, r⟩
  | tup l i => obtain ⟨b, e, o, r, _⟩ := x.rel; exact ⟨o, r⟩
  | rng y n => exact ⟨_, x.rel⟩
  | chars cs => obtain ⟨k, y, t, i, _, ⟨o, r, _⟩, _⟩ := x.rel; exact ⟨o, r⟩
  | citer k => exact sr.live (List.mem_of_getElem? x.rel)

theorem ItOk.post {X ρ ρ' : List Addr} {h h' : Heap} {I : Addr} {it : It} (x : ItOk W ρ h I it) (sr : SR W ρ H h) (p : Post W X ρ ρ' H' h h') (hI : I ∉ X) : ItOk W ρ' h' I it := by
  obtain ⟨o, hlive⟩ := x.live sr
  obtain ⟨l, rfl, hl⟩ := p.ext
  have key : ∀ (ho : it.own = true), I ∉ ρ ++ l ∧ W.h₀.get? I = none := fun ho => by
    obtain ⟨h1, h2⟩ := x.out ho
    refine ⟨fun q => ?_, h2⟩
    rcases List.mem_append.mp q with q | q
    · exact h1 q
    · rw [hl I q] at hlive; cases hlive
  have st : ∀ (ho : it.own = true) (o : Obj), h.get? I = some o → h'.get? I = some o := fun ho o e => p.keep _ _ e (x.out ho).1 hI
  cases it with
  | list l i => obtain ⟨b, e, r⟩ := x.rel; exact ⟨⟨b, get_app e, r.at (st rfl)⟩, key⟩
  | tup l i => obtain ⟨b, e, r⟩ := x.rel; exact ⟨⟨b, get_app e, r.at (st rfl)⟩, key⟩
  | rng y n => exact ⟨st rfl _ x.rel, key⟩
  | chars cs => obtain ⟨k, y, t, i, hk, ⟨o, r, r2⟩, hd⟩ := x.rel; exact ⟨⟨k, y, t, i, hk, ⟨o, st rfl _ r, r2⟩, hd⟩, key⟩
  | citer k => exact ⟨get_app x.rel, key⟩

noncomputable def NextV (W : SW) (d : Nat) (it : It) (H : List AO) (r : Option (AV × It)) (H' : List AO) : Prop :=
  ∀ (A : Around) (ρ : List Addr) (s : Shared) (I : Addr) (Q : Option Value → Shared → Prop) (E : Value → Shared → Prop),
    Room d A → SR W ρ H s.heap → ItOk W ρ s.heap I it →
    (∀ ρ' V h' tk, Post W [I] ρ ρ' H' s.heap h' → (match r, V with | none, none => True | some (v, it'), some X => VRel ρ' v X ∧ ItOk W ρ' h' I it' | _, _ => False) → Q V { s with heap := h', toks := tk }) →
    wpAny W.M A (pyNext (.ref I)) Q E s

theorem VRels.get {ρ : List Addr} {vs : List AV} {Vs : List Value} (h : VRels ρ vs Vs) (i : Nat) (v : AV) (hi : vs[i]? = some v) : ∃ V, Vs[i]? = some V ∧ VRel ρ v V := by
  induction h generalizing i with
  | nil => cases hi
  | cons h _ ih =>
    cases i with
    | zero => simp at hi; subst hi; exact ⟨_, rfl, h⟩
    | succ i => simp at hi; simpa using ih i hi
theorem VRels.getNone {ρ : List Addr} {vs : List AV} {Vs : List Value} (h : VRels ρ vs Vs) (i : Nat) (hi : vs[i]? = none) : Vs[i]? = none := by
  have := h.length
  rw [List.getElem?_eq_none_iff] at hi ⊢
  omega

theorem NextV.rngNil {x : Int} : NextV W d (.rng x 0) H Option.none H := by
  intro A ρ s I Q E rm sr io K
  obtain ⟨h1, h2⟩ := io.out rfl
  exact wpAny_pyNext_range_end rm.1 io.rel (by simp) fun h' he => K ρ Option.none h' s.toks (sr.frame h1 h2 he) trivial
theorem NextV.rngCons {x : Int} {n : Nat} : NextV W d (.rng x (n + 1)) H (some (.int x, .rng (x + 1) n)) H := by
  intro A ρ s I Q E rm sr io K
  obtain ⟨h1, h2⟩ := io.out rfl
  refine wpAny_pyNext_range_item io.rel (by omega) fun h' hit hs => ?_
  refine K ρ _ h' _ (sr.frame h1 h2 hs.extBut) ⟨.int _ _, ?_, fun _ => ⟨h1, h2⟩⟩
  rw [show ((n + 1 : Nat) : Int) - 1 = (n : Int) by omega] at hit
  exact hit
theorem NextV.charsNil : NextV W d (.chars []) H Option.none H := by
  intro A ρ s I Q E rm sr io K
  obtain ⟨h1, h2⟩ := io.out rfl
  obtain ⟨k, x, t, i, hk, hit, hd⟩ := io.rel
  have hx : x.cps[i]? = none := by
    rw [← Array.getElem?_toList, List.getElem?_eq_none_iff]; exact List.drop_eq_nil_iff.mp hd
  rcases hk with rfl | rfl
  · exact wpAny_pyNext_ascii_end rm.1 hit hx fun h' he => K ρ Option.none h' s.toks (sr.frame h1 h2 he) trivial
  · exact wpAny_pyNext_wide_end rm.1 hit hx fun h' he => K ρ Option.none h' s.toks (sr.frame h1 h2 he) trivial
theorem NextV.charsCons {c : Nat} {cs : List Nat} : NextV W d (.chars (c :: cs)) H (some (.str [c], .chars cs)) H := by
  intro A ρ s I Q E rm sr io K
  obtain ⟨h1, h2⟩ := io.out rfl
  obtain ⟨k, x, t, i, hk, hit, hd⟩ := io.rel
  have hx : x.cps[i]? = some c := by
    have : (x.cps.toList.drop i)[0]? = some c := by rw [hd]; rfl
    rw [List.getElem?_drop] at this
    rw [← Array.getElem?_toList]; simpa using this
  have hd' : x.cps.toList.drop (i + 1) = cs := by
    rw [← List.drop_drop, hd]; rfl
  rcases hk with rfl | rfl
  · exact wpAny_pyNext_ascii_item hit hx fun h' hit' hs => K ρ _ h' _ (sr.frame h1 h2 hs.extBut) ⟨.str [c] _, ⟨_, _, _, _, .inl rfl, hit', hd'⟩, fun _ => ⟨h1, h2⟩⟩
  · exact wpAny_pyNext_wide_item hit hx fun h' hit' hs => K ρ _ h' _ (sr.frame h1 h2 hs.extBut) ⟨.str [c] _, ⟨_, _, _, _, .inr rfl, hit', hd'⟩, fun _ => ⟨h1, h2⟩⟩
theorem NextV.listCons {l' i : Nat} {xs : List AV} (ho : H[l']? = some (.list xs)) (hx : xs[i]? = some v) : NextV W d (.list l' i) H (some (v, .list l' (i + 1))) H := by
  intro A ρ s I Q E rm sr io K
  obtain ⟨h1, h2⟩ := io.out rfl
  obtain ⟨b, hb, hit⟩ := io.rel
  obtain ⟨vs, n, e, hv⟩ := sr.obj _ _ _ ho hb
  obtain ⟨V, hV, rv⟩ := hv.get i v hx
  exact wpAny_pyNext_list_item hit ⟨_, e, rfl, n, rfl⟩ (by simpa using hV) fun h' hit' hs => K ρ (some V) h' s.toks (sr.frame h1 h2 hs.extBut) ⟨rv, ⟨b, hb, hit'⟩, fun _ => ⟨h1, h2⟩⟩
theorem NextV.listNil {l' i : Nat} {xs : List AV} (ho : H[l']? = some (.list xs)) (hx : xs[i]? = none) : NextV W d (.list l' i) H Option.none H := by
  intro A ρ s I Q E rm sr io K
  obtain ⟨h1, h2⟩ := io.out rfl
  obtain ⟨b, hb, hit⟩ := io.rel
  obtain ⟨vs, n, e, hv⟩ := sr.obj _ _ _ ho hb
  exact wpAny_pyNext_list_end rm.1 hit ⟨_, e, rfl, n, rfl⟩ (by simpa using hv.getNone i hx) fun h' he => K ρ Option.none h' s.toks (sr.frame h1 h2 he) trivial
theorem NextV.tupCons {l' i : Nat} {xs : List AV} (ho : H[l']? = some (.tup xs)) (hx : xs[i]? = some v) : NextV W d (.tup l' i) H (some (v, .tup l' (i + 1))) H := by
  intro A ρ s I Q E rm sr io K
  obtain ⟨h1, h2⟩ := io.out rfl
  obtain ⟨b, hb, hit⟩ := io.rel
  obtain ⟨vs, n, e, hv⟩ := sr.obj _ _ _ ho hb
  obtain ⟨V, hV, rv⟩ := hv.get i v hx
  exact wpAny_pyNext_tuple_item hit ⟨_, e, rfl, n, rfl⟩ (by simpa using hV) fun h' hit' hs => K ρ (some V) h' s.toks (sr.frame h1 h2 hs.extBut) ⟨rv, ⟨b, hb, hit'⟩, fun _ => ⟨h1, h2⟩⟩
theorem NextV.tupNil {l' i : Nat} {xs : List AV} (ho : H[l']? = some (.tup xs)) (hx : xs[i]? = none) : NextV W d (.tup l' i) H Option.none H := by
  intro A ρ s I Q E rm sr io K
  obtain ⟨h1, h2⟩ := io.out rfl
  obtain ⟨b, hb, hit⟩ := io.rel
  obtain ⟨vs, n, e, hv⟩ := sr.obj _ _ _ ho hb
  exact wpAny_pyNext_tuple_end rm.1 hit ⟨_, e, rfl, n, rfl⟩ (by simpa using hv.getNone i hx) fun h' he => K ρ Option.none h' s.toks (sr.frame h1 h2 he) trivial

/- iter(x) -/
noncomputable def IterV (W : SW) (x : AV) (H : List AO) (it : It) : Prop :=
  ∀ (A : Around) (ρ : List Addr) (s : Shared) (V : Value) (Q E : Value → Shared → Prop),
    Room 0 A → SR W ρ H s.heap → VRel ρ x V →
    (∀ I h' tk, Grow s.heap h' → ItOk W ρ h' I it → (s.heap.get? I = none ∨ I ∈ ρ) → Q (.ref I) { s with heap := h', toks := tk }) →
    wpAny W.M A (pyIter V) Q E s

theorem SR.newOut {ρ : List Addr} {h : Heap} (sr : SR W ρ H h) : h.objs.size ∉ ρ ∧ W.h₀.get? h.objs.size = none := by
  refine ⟨fun q => ?_, ?_⟩
  · obtain ⟨o, e⟩ := sr.live q; exact absurd (Heap.lt_size e) (Nat.lt_irrefl _)
  · cases q : W.h₀.get? h.objs.size with
    | none => rfl
    | some o => exact absurd (Heap.lt_size (sr.base _ _ q)) (Nat.lt_irrefl _)

theorem IterV.str {x : List Nat} : IterV W (.str x) H (.chars x) := by
  intro A ρ s V Q E rm sr r K
  cases r with
  | str _ t =>
    cases ha : (⟨x.toArray⟩ : Str).cps.all (· < 128)
    · exact wpAny_pyIter_wide ha (K _ _ s.toks (.push _ _) ⟨⟨"str_iterator", _, t, 0, .inr rfl, ⟨_, Heap.get?_push_size _ rfl, rfl, rfl⟩, by simp⟩, fun _ => sr.newOut⟩ (.inl (noneAt (Nat.le_refl _))))
    · exact wpAny_pyIter_ascii ha (K _ _ s.toks (.push _ _) ⟨⟨"str_ascii_iterator", _, t, 0, .inl rfl, ⟨_, Heap.get?_push_size _ rfl, rfl, rfl⟩, by simp⟩, fun _ => sr.newOut⟩ (.inl (noneAt (Nat.le_refl _))))
theorem IterV.list {i : Nat} {xs : List AV} (ho : H[i]? = some (.list xs)) : IterV W (.loc i) H (.list i 0) := by
  intro A ρ s V Q E rm sr r K
  cases r with
  | loc hi =>
    obtain ⟨vs, n, e, hv⟩ := sr.obj _ _ _ ho hi
    exact wpAny_pyIter_list (items := vs.toArray) ⟨_, e, rfl, n, rfl⟩ (K _ _ s.toks (.push _ _) ⟨⟨_, hi, _, Heap.get?_push_size _ rfl, rfl, rfl⟩, fun _ => sr.newOut⟩ (.inl (noneAt (Nat.le_refl _))))
theorem IterV.tup {i : Nat} {xs : List AV} (ho : H[i]? = some (.tup xs)) : IterV W (.loc i) H (.tup i 0) := by
  intro A ρ s V Q E rm sr r K
  cases r with
  | loc hi =>
    obtain ⟨vs, n, e, hv⟩ := sr.obj _ _ _ ho hi
    exact wpAny_pyIter_tuple (items := vs.toArray) ⟨_, e, rfl, n, rfl⟩ (K _ _ s.toks (.push _ _) ⟨⟨_, hi, _, Heap.get?_push_size _ rfl, rfl, rfl⟩, fun _ => sr.newOut⟩ (.inl (noneAt (Nat.le_refl _))))

theorem rangeSize1 {x y : Int} : Builtin.Range.rangeSize x y 1 = ((y - x).toNat : Int) := by
  unfold Builtin.Range.rangeSize
  simp only [show (1 : Int) > 0 by decide, if_true, Int.ediv_one]
  split <;> omega
theorem range_small {x y : Int} (hx : -2 ^ 62 ≤ x) (hx' : x < 2 ^ 62) (hy : -2 ^ 62 ≤ y) (hy' : y < 2 ^ 62) : Builtin.Range.small x y 1 = true := by
  unfold Builtin.Range.small
  rw [rangeSize1]
  have h : ((y - x).toNat : Int) < 2 ^ 63 := by omega
  simp only [Builtin.Range.rangeFitsLong, Bool.and_eq_true, decide_eq_true_eq, Bool.or_eq_true, show (1 : Int) > 0 by decide, if_true]
  omega
theorem IterV.rng {i : Nat} {x y : Int} (ho : H[i]? = some (.rng x y)) (hx : -2 ^ 62 ≤ x) (hx' : x < 2 ^ 62) (hy : -2 ^ 62 ≤ y) (hy' : y < 2 ^ 62) : IterV W (.loc i) H (.rng x (y - x).toNat) := by
  intro A ρ s V Q E rm sr r K
  cases r with
  | loc hi =>
    obtain ⟨t, u, v, e⟩ := sr.obj _ _ _ ho hi
    refine wpAny_pyIter_range e (range_small hx hx' hy hy') ?_
    rw [rangeSize1]
    exact K _ _ s.toks (.push _ _) ⟨Heap.get?_push_size _ rfl, fun _ => sr.newOut⟩ (.inl (noneAt (Nat.le_refl _)))

/- for -/
theorem for_unroll {prog : Program} {w : World} {A : Around} {R : Result → Shared → Prop} {s : Shared} {target : PySem.Expr} {it : Value} {body : List Stmt} {env : Env}
    (h : wpAny (model prog w) A (pyNext it) (fun r s₁ => match r with
      | none => R (.ok .next) s₁
      | some v => wpAny (model prog w) A (assign target env v) (fun _ s₂ => wpAny (model prog w) A (execs body env) (fun f s₃ => match f with
          | .next | .cont => codeAny (model prog w) A (.forLoop target it body [] env) R s₃
          | .brk => R (.ok .next) s₃
          | .ret v => R (.ok (.ret v)) s₃) (notedBy (model prog w) A env fun e s' => R (.error e) s') s₂) (notedBy (model prog w) A env fun e s' => R (.error e) s') s₁) (notedBy (model prog w) A env fun e s' => R (.error e) s') s)
    (ht : ∀ v, letOwnedTupleGo target it v = pure ()) : codeAny (model prog w) A (.forLoop target it body [] env) R s := by
  refine codeAny_of_tree ?_
  show wpAny _ _ ((forTurn target it body [] env).onRaise (fun x => do noteFrame x env; theTreesLotGoes x)) _ _ s
  refine wpAny_noted ?_
  unfold forTurn
  refine wpAny_bind (wpAny_standAt (wpAny_bind (wpAny_onRaise (wpAny_mono h (fun r s₁ h₁ => ?_) fun _ _ h' => wpAny_standAt h'))))
  cases r with
  | none => exact wpAny_pure ⟨rfl, codeAny_block (wpAny_execs_nil h₁)⟩
  | some v =>
    refine wpAny_bind (wpAny_of_eq (ht v) ?_)
    refine wpAny_bind (wpAny_mono h₁ (fun _ s₂ h₂ => wpAny_bind (wpAny_mono h₂ (fun f s₃ h₃ => ?_) fun _ _ h' => h')) fun _ _ h' => h')
    cases f with
    | next => exact wpAny_pure ⟨rfl, h₃⟩
    | cont => exact wpAny_pure ⟨rfl, h₃⟩
    | brk => exact wpAny_pure h₃
    | ret v => exact wpAny_pure h₃

noncomputable def ForC (W : SW) (d : Nat) (fi : FI) (tgt : PySem.Expr) (body : List Stmt) (vars : List (Option AV)) (cl : List Nat) (H : List AO) (it : It) (f : AF) (vars' : List (Option AV)) (H' : List AO) : Prop :=
  ∀ (A : Around) (env : Env) (L : Addr) (ρ : List Addr) (s : Shared) (I : Addr) (R : Result → Shared → Prop),
    Room d A → EnvOk fi env L ρ cl → SR W ρ H s.heap → FR W fi vars ρ s.heap L → ItOk W ρ s.heap I it → I ≠ L →
    (∀ ρ' F h' tk, Post W [I, L] ρ ρ' H' s.heap h' → FR W fi vars' ρ' h' L → FRel ρ' f F → R (.ok F) { s with heap := h', toks := tk }) →
    codeAny W.M A (.forLoop tgt (.ref I) body [] env) R s

theorem Post.transX2 {X ρ ρ' ρ'' : List Addr} {H' H'' : List AO} {h h' h'' : Heap} {I L : Addr} (x : Post W [I, L] ρ ρ' H' h h') (hI : ∃ o, h'.get? I = some o) (hL : ∃ o, h'.get? L = some o) (y : Post W [I, L] ρ' ρ'' H'' h' h'') : Post W [I, L] ρ ρ'' H'' h h'' :=
  x.transX y fun a ha => by
    rcases List.mem_cons.mp ha with rfl | ha
    · exact hI
    · rw [List.mem_singleton] at ha; subst ha; exact hL
theorem Post.w1 {ρ ρ' : List Addr} {h h' : Heap} {I L : Addr} (x : Post W [I] ρ ρ' H' h h') : Post W [I, L] ρ ρ' H' h h' := x.widen (by simp)
theorem Post.w2 {ρ ρ' : List Addr} {h h' : Heap} {I L : Addr} (x : Post W [L] ρ ρ' H' h h') : Post W [I, L] ρ ρ' H' h h' := x.widen (by simp)

theorem ForC.nil {tgt : PySem.Expr} {body : List Stmt} {it : It} (hn : NextV W d it H Option.none H1) (ht : ∀ it v, letOwnedTupleGo tgt it v = pure () := by intro _ _; rfl) : ForC W d fi tgt body vars cl H it .next vars H1 := by
  intro A env L ρ s I R rm eo sr fr io hIL K
  refine for_unroll (hn A ρ s I _ _ rm sr io fun ρ1 V h1 t1 p1 v1 => ?_) (ht _)
  cases V with
  | none => exact K ρ1 _ h1 t1 p1.w1 (p1.frX' (by simpa using hIL.symm) fr) .next
  | some _ => exact v1.elim

theorem ForC.step {x : Str} {px : Pos} {body : List Stmt} {it it' : It} {f g : AF} (i : Nat) (hn : NextV W d it H (some (v, it')) H1) (hnm : fi.ns[i]? = some x) (hk : fi.kof x = some .local) (hnd : fi.ns.Nodup)
    (hb : ExB W d fi body (vars.set i (some v)) cl H1 g vars' H2)
    (hg : (g = .next ∨ g = .cont) ∧ ForC W d fi (.Name x px) body vars' cl H2 it' f vars'' H3 ∨ ∃ u, g = .ret u ∧ f = .ret u ∧ vars'' = vars' ∧ H3 = H2) :
    ForC W d fi (.Name x px) body vars cl H it f vars'' H3 := by
  intro A env L ρ s I R rm eo sr fr io hIL K
  refine for_unroll (hn A ρ s I _ _ rm sr io fun ρ1 V h1 t1 p1 v1 => ?_) (by intro _; rfl)
  cases V with
  | none => exact v1.elim
  | some V =>
    obtain ⟨rv, io1⟩ := v1
    have f1 := p1.frX' (L := L) (by simpa using hIL.symm) fr
    refine wpAny_assign_Name (store_local hnd hnm hk (p1.env eo) p1.sr f1 rv fun h2 t2 p2 f2 => ?_)
    have io2 := io1.post p1.sr p2 (by simpa using hIL)
    have P2 := (p1.w1 (L := L)).transX2 (X := []) (io1.live p1.sr) f1.live p2.w2
    refine hb A env L ρ1 _ _ _ rm (p1.env eo) p2.sr f2 fun ρ3 F h3 t3 p3 f3 v3 => ?_
    have io3 := io2.post p2.sr p3 (by simpa using hIL)
    have P3 := P2.transX2 (X := []) (io2.live p2.sr) f2.live p3.w2
    rcases hg with ⟨hg, tail⟩ | ⟨u, rfl, rfl, rfl, rfl⟩
    · have fin := tail A env L ρ3 { s with heap := h3, toks := t3 } I R rm (P3.env eo) p3.sr f3 io3 hIL fun ρ4 F h4 t4 p4 f4 v4 => K ρ4 F h4 t4 (P3.transX2 (X := []) (io3.live p3.sr) f3.live p4) f4 v4
      rcases hg with rfl | rfl <;> cases v3 <;> exact fin
    · cases v3 with
      | ret r => exact K ρ3 _ h3 t3 P3 f3 (.ret r)

theorem ExS.for {tgt iter : PySem.Expr} {body : List Stmt} {f : AF} {it : It} (hi : EvE W d fi iter vars cl H a H1) (hv : IterV W a H1 it) (hf : ForC W d fi tgt body vars cl H1 it f vars' H2)
    (hs : ∀ env x, foldedSetIterable iter env x = pure x := by intro _ _; rfl) : ExS W d fi (.For tgt iter body [] pos) vars cl H f vars' H2 := by
  intro A env L ρ s Q E rm eo sr fr K
  refine wpAny_For (hs := hs env) (hi A env L ρ s _ E rm eo sr fr fun ρ1 V1 h1 t1 p1 v1 => ?_)
  have f1 := p1.fr fr
  refine hv A ρ1 _ V1 _ E rm.zero p1.sr v1 fun I h2 t2 g io hI => ?_
  have p2 : Post W [] ρ1 ρ1 H1 h1 h2 := p1.sr.grown g
  have hIL : I ≠ L := fun q => by
    subst q
    rcases hI with hI | hI
    · obtain ⟨o, e⟩ := f1.live
      have e' : h1.get? I = none := hI
      rw [e'] at e; cases e
    · exact f1.out hI
  refine hf A env L ρ1 _ I _ rm (p1.env eo) p2.sr (p2.fr f1) io hIL fun ρ3 F h3 t3 p3 f3 v3 => ?_
  have q3 : Post W [I, L] ρ1 ρ3 H2 h1 h3 := (p2.nilw (Y := [I, L])).transX2 (X := []) (io.live p2.sr) (p2.fr f1).live p3
  have q3' : Post W [L] ρ1 ρ3 H2 h1 h3 := q3.drop hI
  exact K ρ3 F h3 t3 (p1.nilw.transL f1 q3') f3 v3
end Mine

/- part -/
namespace Mine
open PySem.Calls

variable {W : SW} {d : Nat} {fi fi' : FI} {vars vars' vars'' : List (Option AV)} {cl cl' : List Nat} {H H1 H2 H3 H4 : List AO} {a b c v f ov : AV} {e l r elt : PySem.Expr} {pos : Pos} {vs : List AV}

theorem comp_unroll {prog : Program} {w : World} {A : Around} {R : Result → Shared → Prop} {s : Shared} {elt target iter : PySem.Expr} {ifs : List PySem.Expr} {scope : Scope} {it acc : Value} {env : Env}
    (h : wpAny (model prog w) A (pyNext it) (fun r s₁ => match r with
      | none => R (.ok .next) s₁
      | some v => wpAny (model prog w) A (assign target env v) (fun _ s₂ =>
          wpAny (model prog w) A (forIn ifs true fun c r => if r = true then do let ok ← isTrue c env (eval c env); pure (ForInStep.yield ok) else pure (ForInStep.yield r)) (fun ok s₃ =>
            if ok = true then wpAny (model prog w) A (eval elt env) (fun x s₄ =>
              wpAny (model prog w) A (call (.builtin "list.append") [acc, x]) (fun _ s₅ => codeAny (model prog w) A (.compLoop (.ListComp elt [⟨target, iter, ifs, 0⟩] scope pos) 0 it acc env) R s₅) (notedBy (model prog w) A env fun e s' => R (.error e) s') s₄) (notedBy (model prog w) A env fun e s' => R (.error e) s') s₃
            else codeAny (model prog w) A (.compLoop (.ListComp elt [⟨target, iter, ifs, 0⟩] scope pos) 0 it acc env) R s₃) (notedBy (model prog w) A env fun e s' => R (.error e) s') s₂) (notedBy (model prog w) A env fun e s' => R (.error e) s') s₁) (notedBy (model prog w) A env fun e s' => R (.error e) s') s)
    (ht : ∀ v, letOwnedTupleGo target it v = pure ()) :
    codeAny (model prog w) A (.compLoop (.ListComp elt [⟨target, iter, ifs, 0⟩] scope pos) 0 it acc env) R s := by
  refine codeAny_of_tree ?_
  show wpAny _ A ((compTurn (.ListComp elt [⟨target, iter, ifs, 0⟩] scope pos) 0 it acc env).onRaise (fun x => do noteFrame x env; theTreesLotGoes x)) _ _ s
  refine wpAny_noted ?_
  rw [compTurn_list]
  refine wpAny_bind (wpAny_standAt (wpAny_bind (wpAny_mono h (fun r s₁ h₁ => ?_) fun _ _ h' => h')))
  cases r with
  | none => exact wpAny_pure h₁
  | some v =>
    refine wpAny_bind (wpAny_of_eq (ht v) ?_)
    refine wpAny_bind (wpAny_mono h₁ (fun _ s₂ h₂ => wpAny_bind (wpAny_mono h₂ (fun ok s₃ h₃ => ?_) fun _ _ h' => h')) fun _ _ h' => h')
    cases ok with
    | false => exact wpAny_pure ⟨rfl, h₃⟩
    | true =>
      exact wpAny_bind (wpAny_bind (wpAny_mono h₃ (fun x s₄ h₄ => wpAny_bind (wpAny_mono h₄ (fun _ s₅ h₅ => wpAny_pure (wpAny_pure ⟨rfl, h₅⟩)) fun _ _ h' => h')) fun _ _ h' => h'))

/- the tests of a clause -/
noncomputable def TestsV (W : SW) (d : Nat) (fi : FI) (ifs : List PySem.Expr) (vars : List (Option AV)) (cl : List Nat) (H : List AO) (b : Bool) (H' : List AO) : Prop :=
  ∀ (A : Around) (env : Env) (L : Addr) (ρ : List Addr) (s : Shared) (Q : Bool → Shared → Prop) (E : Value → Shared → Prop),
    Room d A → EnvOk fi env L ρ cl → SR W ρ H s.heap → FR W fi vars ρ s.heap L →
    (∀ ρ' h' tk, Post W [] ρ ρ' H' s.heap h' → Q b { s with heap := h', toks := tk }) →
    wpAny W.M A (forIn ifs true fun c r => if r = true then do let ok ← isTrue c env (eval c env); pure (ForInStep.yield ok) else pure (ForInStep.yield r)) Q E s
theorem TestsV.nil : TestsV W d fi [] vars cl H true H := fun A env L ρ s Q E rm eo sr fr K => wpAny_tests_nil (K ρ _ s.toks (.refl sr))
theorem TestsV.one {x : Bool} (h : IsT W d fi e vars cl H x H1) : TestsV W d fi [e] vars cl H x H1 := fun A env L ρ s Q E rm eo sr fr K => wpAny_tests_one (h A env L ρ s Q E rm eo sr fr K)

noncomputable def CompC (W : SW) (d : Nat) (fi : FI) (elt : PySem.Expr) (x : Str) (ifs : List PySem.Expr) (vars : List (Option AV)) (cl : List Nat) (H : List AO) (it : It) (outs fin : List AV) (H' : List AO) : Prop :=
  ∀ (A : Around) (env : Env) (C : Addr) (ρ : List Addr) (s : Shared) (I D : Addr) (Vs : List Value) (px : Pos) (iter : PySem.Expr) (scope : Scope) (pos : Pos) (R : Result → Shared → Prop),
    Room d A → EnvOk fi env C ρ cl → SR W ρ H s.heap → FR W fi vars ρ s.heap C → ItOk W ρ s.heap I it → I ≠ C → s.heap.PlainList D Vs.toArray → VRels ρ outs Vs → D ∉ ρ → W.h₀.get? D = none → D ≠ C → D ≠ I →
    (∀ ρ' h' tk Vs' m, Post W [D, I, C] ρ ρ' H' s.heap h' → h'.Ns C m → C ∉ ρ' → h'.PlainList D Vs'.toArray → VRels ρ' fin Vs' → D ∉ ρ' → R (.ok .next) { s with heap := h', toks := tk }) →
    codeAny W.M A (.compLoop (.ListComp elt [⟨.Name x px, iter, ifs, 0⟩] scope pos) 0 (.ref I) (.ref D) env) R s

theorem PL.at {h h' : Heap} {a : Addr} {items : Array Value} (x : h.PlainList a items) (e : ∀ o, h.get? a = some o → h'.get? a = some o) : h'.PlainList a items := let ⟨n, h1⟩ := x; ⟨n, e _ h1⟩
theorem PL.live {h : Heap} {a : Addr} {items : Array Value} (x : h.PlainList a items) : ∃ o, h.get? a = some o := let ⟨n, h1⟩ := x; ⟨_, h1⟩
theorem Post.outD {X ρ ρ' : List Addr} {h h' : Heap} {D : Addr} (p : Post W X ρ ρ' H' h h') (hl : ∃ o, h.get? D = some o) (hD : D ∉ ρ) : D ∉ ρ' := by
  obtain ⟨l, rfl, hn⟩ := p.ext
  obtain ⟨o, e⟩ := hl
  intro q
  rcases List.mem_append.mp q with q | q
  · exact hD q
  · rw [hn D q] at e; cases e

theorem Post.transX3 {ρ ρ' ρ'' : List Addr} {h h' h'' : Heap} {D I L : Addr} (x : Post W [D, I, L] ρ ρ' H1 h h') (hD : ∃ o, h'.get? D = some o) (hI : ∃ o, h'.get? I = some o) (hL : ∃ o, h'.get? L = some o) (y : Post W [D, I, L] ρ' ρ'' H2 h' h'') : Post W [D, I, L] ρ ρ'' H2 h h'' :=
  x.transX y fun a ha => by
    rcases List.mem_cons.mp ha with rfl | ha
    · exact hD
    · rcases List.mem_cons.mp ha with rfl | ha
      · exact hI
      · rw [List.mem_singleton] at ha; subst ha; exact hL

theorem CompC.nil {x : Str} {ifs : List PySem.Expr} {it : It} {outs : List AV} (hn : NextV W d it H Option.none H1) : CompC W d fi elt x ifs vars cl H it outs outs H1 := by
  intro A env C ρ s I D Vs px iter scope pos R rm eo sr fr io hIC hP hV hD hb hDC hDI K
  refine comp_unroll (hn A ρ s I _ _ rm sr io fun ρ1 V h1 t1 p1 v1 => ?_) (by intro _; rfl)
  cases V with
  | none =>
    have f1 := p1.frX' (L := C) (by simpa using hIC.symm) fr
    obtain ⟨_, _, m, hm, _⟩ := id f1
    exact K ρ1 h1 t1 Vs m (p1.widen (by simp)) hm f1.out (PL.at hP fun o e => p1.keep _ _ e hD (by simpa using hDI)) (p1.vrels hV) (p1.outD (PL.live hP) hD)
  | some _ => exact v1.elim

theorem CompC.skip {x : Str} {ifs : List PySem.Expr} {it it' : It} {outs fin : List AV} (i : Nat) (hn : NextV W d it H (some (v, it')) H1) (hnm : fi.ns[i]? = some x) (hk : fi.kof x = some .local) (hnd : fi.ns.Nodup)
    (ht : TestsV W d fi ifs (vars.set i (some v)) cl H1 false H2) (tl : CompC W d fi elt x ifs (vars.set i (some v)) cl H2 it' outs fin H3) :
    CompC W d fi elt x ifs vars cl H it outs fin H3 := by
  intro A env C ρ s I D Vs px iter scope pos R rm eo sr fr io hIC hP hV hD hb hDC hDI K
  refine comp_unroll (hn A ρ s I _ _ rm sr io fun ρ1 V h1 t1 p1 v1 => ?_) (by intro _; rfl)
  cases V with
  | none => exact v1.elim
  | some V =>
    obtain ⟨rv, io1⟩ := v1
    have f1 := p1.frX' (L := C) (by simpa using hIC.symm) fr
    refine wpAny_assign_Name (store_local hnd hnm hk (p1.env eo) p1.sr f1 rv fun h2 t2 p2 f2 => ?_)
    have io2 := io1.post p1.sr p2 (by simpa using hIC)
    have hP1 : h1.PlainList D Vs.toArray := PL.at hP fun o e => p1.keep _ _ e hD (by simpa using hDI)
    have hD1 := p1.outD (PL.live hP) hD
    have hP2 : h2.PlainList D Vs.toArray := PL.at hP1 fun o e => p2.keep _ _ e hD1 (by simpa using hDC)
    have P2 := (p1.widen (Y := [D, I, C]) (by simp)).transX3 (PL.live hP1) (io1.live p1.sr) f1.live (p2.widen (by simp))
    refine ht A env C ρ1 _ _ _ rm (p1.env eo) p2.sr f2 fun ρ3 h3 t3 p3 => ?_
    have io3 := io2.post p2.sr p3 (by simp)
    have hD2 := p2.outD (PL.live hP1) hD1
    have hP3 : h3.PlainList D Vs.toArray := PL.at hP2 fun o e => p3.keep _ _ e hD2 (by simp)
    have P3 := P2.transX3 (PL.live hP2) (io2.live p2.sr) f2.live (p3.widen (by simp))
    have hD3 := p3.outD (PL.live hP2) hD2
    rw [if_neg (by decide)]
    exact tl A env C ρ3 _ I D Vs px iter scope pos R rm (P3.env eo) p3.sr (p3.fr f2) io3 hIC hP3 (P3.vrels hV) hD3 hb hDC hDI fun ρ4 h4 t4 Vs' m p4 hm hc hp hv hd =>
      K ρ4 h4 t4 Vs' m (P3.transX3 (PL.live hP3) (io3.live p3.sr) (p3.fr f2).live p4) hm hc hp hv hd

theorem CompC.take {x : Str} {ifs : List PySem.Expr} {it it' : It} {outs fin : List AV} (i : Nat) (hn : NextV W d it H (some (v, it')) H1) (hnm : fi.ns[i]? = some x) (hk : fi.kof x = some .local) (hnd : fi.ns.Nodup)
    (ht : TestsV W d fi ifs (vars.set i (some v)) cl H1 true H2) (he : EvE W d fi elt (vars.set i (some v)) cl H2 c H3) (hz : outs.length ≤ sizeLine) (tl : CompC W d fi elt x ifs (vars.set i (some v)) cl H3 it' (outs ++ [c]) fin H4) :
    CompC W d fi elt x ifs vars cl H it outs fin H4 := by
  intro A env C ρ s I D Vs px iter scope pos R rm eo sr fr io hIC hP hV hD hb hDC hDI K
  refine comp_unroll (hn A ρ s I _ _ rm sr io fun ρ1 V h1 t1 p1 v1 => ?_) (by intro _; rfl)
  cases V with
  | none => exact v1.elim
  | some V =>
    obtain ⟨rv, io1⟩ := v1
    have f1 := p1.frX' (L := C) (by simpa using hIC.symm) fr
    refine wpAny_assign_Name (store_local hnd hnm hk (p1.env eo) p1.sr f1 rv fun h2 t2 p2 f2 => ?_)
    have io2 := io1.post p1.sr p2 (by simpa using hIC)
    have hP1 : h1.PlainList D Vs.toArray := PL.at hP fun o e => p1.keep _ _ e hD (by simpa using hDI)
    have hD1 := p1.outD (PL.live hP) hD
    have hP2 : h2.PlainList D Vs.toArray := PL.at hP1 fun o e => p2.keep _ _ e hD1 (by simpa using hDC)
    have P2 := (p1.widen (Y := [D, I, C]) (by simp)).transX3 (PL.live hP1) (io1.live p1.sr) f1.live (p2.widen (by simp))
    refine ht A env C ρ1 _ _ _ rm (p1.env eo) p2.sr f2 fun ρ3 h3 t3 p3 => ?_
    have io3 := io2.post p2.sr p3 (by simp)
    have hD2 := p2.outD (PL.live hP1) hD1
    have hP3 : h3.PlainList D Vs.toArray := PL.at hP2 fun o e => p3.keep _ _ e hD2 (by simp)
    have P3 := P2.transX3 (PL.live hP2) (io2.live p2.sr) f2.live (p3.widen (by simp))
    have hD3 := p3.outD (PL.live hP2) hD2
    rw [if_pos rfl]
    refine he A env C ρ3 _ _ _ rm (P3.env eo) p3.sr (p3.fr f2) fun ρ4 X h4 t4 p4 v4 => ?_
    have io4 := io3.post p3.sr p4 (by simp)
    have hP4 : h4.PlainList D Vs.toArray := PL.at hP3 fun o e => p4.keep _ _ e hD3 (by simp)
    have f4 := p4.fr (p3.fr f2)
    have P4 := P3.transX3 (PL.live hP3) (io3.live p3.sr) (p3.fr f2).live (p4.widen (by simp))
    have hD4 := p4.outD (PL.live hP3) hD3
    have V4 := P4.vrels hV
    refine wpAny_list_append_plain hP4 (fun h5 hP5 hs5 => ?_) (by rw [List.size_toArray, ← hV.length]; exact hz)
    have p5 : Post W [D] ρ4 ρ4 H3 h4 h5 := p4.sr.frame hD4 hb hs5.extBut
    have io5 := io4.post p4.sr p5 (by simpa using hDI.symm)
    have P5 := P4.transX3 (PL.live hP4) (io4.live p4.sr) f4.live (p5.widen (by simp))
    have f5 := p5.frX' (L := C) (by simpa using hDC.symm) f4
    rw [List.push_toArray] at hP5
    exact tl A env C ρ4 _ I D (Vs ++ [X]) px iter scope pos R rm (P5.env eo) p5.sr f5 io5 hIC hP5 (V4.append (.cons v4 .nil)) hD4 hb hDC hDI fun ρ6 h6 t6 Vs' m p6 hm hc hp hv hd =>
      K ρ6 h6 t6 Vs' m (P5.transX3 (PL.live hP5) (io5.live p5.sr) f5.live p6) hm hc hp hv hd

/- the free names of a block -/
noncomputable def freeNames (names : List (Str × NameKind)) : List Str := (names.filter fun x => x.2 == .free).map (·.1)
theorem closureFor_eq {scope : Scope} {env : Env} (g : Str → Addr) (hg : ∀ x ∈ freeNames scope.names, env.cells.lookup x = some (g x)) :
    closureFor scope env = pure ((freeNames scope.names).map fun x => (x, g x)).reverse := by
  have key : ∀ (names : List (Str × NameKind)) (acc : List (Str × Addr)), (∀ x ∈ freeNames names, env.cells.lookup x = some (g x)) →
      (forIn names acc fun (p : Str × NameKind) cs => if (p.2 == NameKind.free) = true then (do let a ← cellOf env p.1; pure (ForInStep.yield ((p.1, a) :: cs))) else (pure (ForInStep.yield cs) : Sem (ForInStep (List (Str × Addr))))) =
        (pure (((freeNames names).map fun x => (x, g x)).reverse ++ acc) : Sem (List (Str × Addr))) := by
    intro names
    induction names with
    | nil => intro acc _; rfl
    | cons p r ih =>
      intro acc h
      obtain ⟨x, k⟩ := p
      rw [List.forIn_cons]
      by_cases hk : (k == NameKind.free) = true
      · have hx : env.cells.lookup x = some (g x) := h x (by unfold freeNames; simp [hk])
        have hr : ∀ y ∈ freeNames r, env.cells.lookup y = some (g y) := fun y hy => h y (by unfold freeNames at hy ⊢; simp only [List.filter_cons, hk, if_true, List.map_cons]; exact List.mem_cons_of_mem _ hy)
        have e1 : cellOf env x = pure (g x) := by unfold cellOf; rw [hx]
        have hk' : k = .free := by simpa using hk
        subst hk'
        simp only [beq_self_eq_true, if_true, e1, pure_bind]
        rw [ih _ hr]
        simp [freeNames]
      · have hr : ∀ y ∈ freeNames r, env.cells.lookup y = some (g y) := fun y hy => h y (by unfold freeNames at hy ⊢; simp only [List.filter_cons, hk, if_false]; exact hy)
        rw [if_neg (show ¬ (((x, k) : Str × NameKind).2 == NameKind.free) = true from hk), pure_bind]
        show forIn r acc _ = _
        rw [ih _ hr]
        simp [freeNames, hk]
  have := key scope.names [] hg
  simp only [List.append_nil] at this
  simp only [closureFor]
  rw [this, pure_bind]

/- the block's kinds of names -/
noncomputable def compNames (names : List (Str × NameKind)) (kof : Str → Option NameKind) : List (Str × NameKind) := names.map fun p => (p.1, if p.2 == .free && kof p.1 == some .cell then .cell else p.2)

theorem lookup_pairs {g : Str → Addr} : ∀ {l : List Str} {x : Str}, x ∈ l → ((l.map fun x => (x, g x)).reverse).lookup x = some (g x) := by
  intro l x hx
  have hm : (x, g x) ∈ (l.map fun x => (x, g x)).reverse := by
    rw [List.mem_reverse]; exact List.mem_map_of_mem (f := fun x => (x, g x)) hx
  cases q : ((l.map fun x => (x, g x)).reverse).lookup x with
  | none =>
    exfalso
    rw [List.lookup_eq_none_iff] at q
    have := q _ hm
    simp at this
  | some a =>
    have := mem_of_lookup q
    rw [List.mem_reverse] at this
    obtain ⟨y, _, e⟩ := List.mem_map.mp this
    cases e; rfl

/- laying the block: what the rules for a comprehension share -/
theorem comp_block {A : Around} {env : Env} {L : Addr} {ρ : List Addr} {s : Shared} {E : Value → Shared → Prop} {x : Str} {px : Pos} {iter : PySem.Expr} {ifs : List PySem.Expr} {scope : Scope} {it : It} {fin : List AV} {use : Option (Value → Sem Unit)} {Q : Value → Shared → Prop} {ns : List Str}
    (hi : EvE W d fi iter vars cl H a H1) (hv : IterV W a H1 it) (hnc : it.own = true)
    (hfi : fi' = ⟨ns, freeNames scope.names, fun x => (compNames scope.names fi.kof).lookup x, fi.qual, fi.code⟩)
    (hfree : ∀ (j : Nat) (y : Str), (freeNames scope.names)[j]? = some y → ∃ (k c : Nat), fi.cs[k]? = some y ∧ cl[k]? = some c ∧ cl'[j]? = some c)
    (hc : CompC W d fi' elt x ifs (ns.map fun _ => Option.none) cl' H1 it [] fin H2)
    (hkind : scope.kind = .function) (hcell : ∀ y ∈ scope.names, y.2 ≠ .cell) (hnames : ∀ y ∈ scope.names, y.2 = .local → scope.names.lookup y.1 = some .local)
    (hs : ∀ env x, foldedSetIterable iter env x = pure x)
    (rm : Room d A) (eo : EnvOk fi env L ρ cl) (sr : SR W ρ H s.heap) (fr : FR W fi vars ρ s.heap L)
    (K : ∀ ρ' D C h' tk m, Post W [] ρ (ρ' ++ [D]) (H2 ++ [.list fin]) s.heap h' → h'.Ns C m → s.heap.get? C = none → C ∉ ρ' ++ [D] → W.h₀.get? C = none → VRel (ρ' ++ [D]) (.loc H2.length) (.ref D) →
      compPost W.M A E use Q (.ref D) C (.ok .next) { s with heap := h', toks := tk }) :
    wpAny W.M A (comprehension (.ListComp elt [⟨.Name x px, iter, ifs, 0⟩] scope pos) scope env (firstIterPos [⟨.Name x px, iter, ifs, 0⟩] pos) (newList []) false (eval iter env) use) Q E s := by
  -- the cells
  have hg : ∃ g : Str → Addr, (∀ y ∈ freeNames scope.names, env.cells.lookup y = some (g y)) ∧ ∀ (j : Nat) (y : Str) (c : Nat), (freeNames scope.names)[j]? = some y → cl'[j]? = some c → ρ[c]? = some (g y) := by
    refine ⟨fun y => (env.cells.lookup y).getD 0, fun y hy => ?_, fun j y c h1 h2 => ?_⟩
    · obtain ⟨j, hj⟩ := List.mem_iff_getElem?.mp hy
      obtain ⟨k, c, h1, h2, h3⟩ := hfree j y hj
      obtain ⟨a', h4, h5⟩ := eo.cell k y c h1 h2
      show _ = some ((env.cells.lookup y).getD 0)
      rw [h5]; rfl
    · obtain ⟨k, c', h3, h4, h5⟩ := hfree j y h1
      rw [h5] at h2; cases h2
      obtain ⟨a', h6, h7⟩ := eo.cell k y c h3 h4
      show _ = some ((env.cells.lookup y).getD 0)
      rw [h6, h7]; rfl
  obtain ⟨g, hg1, hg2⟩ := hg
  refine wpAny_comprehension_free (use := use) rfl (fun x => hs env x) (closureFor_eq g hg1) hkind hnames ?_
  refine hi A env L ρ s _ E rm eo sr fr fun ρ1 V1 h1 t1 p1 v1 => ?_
  refine hv A ρ1 _ V1 _ E rm.zero p1.sr v1 fun I h2 t2 gr io hI => ?_
  have p2 : Post W [] ρ1 ρ1 H1 h1 h2 := p1.sr.grown gr
  refine wpAny_newObj_type (wpAny_newFunctionEnv hcell (by intro y hy; simp at hy) (fun h3 hns3 hsb3 => ?_) hkind)
  dsimp only at hns3 hsb3 ⊢
  generalize hH2 : h2.push { cls := .type "list", dict := Option.none, data := .seq ([] : List Value).toArray } = g2 at hns3 hsb3 ⊢
  have hszC : g2.objs.size = h2.objs.size + 1 := by rw [← hH2, Heap.size_push]
  have hDC : h2.objs.size ≠ g2.objs.size := by rw [hszC]; exact Nat.ne_of_lt (Nat.lt_succ_self _)
  have gr3 : Grow h2 h3 := ⟨fun b o e => hsb3.extBut b o (by rw [hszC]; exact Nat.ne_of_lt (Nat.lt_succ_of_lt (Heap.lt_size e))) (Heap.get?_push_of_some _ (hH2 ▸ Heap.get?_push_of_some _ e))⟩
  have p3 : Post W [] ρ1 ρ1 H1 h2 h3 := p2.sr.grown gr3
  have hacc : h3.PlainList h2.objs.size ([] : List Value).toArray := ⟨0, hsb3.extBut _ _ hDC (Heap.get?_push_of_some _ (hH2 ▸ Heap.get?_push_size _ rfl))⟩
  have nD : h2.get? h2.objs.size = none := noneAt (Nat.le_refl _)
  have nC : h2.get? g2.objs.size = none := noneAt (by rw [hszC]; exact Nat.le_succ _)
  have outOf : ∀ z, h2.get? z = none → z ∉ ρ1 ∧ W.h₀.get? z = none ∧ s.heap.get? z = none := fun z hz => by
    refine ⟨fun q => ?_, ?_, ?_⟩
    · obtain ⟨o, e⟩ := p2.sr.live q; rw [hz] at e; cases e
    · cases q : W.h₀.get? z with
      | none => rfl
      | some o => rw [p2.sr.base _ _ q] at hz; cases hz
    · cases q : s.heap.get? z with
      | none => rfl
      | some o =>
        exfalso
        by_cases hzρ : z ∈ ρ
        · obtain ⟨l', e1, _⟩ := p1.ext
          have : z ∈ ρ1 := by rw [e1]; exact List.mem_append_left _ hzρ
          obtain ⟨o', e⟩ := p2.sr.live this; rw [hz] at e; cases e
        · have := gr.keep _ _ (p1.keep _ _ q hzρ (by simp)); rw [hz] at this; cases this
  obtain ⟨oD1, oD2, oD3⟩ := outOf _ nD
  obtain ⟨oC1, oC2, oC3⟩ := outOf _ nC
  have io3 := io.post p2.sr p3 (by simp)
  have hIlive := io.live p2.sr
  have hIC : I ≠ g2.objs.size := fun q => by obtain ⟨o, e⟩ := hIlive; have e' : h2.get? I = some o := e; rw [q, nC] at e'; cases e'
  have hDI : h2.objs.size ≠ I := fun q => by obtain ⟨o, e⟩ := hIlive; have e' : h2.get? I = some o := e; rw [← q, nD] at e'; cases e'
  have frC : FR W fi' (ns.map fun _ => Option.none) ρ1 h3 g2.objs.size := ⟨oC1, oC2, _, hns3, fun i y v h1 h2 => by
    rw [List.getElem?_map] at h2
    cases q : ns[i]? with
    | none => rw [q] at h2; cases h2
    | some _ => rw [q] at h2; cases h2⟩
  have eoC : ∀ clo, clo = ((freeNames scope.names).map fun x => (x, g x)).reverse →
      EnvOk fi' { scope := relabel scope env, locals := g2.objs.size, globals := env.globals, cells := clo, qual := env.qual, func := Option.none, code := env.code, frame := env.frame, builtins := env.builtins } g2.objs.size ρ1 cl' := by
    rintro _ rfl
    refine ⟨rfl, eo.glb, eo.blt, hkind, fun y => ?_, ?_, ?_, fun j y c h1 h2 => ?_⟩
    · rw [hfi]
      show (relabel scope env).names.lookup y = (compNames scope.names fi.kof).lookup y
      have : (relabel scope env).names = compNames scope.names fi.kof := by
        unfold relabel compNames
        refine List.map_congr_left fun p hp => ?_
        obtain ⟨n, k⟩ := p
        dsimp only
        rw [eo.kind, eo.kof n]
        simp only [beq_self_eq_true, Bool.and_true]
        split <;> rfl
      rw [this]
    · rw [hfi]; exact eo.qual
    · rw [hfi]; exact eo.code
    · rw [hfi] at h1
      have e1 := hg2 j y c h1 h2
      obtain ⟨l', e2, _⟩ := p1.ext
      exact ⟨g y, by rw [e2]; exact get_app e1, lookup_pairs (List.mem_of_getElem? h1)⟩
  have loop : ∀ s₃ : Shared, s₃ = { s with heap := h3, toks := t2 + ([] : List (Str × Value)).length } →
      codeAny W.M A (.compLoop (.ListComp elt [⟨.Name x px, iter, ifs, 0⟩] scope pos) 0 (.ref I) (.ref h2.objs.size) { scope := relabel scope env, locals := g2.objs.size, globals := env.globals, cells := ((freeNames scope.names).map fun x => (x, g x)).reverse, qual := env.qual, func := Option.none, code := env.code, frame := env.frame, builtins := env.builtins })
        (compPost W.M A E use Q (.ref h2.objs.size) g2.objs.size) s₃ := by
    rintro s₃ rfl
    refine hc A _ g2.objs.size ρ1 _ I h2.objs.size [] px iter scope pos _ rm (eoC _ rfl) p3.sr frC io3 hIC hacc .nil oD1 oD2 hDC hDI fun ρ4 h4 t4 Vs' m p4 hm hc4 hp hv4 hd => ?_
    have q4 : Post W [h2.objs.size, I, g2.objs.size] ρ ρ4 H2 s.heap h4 := by
      refine ((p1.trans p2).trans p3).nilw.transX p4 fun z hz => ?_
      rcases List.mem_cons.mp hz with rfl | hz
      · exact PL.live hacc
      · rcases List.mem_cons.mp hz with rfl | hz
        · exact io3.live p3.sr
        · rw [List.mem_singleton] at hz; subst hz; exact frC.live
    have hI' : s.heap.get? I = none ∨ I ∈ ρ := by
      by_cases q : I ∈ ρ
      · exact .inr q
      · left
        cases z : s.heap.get? I with
        | none => rfl
        | some o =>
          exfalso
          have e1 := p1.keep _ _ z q (by simp)
          rcases hI with hI | hI
          · have hI2 : h1.get? I = none := hI
            rw [hI2] at e1; cases e1
          · obtain ⟨l', e2, e3⟩ := p1.ext
            rw [e2] at hI
            rcases List.mem_append.mp hI with hI | hI
            · exact q hI
            · rw [e3 _ hI] at z; cases z
    have q5 : Post W [] ρ ρ4 H2 s.heap h4 := ((q4.drop (.inl oD3)).drop hI').drop (.inl oC3)
    -- the made list is taken in
    obtain ⟨n4, e4⟩ := hp
    have hfresh : SR W (ρ4 ++ [h2.objs.size]) (H2 ++ [.list fin]) h4 := by
      have sr4 := p4.sr
      refine ⟨by simp [sr4.len], ?_, sr4.base, ?_, ?_⟩
      · rw [List.nodup_append]
        refine ⟨sr4.nd, by simp, fun b hb c' hc' e => ?_⟩
        rw [List.mem_singleton] at hc'; subst hc'; subst e; exact hd hb
      · intro i o b h1 h2' h3'
        by_cases hi : i < H2.length
        · rw [List.getElem?_append_left hi] at h1
          rw [List.getElem?_append_left (by rw [sr4.len]; exact hi)] at h2'
          exact sr4.out i o b h1 h2' h3'
        · rw [List.getElem?_append_right (by rw [sr4.len]; omega)] at h2'
          have := List.mem_of_getElem? h2'
          rw [List.mem_singleton] at this; subst this; exact oD2
      · intro i o b h1 h2'
        by_cases hi : i < H2.length
        · rw [List.getElem?_append_left hi] at h1
          rw [List.getElem?_append_left (by rw [sr4.len]; exact hi)] at h2'
          exact (sr4.obj i o b h1 h2').mono
        · rw [List.getElem?_append_right (by omega)] at h1
          rw [List.getElem?_append_right (by rw [sr4.len]; omega)] at h2'
          have e1 := List.mem_of_getElem? h1
          have e2 := List.mem_of_getElem? h2'
          rw [List.mem_singleton] at e1 e2; subst e1; subst e2
          exact ⟨Vs', n4, e4, hv4.mono⟩
    have q6 : Post W [] ρ (ρ4 ++ [h2.objs.size]) (H2 ++ [.list fin]) s.heap h4 := by
      obtain ⟨l', rfl, hl'⟩ := q5.ext
      refine ⟨⟨l' ++ [h2.objs.size], by simp, fun z hz => ?_⟩, hfresh, q5.keep⟩
      rcases List.mem_append.mp hz with hz | hz
      · exact hl' z hz
      · rw [List.mem_singleton] at hz; subst hz; exact oD3
    refine K ρ4 h2.objs.size g2.objs.size h4 t4 m q6 hm oC3 (fun q => ?_) oC2 (p4.sr.newLoc)
    rcases List.mem_append.mp q with q | q
    · exact hc4 q
    · rw [List.mem_singleton] at q; exact hDC q.symm
  refine codeAny_compStart_list (loop _ rfl) ?_
  -- iter of the iterator is itself
  have L := loop _ rfl
  cases it with
  | list l' i => obtain ⟨b', _, hit⟩ := io3.rel; exact wpAny_pyIter_listiter hit L
  | tup l' i => obtain ⟨b', _, hit⟩ := io3.rel; exact wpAny_pyIter_tupleiter hit L
  | rng y n => exact wpAny_pyIter_rangeiter io3.rel L
  | chars cs =>
    obtain ⟨k, y, t, i, hk, hit, _⟩ := io3.rel
    rcases hk with rfl | rfl
    · exact wpAny_pyIter_striter_ascii hit L
    · exact wpAny_pyIter_striter_wide hit L
  | citer k => cases hnc
end Mine

/- part -/
namespace Mine
open PySem.Calls

variable {W : SW} {d : Nat} {fi fi' : FI} {vars vars' vars'' : List (Option AV)} {cl cl' : List Nat} {H H1 H2 H3 H4 : List AO} {a b c v f ov : AV} {e l r elt : PySem.Expr} {pos : Pos} {vs : List AV}

theorem Post.behind {ρ ρ' : List Addr} {h h' h'' : Heap} {C : Addr} (p : Post W [] ρ ρ' H' h h') (hC : h.get? C = none) (hC' : C ∉ ρ') (hb : W.h₀.get? C = none) (hl : ∃ o, h'.get? C = some o) (hs : ∀ b o, b ≠ C → h'.get? b = some o → h''.get? b = some o) : Post W [] ρ ρ' H' h h'' := by
  have q : Post W [C] ρ' ρ' H' h' h'' := p.sr.frame hC' hb hs
  exact ((p.nilw (Y := [C])).transX q (by simpa using hl)).drop (.inl hC)

theorem EvE.comp {x : Str} {px : Pos} {iter : PySem.Expr} {ifs : List PySem.Expr} {scope : Scope} {it : It} {fin : List AV} (ns : List Str) (cl' : List Nat)
    (hi : EvE W d fi iter vars cl H a H1) (hv : IterV W a H1 it)
    (hc : CompC W d ⟨ns, freeNames scope.names, fun x => (compNames scope.names fi.kof).lookup x, fi.qual, fi.code⟩ elt x ifs (ns.map fun _ => Option.none) cl' H1 it [] fin H2)
    (hfree : ∀ (j : Nat) (y : Str), (freeNames scope.names)[j]? = some y → ∃ (k c : Nat), fi.cs[k]? = some y ∧ cl[k]? = some c ∧ cl'[j]? = some c)
    (hnc : it.own = true := by rfl) (hkind : scope.kind = .function := by rfl) (hcell : ∀ y ∈ scope.names, y.2 ≠ .cell := by decide) (hnames : ∀ y ∈ scope.names, y.2 = .local → scope.names.lookup y.1 = some .local := by decide)
    (hs : ∀ env x, foldedSetIterable iter env x = pure x := by intro _ _; rfl) :
    EvE W d fi (.ListComp elt [⟨.Name x px, iter, ifs, 0⟩] scope pos) vars cl H (.loc H2.length) (H2 ++ [.list fin]) := by
  intro A env L ρ s Q E rm eo sr fr K
  rw [eval_ListComp]
  refine comp_block (use := Option.none) (L := L) hi hv hnc rfl hfree hc hkind hcell hnames hs rm eo sr fr fun ρ' D C h' tk m p hm hC hC' hb rv => ?_
  refine ⟨m, hm, fun h'' hs'' => ?_⟩
  obtain ⟨o, es, ep, e1, _⟩ := id hm
  exact K _ _ h'' tk (p.behind hC hC' hb ⟨o, e1⟩ hs''.extBut) rv

theorem swaps_true {elt : PySem.Expr} {gens : List Comprehension} {scope : Scope} {cpos py : Pos} {y : Str} {line : Nat} {env : Env} (hk : env.scope.kind = .function) (hy : env.kindOf y = some .local)
    (h : (py.line == cpos.line && !(scope.names.any fun (n, k) => n == y && (k == .local || k == .cell))) = true) : swapsWith (.ListComp elt gens scope cpos) (some (.Name y py)) line env = pure true := by
  unfold swapsWith
  simp only [Env.blockKind, hk, hy, ScopeKind.isAnnotationScope, Bool.false_eq_true, if_false, beq_self_eq_true, Bool.true_and, Expr.pos]
  rw [h]

theorem ExS.assignComp {x y : Str} {px py cpos : Pos} {iter : PySem.Expr} {ifs : List PySem.Expr} {scope : Scope} {it : It} {fin : List AV} (i : Nat) (ns : List Str) (cl' : List Nat)
    (hi : EvE W d fi iter vars cl H a H1) (hv : IterV W a H1 it)
    (hc : CompC W d ⟨ns, freeNames scope.names, fun x => (compNames scope.names fi.kof).lookup x, fi.qual, fi.code⟩ elt x ifs (ns.map fun _ => Option.none) cl' H1 it [] fin H2)
    (hfree : ∀ (j : Nat) (y : Str), (freeNames scope.names)[j]? = some y → ∃ (k c : Nat), fi.cs[k]? = some y ∧ cl[k]? = some c ∧ cl'[j]? = some c)
    (hn : fi.ns[i]? = some y) (hk : fi.kof y = some .local) (hnd : fi.ns.Nodup) (hline : (py.line == cpos.line && !(scope.names.any fun (n, k) => n == y && (k == .local || k == .cell))) = true)
    (hnc : it.own = true := by rfl) (hkind : scope.kind = .function := by rfl) (hcell : ∀ y ∈ scope.names, y.2 ≠ .cell := by decide) (hnames : ∀ y ∈ scope.names, y.2 = .local → scope.names.lookup y.1 = some .local := by decide)
    (hs : ∀ env x, foldedSetIterable iter env x = pure x := by intro _ _; rfl) :
    ExS W d fi (.Assign [.Name y py] (.ListComp elt [⟨.Name x px, iter, ifs, 0⟩] scope cpos) pos) vars cl H .next (vars.set i (some (.loc H2.length))) (H2 ++ [.list fin]) := by
  intro A env L ρ s Q E rm eo sr fr K
  show wpAny W.M A (exec (.Assign [.Name y py] (.ListComp elt [⟨.Name x px, iter, ifs, 0⟩] scope cpos) pos) env) Q E s
  rw [exec_Assign_Name_used _ _ _ _ (swaps_true eo.kind ((eo.kof y).trans hk) hline)]
  refine wpAny_bind (wpAny_standAt (wpAny_bind ?_))
  show wpAny W.M A (do let _ ← comprehension (.ListComp elt [⟨.Name x px, iter, ifs, 0⟩] scope cpos) scope env (firstIterPos [⟨.Name x px, iter, ifs, 0⟩] cpos) (newList []) false (eval iter env) (some (PySem.assign (.Name y py) env))) _ E s
  refine wpAny_bind (wpAny_mono (Q := fun _ s' => Q .next s') (E := E) ?_ (fun _ s' hq => wpAny_pure (wpAny_pure hq)) fun _ _ e => e)
  refine comp_block (use := some (PySem.assign (.Name y py) env)) (L := L) hi hv hnc rfl hfree hc hkind hcell hnames hs rm eo sr fr fun ρ' D C h' tk m p hm hC hC' hb rv => ?_
  have f1 := p.fr fr
  obtain ⟨o, es, ep, e1, e2⟩ := id hm
  show wpAny W.M A (PySem.assign (.Name y py) env (.ref D)) _ E _
  refine wpAny_assign_Name (store_local hnd hn hk (p.env eo) p.sr f1 rv fun h2 t2 p2 f2 => ?_)
  have hCL : C ≠ L := fun q => by subst q; obtain ⟨o, e⟩ := fr.live; rw [hC] at e; cases e
  have e3 := p2.keep _ _ e1 hC' (by simpa using hCL)
  refine ⟨m, ⟨o, es, ep, e3, e2⟩, fun h'' hs'' => ?_⟩
  have q2 : Post W [C] (ρ' ++ [D]) (ρ' ++ [D]) (H2 ++ [.list fin]) h2 h'' := p2.sr.frame hC' hb hs''.extBut
  have q3 : Post W [L, C] (ρ' ++ [D]) (ρ' ++ [D]) (H2 ++ [.list fin]) h' h'' := (p2.widen (Y := [L, C]) (by simp)).transX (q2.widen (by simp)) (by
    intro z hz
    rcases List.mem_cons.mp hz with rfl | hz
    · exact f2.live
    · rw [List.mem_singleton] at hz; subst hz; exact ⟨_, e3⟩)
  have q4 : Post W [C, L] ρ (ρ' ++ [D]) (H2 ++ [.list fin]) s.heap h'' := (p.nilw (Y := [C, L])).transX (q3.widen (by simp [or_comm])) (by
    intro z hz
    rcases List.mem_cons.mp hz with rfl | hz
    · exact ⟨_, e1⟩
    · rw [List.mem_singleton] at hz; subst hz; exact f1.live)
  have f3 : FR W fi (vars.set i (some (.loc H2.length))) (ρ' ++ [D]) h'' L := q2.frX' (by simpa using hCL.symm) f2
  exact K _ _ h'' t2 (q4.drop (.inl hC)) f3 .next
end Mine

/- part -/
namespace Mine
open PySem.Calls

variable {W : SW} {d : Nat} {fi fi' : FI} {vars vars' vars'' : List (Option AV)} {cl cl' : List Nat} {H H1 H2 H3 H4 : List AO} {a b c v f ov : AV} {e l r elt : PySem.Expr} {pos : Pos} {vs : List AV}

theorem look_of {es : Array DictEntry} {n : Nat} {o : Obj} {x : Str} (hd : o.data = .dict es n) (hk : StrKeys es) : lookIn x o = some (nsFind es x) := by
  unfold lookIn
  rw [hd]
  dsimp only
  unfold nsFind findBy
  rw [← Array.find?_toList]
  cases q : es.toList.find? (fun e => e.key.isStr x) with
  | some e => rfl
  | none =>
    have : es.toList.any (·.refKey) = false := by
      rw [List.any_eq_false]; intro e he; obtain ⟨n, t, h⟩ := hk e (Array.mem_toList_iff.mp he); simp [DictEntry.refKey, h]
    simp only [this]; rfl

structure InstIs (H : List AO) (i C : Nat) (j : Nat) (es : List (Str × AV)) : Prop where
  inst : H[i]? = some (.inst C j)
  dict : H[j]? = some (.idict es)

theorem InstIs.at {ρ : List Addr} {h : Heap} {i C j : Nat} {es : List (Str × AV)} {x : Addr} (I : InstIs H i C j es) (sr : SR W ρ H h) (hx : ρ[i]? = some x) :
    ∃ dx od l n, ρ[j]? = some dx ∧ h.get? dx = some od ∧ od.data = .dict l n ∧ DictIs ρ es l ∧ InstAt h x (instObj C dx) C (some od) := by
  obtain ⟨dx, e1, e2⟩ := sr.obj i _ x I.inst hx
  obtain ⟨od, l, n, e3, e4, e5⟩ := sr.obj j _ dx I.dict e1
  exact ⟨dx, od, l, n, e1, e3, e4, e5, ⟨e2, rfl, rfl, e3⟩⟩
theorem DictIs.some {ρ : List Addr} {es : List (Str × AV)} {l : Array DictEntry} (D : DictIs ρ es l) {x : Str} (h : es.lookup x = some v) : ∃ V, nsFind l x = some V ∧ VRel ρ v V := by
  have := D.2.2 x; rw [h] at this; exact this
theorem DictIs.none {ρ : List Addr} {es : List (Str × AV)} {l : Array DictEntry} (D : DictIs ρ es l) {x : Str} (h : es.lookup x = Option.none) : nsFind l x = Option.none := by
  have := D.2.2 x; rw [h] at this; exact this
theorem handed_of {ρ : List Addr} {V : Value} (h : VRel ρ v V) (hv : ∀ id, v ≠ .bi id) : handedIn V = true := by
  cases h <;> first | rfl | exact absurd rfl (hv _)

/- an attribute's value, got -/
noncomputable def GetA (W : SW) (o : AV) (name : Str) (H : List AO) (v : AV) (H' : List AO) : Prop :=
  ∀ (A : Around) (ρ : List Addr) (s : Shared) (V : Value) (ex : Bool) (Q E : Value → Shared → Prop),
    Room 0 A → SR W ρ H s.heap → VRel ρ o V →
    (∀ ρ' X h' tk, Post W [] ρ ρ' H' s.heap h' → VRel ρ' v X → Q X { s with heap := h', toks := tk }) →
    wpAny W.M A (getAttr V name ex) Q E s

theorem GetA.own {i C j : Nat} {es : List (Str × AV)} {name : Str} {attr : Option Value} (I : InstIs H i C j es) (hl : es.lookup name = some v) (hg : plainGet W.K C name = true) (hh : hasDictIn W.K C = true) (ha : findIn W.K (.ref C) name = some attr)
    (hn : noGet W.K attr = true) (hv : ∀ id, v ≠ .bi id := by intro _ h; cases h) : GetA W (.loc i) name H v H := by
  intro A ρ s V ex Q E rm sr r K
  cases r with
  | loc hx =>
    obtain ⟨dx, od, l, n, e1, e2, e3, e4, e5⟩ := I.at sr hx
    obtain ⟨X, e6, e7⟩ := e4.some hl
    exact get_value (W.kin.keeps sr.base) e5 (plainGet_of hg).1 (findObj_own hh ha hn (by rw [look_of e3 e4.1, e6])) (handed_of e7 hv) (K ρ X _ _ (.refl sr) e7)

theorem GetA.bound {i C j : Nat} {es : List (Str × AV)} {name : Str} {g : Nat} (I : InstIs H i C j es) (hl : es.lookup name = Option.none) (hg : plainGet W.K C name = true) (hh : hasDictIn W.K C = true) (ha : findIn W.K (.ref C) name = some (some (.ref g)))
    (hf : typeIn W.K (.ref g) = some (.type "function")) (hs : specialIn W.K (.ref g) "__get__" = some (some (.builtin "function.__get__"))) (ht : takesIn W.K (.ref g) = some false) (hcp : copiedNames.contains name = false) :
    GetA W (.loc i) name H (.loc H.length) (H ++ [.meth g i]) := by
  intro A ρ s V ex Q E rm sr r K
  cases r with
  | loc hx =>
    obtain ⟨dx, od, l, n, e1, e2, e3, e4, e5⟩ := I.at sr hx
    have e6 := e4.none hl
    have hfo : findObj W.K C (some od) name = some (.bind (.builtin "function.__get__") (.ref g)) := by
      obtain ⟨cd, hc, hd⟩ := any_some hh
      have ho : PySem.W.ownOf cd (some od) name = some Option.none := by unfold PySem.W.ownOf; rw [if_pos hd]; show lookIn name od = _; rw [look_of e3 e4.1, e6]
      unfold findObj
      rw [hc, Option.bind_some, ha, Option.bind_some]
      simp only [hs, Option.bind_some, ht, ho, hcp, Bool.false_and, Bool.false_eq_true, if_false]
    refine get_bind (W.kin.keeps sr.base) e5 (plainGet_of hg).1 hfo (plainGet_of hg).2 (wpAny_call (fn_get (s := { s with toks := s.toks + 1 }) (W.kin.keeps sr.base) hf ?_))
    show wpAny W.M A (handedOut (.ref s.heap.objs.size)) Q E _
    rw [handedOut_of rfl]
    refine wpAny_pure (K _ _ _ _ (sr.alloc (.push _ _) (noneAt (Nat.le_refl _)) ⟨_, get_app hx, Heap.get?_push_size _ rfl⟩) sr.newLoc)

theorem EvE.attr {o : PySem.Expr} {name : Str} (ho : EvE W d fi o vars cl H ov H1) (hg : GetA W ov name H1 v H2)
    (hb : ∀ env, attributeBase o name env (eval o env) = eval o env := by intro _; rfl) : EvE W d fi (.Attribute o name pos) vars cl H v H2 := by
  intro A env L ρ s Q E rm eo sr fr K
  rw [arm_eval_Attribute, hb]
  refine wpAny_bind (ho A env L ρ s _ E rm eo sr fr fun ρ1 V1 h1 t1 p1 v1 => ?_)
  refine wpAny_bind (wpAny_standAt (wpAny_bind (wpAny_holding ?_)))
  refine hg A ρ1 _ V1 _ _ E rm.zero p1.sr v1 fun ρ2 X h2 t2 p2 v2 => ?_
  exact wpAny_bind (wpAny_letTemporaryGo (wpAny_pure (K ρ2 X h2 t2 (p1.trans p2) v2)))

theorem GetM.inst {i C j : Nat} {es : List (Str × AV)} {name : Str} {g : Nat} (I : InstIs H i C j es) (hl : es.lookup name = Option.none) (hg : plainGet W.K C name = true) (ha : findIn W.K (.ref C) name = some (some (.ref g)))
    (hf : typeIn W.K (.ref g) = some (.type "function")) : GetM W (.loc i) name H (.fn g) [.loc i] H := by
  intro A ρ s V pl Q E rm sr r K
  cases r with
  | loc hx =>
    obtain ⟨dx, od, l, n, e1, e2, e3, e4, e5⟩ := I.at sr hx
    exact method_fn (W.kin.keeps sr.base) e5 (plainGet_of hg).1 (plainGet_of hg).2 ha hf (by show (lookIn name od).map _ = _; rw [look_of e3 e4.1, e4.none hl]; rfl) (K ρ _ _ _ s.toks (.refl sr) (.fn g) (.cons (.loc hx) .nil))
theorem GetM.own {i C j : Nat} {es : List (Str × AV)} {name : Str} (I : InstIs H i C j es) (hl : es.lookup name = some v) (hg : plainGet W.K C name = true) (hh : hasDictIn W.K C = true) (ha : findIn W.K (.ref C) name = some Option.none)
    (hv : ∀ id, v ≠ .bi id := by intro _ h; cases h) : GetM W (.loc i) name H v [] H := by
  intro A ρ s V pl Q E rm sr r K
  cases r with
  | loc hx =>
    obtain ⟨dx, od, l, n, e1, e2, e3, e4, e5⟩ := I.at sr hx
    refine method_usual (W.kin.keeps sr.base) e5 (plainGet_of hg).1 (plainGet_of hg).2 ha rfl ?_
    exact GetA.own I hl hg hh ha rfl hv A ρ s _ _ _ E rm sr (.loc hx) fun ρ' X h' tk p rv => K ρ' X [] h' tk p rv .nil

/- an attribute stored -/
noncomputable def aset (es : List (Str × AV)) (x : Str) (v : AV) : List (Str × AV) := match es with
  | [] => [(x, v)]
  | (y, u) :: r => if x = y then (x, v) :: r else (y, u) :: aset r x v
theorem aset_lookup (es : List (Str × AV)) (x y : Str) (v : AV) : (aset es x v).lookup y = if y = x then some v else es.lookup y := by
  induction es with
  | nil =>
    simp only [aset, List.lookup_cons, List.lookup_nil]
    by_cases h : y = x
    · subst h; simp
    · have : (y == x) = false := by simpa using h
      simp [this, h]
  | cons p r ih =>
    obtain ⟨z, u⟩ := p
    unfold aset
    by_cases h : x = z
    · subst h
      simp only [if_true, List.lookup_cons]
      by_cases h2 : y = x
      · subst h2; simp
      · have : (y == x) = false := by simpa using h2
        simp [this, h2]
    · rw [if_neg h, List.lookup_cons, ih, List.lookup_cons]
      by_cases h2 : y = z
      · subst h2
        have : ¬ y = x := fun q => h q.symm
        simp [this]
      · have : (y == z) = false := by simpa using h2
        rw [this]
theorem aset_len (es : List (Str × AV)) (x : Str) (v : AV) : es.length ≤ (aset es x v).length ∧ (es.lookup x = Option.none → (aset es x v).length = es.length + 1) := by
  induction es with
  | nil => simp [aset]
  | cons p r ih =>
    obtain ⟨z, u⟩ := p
    unfold aset
    by_cases h : x = z
    · subst h; simp [List.lookup_cons]
    · have : (x == z) = false := by simpa using h
      rw [if_neg h]
      simp only [List.length_cons, List.lookup_cons, this]
      exact ⟨by have := ih.1; omega, fun q => by rw [ih.2 q]⟩

theorem setA_raw {prog : Program} {w : World} {A : Around} {E : Value → Shared → Prop} {s : Shared} {K : Frag} {x C dx : Addr} {od : Obj} {es : Array DictEntry} {n : Nat} {name : Str} {V : Value} {Q : Unit → Shared → Prop}
    (X : K.In s.heap) (I : InstAt s.heap x (instObj C dx) C (some od)) (hs : findIn K (.ref C) "__setattr__" = some (some (.builtin "object.__setattr__"))) (hp : plainOver K C = true) (ht : takerIn K C name = some Option.none) (hh : hasDictIn K C = true)
    (hD : s.heap.get? dx = some od) (hd : od.data = .dict es n) (hk : StrKeys es) (hz : es.size ≤ 1000)
    (h : ∀ h' o' l' n', h'.get? dx = some o' → o'.data = .dict l' n' → StrKeys l' → (∀ y, nsFind l' y = if y = name then some V else nsFind es y) → l'.size ≤ es.size + 1 → (nsFind es name ≠ Option.none → l'.size = es.size) → Heap.SameBut dx s.heap h' →
      Q () { s with heap := h', toks := s.toks + 2 }) :
    wpAny (model prog w) A (setAttr (.ref x) name V) Q E s := by
  have X' : K.In ({ s with toks := s.toks + 1 } : Shared).heap := X
  refine set_plain X I hs (osa_open (s := { s with toks := s.toks + 1 }) X' I hp ht fun b => ?_)
  obtain ⟨cd, hc, hd'⟩ := any_some hh
  have hx := I.at_
  refine wpAny_bind (wpAny_pure (wpAny_bind (wpAny_bind (wpAny_loadPart hx (wpAny_bind (Looks.here (s := { s with toks := s.toks + 1 }) (looks_clsIn X' hc) ?_))))))
  rw [hd']
  refine wpAny_pure (a := some dx) (wpAny_bind (wpAny_pure (wpAny_bind ?_)))
  unfold nsSet
  refine wpAny_bind (wpAny_bind (wpAny_askSetting (wpAny_pure (wpAny_bind (wpAny_mkText (wpAny_bind (wpAny_loadPart hD ?_)))))))
  rw [hd]
  dsimp only
  have c : (!es.any (·.key.isStr name) && es.any (·.refKey)) = false := by
    have : es.any (·.refKey) = false := by
      rw [Array.any_eq_false']; intro e he; obtain ⟨n, t, h⟩ := hk e he; simp [DictEntry.refKey, h]
    rw [this, Bool.and_false]
  rw [aRefKeyMayBeTheName_at, c]
  refine wpAny_updatePart hD ?_
  obtain ⟨cc, dd, dt, sl⟩ := od
  subst hd
  cases hi : es.findIdx? (·.key.isStr name) with
  | some i =>
    have hlt : i < es.size := (Array.findIdx?_eq_some_iff_findIdx_eq.mp hi).1
    have D' := Heap.get?_update_self (Obj.putName name (PyData.keyHash w.params name) (.str name (s.toks + 1)) V) hD (by simp only [Obj.putName_eq, Obj.putNameByArray, hi]; rfl)
    refine wpAny_bind (wpAny_lookBehind D' (by simp only [Obj.putName_eq, Obj.putNameByArray, hi]; exact pastItsLine_dict (by simp only [Array.size_modify]; rw [sizeLine_eq]; omega)) ?_)
    refine wpAny_pure (h _ _ _ n D' (by simp only [Obj.putName_eq, Obj.putNameByArray, hi] <;> rfl) (hk.modify i V) (fun y => ?_) (by simp) (by simp) (Heap.SameBut.update ..))
    exact findBy_modify (fun n v => v.isStr n) Value.isStr_inj es name y V i hi
  | none =>
    have D' := Heap.get?_update_self (Obj.putName name (PyData.keyHash w.params name) (.str name (s.toks + 1)) V) hD (by simp only [Obj.putName_eq, Obj.putNameByArray, hi]; rfl)
    refine wpAny_bind (wpAny_lookBehind D' (by simp only [Obj.putName_eq, Obj.putNameByArray, hi]; exact pastItsLine_dict (by simp only [Array.size_push]; rw [sizeLine_eq]; omega)) ?_)
    refine wpAny_pure (h _ _ _ (n + 1) D' (by simp only [Obj.putName_eq, Obj.putNameByArray, hi] <;> rfl) (hk.push _ _ _ _) (fun y => ?_) (by simp) (fun q => ?_) (Heap.SameBut.update ..))
    · exact findBy_push (fun n v => v.isStr n) es name y _ _ V (fun y => by
        show (name == y) = decide (y = name)
        by_cases h : y = name
        · subst h; simp
        · have : ¬ name = y := fun e => h e.symm
          simp [h, this]) hi
    · exfalso
      apply q
      unfold nsFind findBy
      rw [show es.find? (fun e => e.key.isStr name) = Option.none from by
        rw [Array.find?_eq_none]; intro e he
        simpa using (Array.findIdx?_eq_none_iff.mp hi) e he]
      rfl

/- what storing an attribute does -/
theorem setA {A : Around} {ρ : List Addr} {s : Shared} {i C j : Nat} {es : List (Str × AV)} {x : Addr} {name : Str} {V : Value} {Q : Unit → Shared → Prop} {E : Value → Shared → Prop}
    (I : InstIs H i C j es) (hs : findIn W.K (.ref C) "__setattr__" = some (some (.builtin "object.__setattr__"))) (hp : plainOver W.K C = true) (ht : takerIn W.K C name = some Option.none) (hh : hasDictIn W.K C = true) (hz : es.length ≤ 1000)
    (sr : SR W ρ H s.heap) (hx : ρ[i]? = some x) (rv : VRel ρ v V) (K : ∀ h' tk, Post W [] ρ ρ (H.set j (.idict (aset es name v))) s.heap h' → Q () { s with heap := h', toks := tk }) :
    wpAny W.M A (setAttr (.ref x) name V) Q E s := by
  obtain ⟨dx, od, l, n, e1, e2, e3, e4, e5⟩ := I.at sr hx
  refine setA_raw (W.kin.keeps sr.base) e5 hs hp ht hh e2 e3 e4.1 (Nat.le_trans e4.2.1 hz) fun h' o' l' n' q1 q2 q3 q4 q5 q6 q7 => ?_
  refine K h' _ (sr.set I.dict e1 rfl q7.extBut ⟨o', l', n', q1, q2, q3, ?_, fun y => ?_⟩)
  · have h1 := aset_len es name v
    cases q : es.lookup name with
    | none => rw [h1.2 q]; have := e4.2.1; omega
    | some u =>
      obtain ⟨U, e6, _⟩ := e4.some q
      rw [q6 (by rw [e6]; exact Option.some_ne_none _)]
      exact Nat.le_trans e4.2.1 h1.1
  · rw [aset_lookup, q4 y]
    by_cases h : y = name
    · subst h; simp only [if_true]; exact ⟨V, rfl, rv⟩
    · rw [if_neg h, if_neg h]; exact e4.2.2 y

theorem ExS.assignAttr {o : PySem.Expr} {name : Str} {apos : Pos} {i C j : Nat} {es : List (Str × AV)} (hv : EvE W d fi e vars cl H v H1) (ho : EvE W d fi o vars cl H1 (.loc i) H2) (I : InstIs H2 i C j es)
    (hs : findIn W.K (.ref C) "__setattr__" = some (some (.builtin "object.__setattr__"))) (hp : plainOver W.K C = true) (ht : takerIn W.K C name = some Option.none) (hh : hasDictIn W.K C = true) (hz : es.length ≤ 1000)
    (hsw : ∀ env, swapsWith e (some (.Attribute o name apos)) pos.line env = pure false := by intro _; rfl) :
    ExS W d fi (.Assign [.Attribute o name apos] e pos) vars cl H .next vars (H2.set j (.idict (aset es name v))) := by
  intro A env L ρ s Q E rm eo sr fr K
  refine plainObj_wpAny_Assign_Attribute (hs := hsw env) (hv A env L ρ s _ E rm eo sr fr fun ρ1 V1 h1 t1 p1 v1 => ?_)
  refine ho A env L ρ1 _ _ E rm (p1.env eo) p1.sr (p1.fr fr) fun ρ2 O h2 t2 p2 v2 => ?_
  cases v2 with
  | loc hx =>
    refine setA I hs hp ht hh hz p2.sr hx (p2.vrel v1) fun h3 t3 p3 => ?_
    have P := (p1.trans p2).trans p3
    exact K ρ2 _ h3 t3 P.nilw (P.fr fr) .next

theorem ExS.augAttr {o : PySem.Expr} {name : Str} {apos : Pos} {op : Operator} {i C j : Nat} {es : List (Str × AV)} (ho : EvE W d fi o vars cl H (.loc i) H1) (hg : GetA W (.loc i) name H1 a H2) (hv : EvE W d fi e vars cl H2 b H3) (hop : OpV W (inplaceOp op) a b H3 v H4) (I : InstIs H4 i C j es)
    (hs : findIn W.K (.ref C) "__setattr__" = some (some (.builtin "object.__setattr__"))) (hp : plainOver W.K C = true) (ht : takerIn W.K C name = some Option.none) (hh : hasDictIn W.K C = true) (hz : es.length ≤ 1000) :
    ExS W d fi (.AugAssign (.Attribute o name apos) op e pos) vars cl H .next vars (H4.set j (.idict (aset es name v))) := by
  intro A env L ρ s Q E rm eo sr fr K
  refine wpAny_AugAssign_AttributeAny (ho A env L ρ s _ E rm eo sr fr fun ρ1 V1 h1 t1 p1 v1 => ?_)
  refine hg A ρ1 _ V1 _ _ E rm.zero p1.sr v1 fun ρ2 X h2 t2 p2 v2 => ?_
  have P2 := p1.trans p2
  refine hv A env L ρ2 _ _ E rm (P2.env eo) p2.sr (P2.fr fr) fun ρ3 Y h3 t3 p3 v3 => ?_
  refine hop A ρ3 _ X Y _ E rm.zero p3.sr (p3.vrel v2) v3 fun ρ4 Z h4 t4 p4 v4 => ?_
  have P4 := (P2.trans p3).trans p4
  cases p4.vrel (p3.vrel (p2.vrel v1)) with
  | loc hx =>
    refine setA I hs hp ht hh hz p4.sr hx v4 fun h5 t5 p5 => ?_
    have P := P4.trans p5
    exact K ρ4 _ h5 t5 P.nilw (P.fr fr) .next
end Mine

/- part -/
namespace Mine
open PySem.Calls

variable {W : SW} {d : Nat} {fi fi' : FI} {vars vars' vars'' : List (Option AV)} {cl cl' : List Nat} {H H1 H2 H3 H4 : List AO} {a b c v f ov : AV} {e l r elt : PySem.Expr} {pos : Pos} {vs : List AV}

/- methods, instances -/
theorem CodeV.meth {i g sl : Nat} {args : List AV} {kw : List (Str × AV)} (ho : H[i]? = some (.meth g sl)) (h : CodeV W d (.fn g) (.loc sl :: args) kw H v H') : CodeV W d (.loc i) args kw H v H' := by
  intro A ρ s F As Ks R rm sr hF hA hK K
  cases hF with
  | loc hi =>
    obtain ⟨b, e1, e2⟩ := sr.obj i _ _ ho hi
    exact method_call e2 (h A ρ s _ _ Ks R rm sr (.fn g) (.cons (.loc e1) hA) hK K)

theorem CodeV.make {C fI : Nat} {args : List AV} (hm : makesIn W.K C = true) (hi : findIn W.K (.ref C) "__init__" = some (some (.ref fI))) (hf : typeIn W.K (.ref fI) = some (.type "function"))
    (h : CodeV W d (.fn fI) (.loc (H.length + 1) :: args) [] (H ++ [.idict []] ++ [.inst C H.length]) .none H') : CodeV W (d + 1) (.fn C) args [] H (.loc (H.length + 1)) H' := by
  intro A ρ s F As Ks R rm sr hF hA hK K
  cases hF
  cases hK
  obtain ⟨hh, g, dr, t, os⟩ := s
  dsimp only at sr K
  have X := W.kin.keeps sr.base
  have p1 : Post W [] ρ (ρ ++ [hh.objs.size]) (H ++ [.idict []]) hh (hh.push emptyDict) := sr.alloc (.push _ _) (noneAt (Nat.le_refl _))
    ⟨_, #[], 0, Heap.get?_push_size _ rfl, rfl, (fun e he => by simp at he), Nat.le_refl _, fun x => by simp only [List.lookup_nil]; rfl⟩
  have e1 : (ρ ++ [hh.objs.size])[H.length]? = some hh.objs.size := by rw [← sr.len, List.getElem?_append_right (Nat.le_refl _), Nat.sub_self]; rfl
  have p2 : Post W [] (ρ ++ [hh.objs.size]) (ρ ++ [hh.objs.size] ++ [(hh.push emptyDict).objs.size]) (H ++ [.idict []] ++ [.inst C H.length]) (hh.push emptyDict) ((hh.push emptyDict).push (instObj C hh.objs.size)) :=
    p1.sr.alloc (.push _ _) (noneAt (Nat.le_refl _)) ⟨_, get_app e1, Heap.get?_push_size _ rfl⟩
  have e2 : (ρ ++ [hh.objs.size] ++ [(hh.push emptyDict).objs.size])[H.length + 1]? = some (hh.objs.size + 1) := by
    rw [List.getElem?_append_right (by simp [sr.len]), Heap.size_push]; simp [sr.len]
  have P := p1.trans p2
  refine make_core (makes_of X hm) (looks_findIn X hi) (fun self => bind_fn X self hf) (.inl rfl) ?_
  refine h _ _ ⟨(hh.push emptyDict).push (instObj C hh.objs.size), g, dr, t, os⟩ _ _ [] _ ⟨rm.1, ?_, ?_⟩ p2.sr (.fn fI) (.cons (.loc e2) (P.vrels hA)) .nil fun ρ' V h' tk p r => ?_
  · have := rm.2.1; show A.depth + 1 + _ ≤ _; omega
  · have := rm.2.2; show A.units + 1 + _ ≤ _; omega
  · cases r
    exact ⟨rfl, K ρ' _ h' tk (P.trans p) (p.vrel (.loc e2))⟩

/- iter(f, sentinel) -/
theorem iter_args2 (a b : Value) : argsOk "iter" ⟨[a, b], []⟩ := by unfold argsOk; kernel_rfl
theorem CallV.iter2 {m g sl : Nat} {sent : List Nat} (ho : H[m]? = some (.meth g sl)) : CallV W d (.bi "iter") [.loc m, .str sent] [] H (.loc H.length) (H ++ [.citer m sent]) := by
  intro A ρ s F As Ks Q E rm sr hF hA hK K
  cases hF
  cases hK
  cases hA with
  | cons h1 h2 =>
    cases h2 with
    | cons h2 h3 =>
      cases h3
      cases h1 with
      | loc hm =>
        cases h2 with
        | str _ t =>
          obtain ⟨b, e1, e2⟩ := sr.obj m _ _ ho hm
          refine call_function_entry (by decide +kernel) (by decide +kernel) kdk_entry_iter (iter_args2 _ _) ?_
          unfold Builtin.«iter»
          refine wpAny_bind (m := someArgs "iter" 1 2 _) (wpAny_of_eq (a := [_, _]) (by first | rfl | kernel_rfl!) ?_)
          dsimp only
          refine wpAny_bind (wpAny_specialOf (T := "method") (name := Str.ofString "__call__") (r := some (.builtin "method.__call__")) ⟨_, e2, rfl⟩ (by rw [typeLookup_type, builtinLookup_eq_fast]; kernel_rfl) ?_)
          dsimp only [Option.isNone_some]
          rw [if_neg (by decide)]
          refine wpAny_bind (wpAny_rule (wpAny_bind (wpAny_newObj_type ?_ (by size_fits))))
          refine wpAny_pure ⟨_, rfl, ?_⟩
          exact K _ _ _ _ (sr.alloc (.push _ _) (noneAt (Nat.le_refl _)) ⟨_, t, get_app hm, Heap.get?_push_size _ rfl⟩) sr.newLoc

theorem ci_next : Slot "callable_iterator" "__next__" "callable_iterator.__next__" :=
  .of (owner := "callable_iterator") (n := "__next__") (by rw [typeLookup_type, builtinLookup_eq_fast]; kernel_rfl) (by decide +kernel) (by decide +kernel) (by decide +kernel)
    (by first | exact .inl (by decide +kernel) | exact .inr (by decide +kernel)) (by rw [isSubtype_type]; kernel_rfl)
theorem ci_iter : Slot "callable_iterator" "__iter__" "callable_iterator.__iter__" :=
  .of (owner := "callable_iterator") (n := "__iter__") (by rw [typeLookup_type, builtinLookup_eq_fast]; kernel_rfl) (by decide +kernel) (by decide +kernel) (by decide +kernel)
    (by first | exact .inl (by decide +kernel) | exact .inr (by decide +kernel)) (by rw [isSubtype_type]; kernel_rfl)
theorem ci_entry : entryFor table "callable_iterator.__next__" = some Builtin.«callable_iterator.__next__» := entryFor_of_tree (by kernel_rfl)
theorem ci_entry_iter : entryFor table "callable_iterator.__iter__" = some Builtin.«dict_keyiterator.__iter__» :=
  entryFor_alias (id' := "dict_keyiterator.__iter__") (by rw [fastTable_eq_tree]; kernel_rfl) rfl (by decide +kernel) (by rw [fastTable_eq_tree]; kernel_rfl)
theorem ci_args (a : Value) : argsOk "callable_iterator.__next__" ⟨[a], []⟩ := by unfold argsOk; kernel_rfl
theorem ci_args_iter (a : Value) : argsOk "callable_iterator.__iter__" ⟨[a], []⟩ := by unfold argsOk; kernel_rfl

theorem wpAny_callBorrowed {M : Model} {A : Around} {E : Value → Shared → Prop} {s : Shared} {f : Value} {pos : List Value} {Q : Value → Shared → Prop}
    (hc : codeAny M A (.call f ⟨pos, []⟩) (fun r s' => match r with | .ok (.ret v) => Q v s' | .ok _ => False | .error e => E e s') s) : wpAny M A (callBorrowed f pos) Q E s := fun Γ p hΓ => by
  unfold callBorrowed
  rw [Sem.wp_call]
  refine wpCode_mono (fun r s' h => ?_) (hc _ p rfl (hΓ.enter _ none p (by intro x; cases x)))
  rcases r with e | (v | _ | _ | _)
  · simpa [Sem.wp] using h
  all_goals first | exact h.elim | simpa [Sem.wp] using h

theorem IterV.citer {k m : Nat} {sent : List Nat} (ho : H[k]? = some (.citer m sent)) : IterV W (.loc k) H (.citer k) := by
  intro A ρ s V Q E rm sr r K
  cases r with
  | loc hi =>
    obtain ⟨F, t, e1, e2⟩ := sr.obj k _ _ ho hi
    refine wpAny_pyIter_slot (T := "callable_iterator") ⟨_, e2, rfl⟩ ci_iter (wpAny_call_entry ci_iter ⟨_, e2, rfl⟩ ci_entry_iter ?_ (ci_args_iter _))
    show wpAny _ _ (ret (.ref _)) _ _ s
    exact wpAny_pure ⟨_, rfl, "callable_iterator", _, ⟨_, e2, rfl⟩, ci_next.lookup, K _ _ s.toks (.refl _) ⟨hi, fun h => by cases h⟩ (.inr (List.mem_of_getElem? hi))⟩

theorem borrows_meth {M : Model} {A : Around} {E : Value → Shared → Prop} {s : Shared} {F b : Addr} {g : Nat} {Q : Bool → Shared → Prop} {K : Frag} (X : K.In s.heap) (e : s.heap.get? F = some (methodObj (.ref g) (.ref b))) (hf : fnIn K g = true) (h : Q true s) :
    wpAny M A (borrowsExactly (.ref F)) Q E s := by
  unfold borrowsExactly
  refine wpAny_bind (wpAny_load e ?_)
  dsimp only [methodObj]
  rw [if_pos (by rfl)]
  show wpAny M A (do match (← load g).data with | .func _ => pure true | _ => pure false) Q E s
  unfold fnIn at hf
  split at hf
  · rename_i hk
    exact wpAny_bind (wpAny_load (X _ _ hk) (wpAny_pure h))
  · cases hf


theorem NextV.citer {k m sl g : Nat} {sent x : List Nat} (ho : H[k]? = some (.citer m sent)) (hm : H[m]? = some (.meth g sl)) (hg : fnIn W.K g = true) (hc : CodeV W d (.fn g) [.loc sl] [] H (.str x) H1) (ho1 : H1[k]? = some (.citer m sent)) (hm1 : H1[m]? = some (.meth g sl)) :
    NextV W (d + 1) (.citer k) H (if x = sent then Option.none else some (.str x, .citer k)) (if x = sent then H1.set k .dead else H1) := by
  intro A ρ s I Q E rm sr io K
  have hI : ρ[k]? = some I := io.rel
  obtain ⟨F, t, e1, e2⟩ := sr.obj k _ _ ho hI
  obtain ⟨b, e3, e4⟩ := sr.obj m _ _ hm e1
  unfold pyNext
  refine wpAny_bind (wpAny_attempt ?_)
  refine wpAny_callSpecial?_slot (T := "callable_iterator") (name := Str.ofString "__next__") ⟨_, e2, rfl⟩ ci_next (wpAny_call_entry ci_next ⟨_, e2, rfl⟩ ci_entry ?_ (ci_args _))
  show wpAny _ _ (field (.ref I) 2 >>= _) _ _ s
  refine wpAny_bind (wpAny_field e2 rfl (x := .bool false) rfl ?_)
  rw [if_neg (by decide)]
  refine wpAny_bind (wpAny_field e2 rfl (x := .ref F) rfl ?_)
  refine wpAny_bind (wpAny_attempt ?_)
  unfold callOutOfASlot
  refine wpAny_bind (borrows_meth (W.kin.keeps sr.base) e4 hg ?_)
  rw [if_pos rfl]
  refine wpAny_callBorrowed (method_call e4 (hc _ ρ s _ _ [] _ rm.in1 sr (.fn g) (.cons (.loc e3) .nil) .nil fun ρ1 V h1 t1 p1 v1 => ?_))
  dsimp only
  have sr1 := p1.sr
  obtain ⟨F1, t', e1', e2'⟩ := sr1.obj k _ _ ho1 (p1.get hI)
  obtain ⟨b', e3', e4'⟩ := sr1.obj m _ _ hm1 e1'
  have e2'' : ({ s with heap := h1, toks := t1 } : Shared).heap.get? I = _ := e2'
  have e4'' : ({ s with heap := h1, toks := t1 } : Shared).heap.get? F1 = _ := e4'
  refine wpAny_bind (wpAny_field e2'' rfl (x := .bool false) rfl ?_)
  rw [if_neg (by decide)]
  refine wpAny_bind (wpAny_field e2'' rfl (x := .str ⟨sent.toArray⟩ t') rfl ?_)
  cases v1 with
  | str _ tx =>
    refine wpAny_bind (wpAny_holding (wpAny_eqBool_str ?_))
    by_cases hx : x = sent
    · subst hx
      simp only [if_true] at K
      rw [if_neg (by simp)]
      refine wpAny_bind (wpAny_rule (wpAny_bind ?_))
      change wpAny _ _ (do slotLetsGo "callable_iterator.__next__" (← field (.ref I) 0) _; setField (.ref I) 0 .none; setField (.ref I) 1 .none; setField (.ref I) 2 (.bool true)) _ _ _
      refine wpAny_bind (wpAny_field e2'' rfl (x := .ref F1) rfl (wpAny_bind ?_))
      unfold slotLetsGo
      dsimp only
      refine wpAny_bind (borrows_meth (W.kin.keeps sr1.base) e4'' hg ?_)
      rw [if_pos rfl]
      refine wpAny_pure ?_
      refine wpAny_bind (wpAny_setField e2'' rfl (by simp) ?_)
      have g1 := Heap.get?_update_self (Obj.mapFields (·.setIfInBounds 0 Value.none)) e2'' (Obj.isFreed_of_fields (Obj.data_mapFields rfl _))
      refine wpAny_bind (wpAny_setField g1 (Obj.data_mapFields rfl _) (by simp) ?_)
      have g2 := Heap.get?_update_self (Obj.mapFields (·.setIfInBounds 1 Value.none)) g1 (Obj.isFreed_of_fields (Obj.data_mapFields (Obj.data_mapFields rfl _) _))
      refine wpAny_setField g2 (Obj.data_mapFields (Obj.data_mapFields rfl _) _) (by simp) ?_
      have g3 := Heap.get?_update_self (Obj.mapFields (·.setIfInBounds 2 (Value.bool true))) g2 (Obj.isFreed_of_fields (Obj.data_mapFields (Obj.data_mapFields (Obj.data_mapFields rfl _) _) _))
      generalize hfin : ((({ s with heap := h1, toks := t1 } : Shared).heap.update I (Obj.mapFields (·.setIfInBounds 0 Value.none))).update I (Obj.mapFields (·.setIfInBounds 1 Value.none))).update I (Obj.mapFields (·.setIfInBounds 2 (Value.bool true))) = hF at g3 ⊢
      have hsb : Heap.ExtBut I h1 hF := by
        rw [← hfin]
        exact fun b o hb e => (Heap.SameBut.update ..).extBut b o hb ((Heap.SameBut.update ..).extBut b o hb ((Heap.SameBut.update ..).extBut b o hb e))
      show wpAny _ _ (newExc (.type "StopIteration") [] >>= _) _ _ _
      refine wpAny_bind ?_
      simp only [newExc, newTuple]
      refine wpAny_bind (wpAny_newObj_type ?_ (by size_fits))
      refine wpAny_bind (m := firstArgMember _ _) (wpAny_of_eq (a := Value.none) (by first | rfl | (simp only [firstArgMember]; rfl)) ?_)
      refine wpAny_newObj_type ?_ (by size_fits)
      simp only [raiseNew]
      refine wpAny_bind (wpAny_handled ?_)
      rw [show A.in1.handled = Option.none from rm.1]
      refine wpAny_bind (wpAny_pure (wpAny_throw ?_))
      refine wpAny_bind (wpAny_isInstance (T := "StopIteration") (b := true) ⟨_, Heap.get?_push_size _ rfl, rfl⟩ isSubtype_stop ?_)
      refine wpAny_pure ?_
      refine K ρ1 Option.none _ t1 (p1.trans (sr1.set ho1 (p1.get hI) rfl ?_ ?_)).nilw trivial
      · exact fun b o hb e => ((hsb.push _).push _) b o hb e
      · exact ⟨_, Heap.get?_push_of_some _ (Heap.get?_push_of_some _ g3)⟩
    · simp only [if_neg hx] at K
      rw [if_pos (by
        have : ¬ (⟨sent.toArray⟩ : Str) = ⟨x.toArray⟩ := fun q => hx (by injection q with q; simpa using congrArg Array.toList q.symm)
        simp [this])]
      refine wpAny_pure ⟨_, rfl, wpAny_pure (K ρ1 (some _) h1 t1 p1.nilw ⟨.str x tx, p1.get hI, fun h => by cases h⟩)⟩
end Mine

/- part -/
namespace Mine
open PySem.Calls

variable {W : SW} {d : Nat} {fi fi' : FI} {vars vars' vars'' : List (Option AV)} {cl cl' : List Nat} {H H1 H2 H3 H4 : List AO} {a b c v f ov : AV} {e l r elt : PySem.Expr} {pos : Pos} {vs : List AV}

/- lambdas -/
noncomputable def tabFind (es : List (Nat × Nat × Nat)) (l c : Nat) : Option Nat := (es.find? fun e => e.1 == l && e.2.1 == c).map (·.2.2)

theorem tab_triples {ρ : List Addr} : ∀ {es : List (Nat × Nat × Nat)} {vs : List Value}, tabVals ρ es vs → TriplesOk vs
  | [], _, h => by cases h; trivial
  | (_, _, _) :: _, _, ⟨a, t, h1, h2, h3⟩ => by subst h2; show TriplesOk t; exact tab_triples h3
theorem tab_among {ρ : List Addr} {pos : Pos} : ∀ {es : List (Nat × Nat × Nat)} {vs : List Value}, tabVals ρ es vs →
    (tabFind es pos.line pos.col = none ∧ codeAmong pos vs = none) ∨ ∃ j a, tabFind es pos.line pos.col = some j ∧ ρ[j]? = some a ∧ codeAmong pos vs = some (.ref a)
  | [], _, h => by cases h; exact .inl ⟨rfl, rfl⟩
  | (l, c, j) :: es, _, ⟨a, t, h1, h2, h3⟩ => by
    subst h2
    unfold tabFind rawInt codeAmong
    rw [List.find?_cons]
    have e1 : ((l : Int) == (pos.line : Int)) = (l == pos.line) := by rw [Bool.eq_iff_iff, beq_iff_eq, beq_iff_eq]; omega
    have e2 : ((c : Int) == (pos.col : Int)) = (c == pos.col) := by rw [Bool.eq_iff_iff, beq_iff_eq, beq_iff_eq]; omega
    rw [e1, e2]
    cases q : (l == pos.line && c == pos.col) with
    | true => exact .inr ⟨j, a, rfl, h1, by simp⟩
    | false =>
      simp only [Bool.false_eq_true, if_false]
      exact tab_among h3
theorem tab_snoc {ρ : List Addr} {l c j : Nat} {a : Addr} (hj : ρ[j]? = some a) : ∀ {es : List (Nat × Nat × Nat)} {vs : List Value}, tabVals ρ es vs → tabVals ρ (es ++ [(l, c, j)]) (vs ++ [rawInt l, rawInt c, .ref a])
  | [], _, h => by cases h; exact ⟨a, [], hj, rfl, rfl⟩
  | (_, _, _) :: _, _, ⟨a', t, h1, h2, h3⟩ => by subst h2; exact ⟨a', _, h1, rfl, tab_snoc hj h3⟩

theorem SW.batAt (W : SW) {h : Heap} {P : Addr} (hb : ∀ b o, W.h₀.get? b = some o → h.get? b = some o) (hPt : W.h₀.get? P = none) : h.BuiltinsAt W.mg P := by
  obtain ⟨bm, ob, b1, b2, b3, b4, b5, b6⟩ := W.bat
  refine ⟨bm, ob, b1, b2, fun q => ?_, fun q => ?_, hb _ _ b3, b4, b5, b6⟩
  · obtain ⟨o, es, ep, e, hd, _⟩ := W.g
    rw [q, e] at b3; cases b3; rw [hd] at b6; cases b6
  · rw [← q, b3] at hPt; cases hPt

theorem cellsRel_of {ρ : List Addr} {g : Str → Addr} : ∀ {ps : List (Str × Nat)}, (∀ p ∈ ps, ρ[p.2]? = some (g p.1)) → cellsRel ρ ps (ps.map fun p => (p.1, g p.1))
  | [], _ => rfl
  | (x, j) :: r, h => ⟨g x, _, h _ (.head _), rfl, cellsRel_of fun p hp => h p (.tail _ hp)⟩
theorem cellsRel.lookup {ρ : List Addr} : ∀ {ps : List (Str × Nat)} {cs : List (Str × Addr)}, cellsRel ρ ps cs → (ps.map (·.1)).Nodup → ∀ (j : Nat) (x : Str) (c : Nat), (ps.map (·.1))[j]? = some x → (ps.map (·.2))[j]? = some c → ∃ a, ρ[c]? = some a ∧ cs.lookup x = some a
  | [], _, _, _, j, x, c, h, _ => by simp at h
  | (y, i) :: r, _, ⟨a, t, h1, h2, h3⟩, hn, j, x, c, hx, hc => by
    subst h2
    simp only [List.map_cons, List.nodup_cons] at hn
    cases j with
    | zero =>
      simp only [List.map_cons, List.getElem?_cons_zero, Option.some.injEq] at hx hc
      subst hx; subst hc
      exact ⟨a, h1, by simp [List.lookup_cons]⟩
    | succ j =>
      simp only [List.map_cons, List.getElem?_cons_succ] at hx hc
      obtain ⟨a', e1, e2⟩ := cellsRel.lookup h3 hn.2 j x c hx hc
      refine ⟨a', e1, ?_⟩
      have : x ≠ y := fun q => hn.1 (by rw [← q]; exact List.mem_of_getElem? hx)
      rw [List.lookup_cons]
      have hb : (x == y) = false := by simpa using this
      rw [hb]; exact e2

/- a lambda, made -/
theorem EvE.lam {params : Arguments} {body : PySem.Expr} {scope : Scope} {c P t : Nat} {es : List (Nat × Nat × Nat)} (cl2 : List (Str × Nat))
    (hcode : fi.code = .ref c) (C : CodeHd W.h₀ c P) (hP : H[t]? = some (.tab P es))
    (hn : cl2.map (·.1) = (freeNames scope.names).reverse) (hcl : ∀ p ∈ cl2, ∃ k : Nat, fi.cs[k]? = some p.1 ∧ cl[k]? = some p.2) (hdef : ∀ env, defaultsOf params env = ([], []) := by intro _; rfl)
    (hres : (H', v) = (match tabFind es pos.line pos.col with
      | some j => (H ++ [AO.clo (fi.qual ++ "<lambda>") params body scope cl2 j], AV.loc H.length)
      | none => ((H ++ [AO.code (fi.qual ++ "<lambda>")]).set t (AO.tab P (es ++ [(pos.line, pos.col, H.length)])) ++ [AO.clo (fi.qual ++ "<lambda>") params body scope cl2 H.length], AV.loc (H.length + 1)))) :
    EvE W d fi (.Lambda params body scope pos) vars cl H v H' := by
  intro A env L ρ s Q E rm eo sr fr K
  have hg : ∃ g : Str → Addr, (∀ y ∈ freeNames scope.names, env.cells.lookup y = some (g y)) ∧ ∀ p ∈ cl2, ρ[p.2]? = some (g p.1) := by
    refine ⟨fun y => (env.cells.lookup y).getD 0, fun y hy => ?_, fun p hp => ?_⟩
    · have : y ∈ cl2.map (·.1) := by rw [hn]; exact List.mem_reverse.mpr hy
      obtain ⟨p, hp, rfl⟩ := List.mem_map.mp this
      obtain ⟨k, h1, h2⟩ := hcl p hp
      obtain ⟨a', h4, h5⟩ := eo.cell k _ _ h1 h2
      show _ = some ((env.cells.lookup p.1).getD 0)
      rw [h5]; rfl
    · obtain ⟨k, h1, h2⟩ := hcl p hp
      obtain ⟨a', h4, h5⟩ := eo.cell k _ _ h1 h2
      show _ = some ((env.cells.lookup p.1).getD 0)
      rw [h4, h5]; rfl
  obtain ⟨g, hg1, hg2⟩ := hg
  have hrcl : ((freeNames scope.names).map fun x => (x, g x)).reverse = cl2.map fun p => (p.1, g p.1) := by
    rw [← List.map_reverse, ← hn, List.map_map]; rfl
  have hclo := closureFor_eq g hg1
  rw [hrcl] at hclo
  obtain ⟨aP, haP⟩ := sr.lookup hP
  obtain ⟨rfl, tv, e1, e2⟩ := sr.obj t _ aP hP haP
  have hout := sr.out t _ _ hP haP rfl
  have hgs : s.heap.Ns mainGlobals W.mg := W.g.keeps sr.base
  have hgP : mainGlobals ≠ aP := fun q => by
    obtain ⟨o, es, ep, e, hd, _⟩ := hgs
    rw [q, e1] at e; cases e; cases hd
  refine kla_eval (hdef env) ?_
  have hcr : cellsRel ρ cl2 (cl2.map fun p => (p.1, g p.1)) := cellsRel_of hg2
  rcases tab_among (pos := pos) e2 with ⟨hf, hnf⟩ | ⟨j, aj, hf, hj, hfd⟩
  · rw [hf] at hres
    cases hres
    refine kla_makeFunction (mg := W.mg) hclo eo.glb hgs (eo.code.trans hcode) (C.keeps sr.base) e1 (by simpa using tab_triples e2) (by simpa using hnf) hgP (W.batAt sr.base hout) fun c' ctv h' tk hx hge hlt hrec htb => ?_
    rw [eo.qual] at hrec ⊢
    have hnc : s.heap.get? c' = none := noneAt hge
    have hPne : c' ≠ aP := fun q => by subst q; rw [hnc] at e1; cases e1
    -- first the code record, then the table, then the function
    have P1 : Post W [] ρ (ρ ++ [c']) ((H ++ [AO.code (fi.qual ++ "<lambda>")]).set t (AO.tab aP (es ++ [(pos.line, pos.col, H.length)]))) s.heap h' := by
      have htl : t < H.length := (List.getElem?_eq_some_iff.mp hP).1
      refine ⟨⟨[c'], rfl, by simpa using hnc⟩, ⟨by simp [sr.len], ?_, fun b o q => ?_, ?_, ?_⟩, fun z o q n1 _ => hx z o (fun q2 => n1 (by rw [q2]; exact List.mem_of_getElem? haP)) q⟩
      · rw [List.nodup_append]
        refine ⟨sr.nd, by simp, fun b hb z hz q => ?_⟩
        rw [List.mem_singleton] at hz; subst hz; subst q
        obtain ⟨ob, q⟩ := sr.live hb
        rw [hnc] at q; cases q
      · exact hx b o (fun q2 => by rw [q2, hout] at q; cases q) (sr.base b o q)
      · intro i o z h1 h2 h3
        by_cases hi : i < H.length
        · rw [List.getElem?_append_left (by rw [sr.len]; exact hi)] at h2
          by_cases hit : t = i
          · subst hit; rw [haP] at h2; cases h2; exact hout
          · rw [List.getElem?_set_ne hit, List.getElem?_append_left hi] at h1
            exact sr.out i o z h1 h2 h3
        · rw [List.getElem?_append_right (by rw [sr.len]; omega)] at h2
          have := List.mem_of_getElem? h2
          rw [List.mem_singleton] at this; subst this
          cases q : W.h₀.get? z with
          | none => rfl
          | some ob => rw [sr.base _ _ q] at hnc; cases hnc
      · intro i o z h1 h2
        by_cases hi : i < H.length
        · rw [List.getElem?_append_left (by rw [sr.len]; exact hi)] at h2
          by_cases hit : t = i
          · subst hit
            rw [haP] at h2; cases h2
            rw [List.getElem?_set_self (by simp; omega)] at h1; cases h1
            refine ⟨rfl, tv ++ [rawInt pos.line, rawInt pos.col, .ref c'], ?_, ?_⟩
            · rw [htb]; simp
            · exact tab_snoc (by rw [List.getElem?_append_right (Nat.le_of_eq sr.len), sr.len, Nat.sub_self]; rfl) e2.mono
          · rw [List.getElem?_set_ne hit, List.getElem?_append_left hi] at h1
            have hne : z ≠ aP := fun q => by
              subst q
              obtain ⟨h3, h4⟩ := List.getElem?_eq_some_iff.mp haP
              obtain ⟨h5, h6⟩ := List.getElem?_eq_some_iff.mp h2
              exact hit (List.getElem_inj sr.nd |>.mp (h4.trans h6.symm))
            exact ((sr.obj i o z h1 h2).at fun ob q => hx z ob hne q).mono
        · rw [List.getElem?_append_right (by rw [sr.len]; omega), sr.len] at h2
          have hit : t ≠ i := by omega
          rw [List.getElem?_set_ne hit, List.getElem?_append_right (by omega)] at h1
          have q1 := List.mem_of_getElem? h1
          have q2 := List.mem_of_getElem? h2
          rw [List.mem_singleton] at q1 q2
          subst q1; subst q2
          exact hrec
    have P2 : Post W [] (ρ ++ [c']) (ρ ++ [c'] ++ [h'.objs.size]) _ h' (h'.push (kla_obj "<lambda>" (fi.qual ++ "<lambda>") params body scope (cl2.map fun p => (p.1, g p.1)) ((W.mg "__name__").getD .none) c' ctv)) :=
      P1.sr.alloc (o := .clo (fi.qual ++ "<lambda>") params body scope cl2 H.length) (.push _ _) (noneAt (Nat.le_refl _))
      ⟨c', _, _, ctv, get_app (by rw [List.getElem?_append_right (Nat.le_of_eq sr.len), sr.len, Nat.sub_self]; rfl), hcr.mono.mono, Heap.get?_push_size _ rfl⟩
    refine K _ _ _ tk (P1.trans P2) ?_
    refine .loc ?_
    rw [List.getElem?_append_right (by simp [sr.len])]
    simp [sr.len]
  · rw [hf] at hres
    cases hres
    refine kla_makeFunctionHit (mg := W.mg) hclo eo.glb hgs (eo.code.trans hcode) (C.keeps sr.base) e1 (by simpa using tab_triples e2) (by simpa using hfd) (W.batAt sr.base hout) fun ctv h' tk hk hsz => ?_
    rw [eo.qual]
    have P1 : Post W [] ρ ρ H s.heap h' := sr.grown ⟨hk⟩
    have P2 : Post W [] ρ (ρ ++ [h'.objs.size]) _ h' (h'.push (kla_obj "<lambda>" (fi.qual ++ "<lambda>") params body scope (cl2.map fun p => (p.1, g p.1)) ((W.mg "__name__").getD .none) aj ctv)) :=
      P1.sr.alloc (o := .clo (fi.qual ++ "<lambda>") params body scope cl2 j) (.push _ _) (noneAt (Nat.le_refl _)) ⟨aj, _, _, ctv, get_app hj, hcr.mono, Heap.get?_push_size _ rfl⟩
    exact K _ _ _ tk (P1.trans P2) P1.sr.newLoc

theorem KRels.rev {ρ : List Addr} {bs : List (Str × AV)} {Bs : List (Str × Value)} (h : KRels ρ bs Bs) : KRels ρ bs.reverse Bs.reverse := by
  have app : ∀ {xs ys : List (Str × AV)} {Xs Ys : List (Str × Value)}, KRels ρ xs Xs → KRels ρ ys Ys → KRels ρ (xs ++ ys) (Xs ++ Ys) := by
    intro xs ys Xs Ys h t
    induction h with
    | nil => exact t
    | cons h _ ih => exact .cons h ih
  induction h with
  | nil => exact .nil
  | cons h _ ih => rw [List.reverse_cons, List.reverse_cons]; exact app ih (.cons h .nil)

/- a lambda, called -/
theorem CodeV.clo {i cd : Nat} {qual : Str} {params : Arguments} {body : PySem.Expr} {scope : Scope} {cl2 : List (Str × Nat)} (ns : List Str) {args : List AV} {bs : List (Str × AV)} {vars0 : List (Option AV)}
    (ho : H[i]? = some (.clo qual params body scope cl2 cd)) (hc : H[cd]? = some (.code qual))
    (hb : ∀ (ρ : List Addr) (As : List Value) (rcl : List (Str × Addr)) (pm : Value) (C : Addr) (ctv : Value), VRels ρ args As → ∃ Bs, bindArgs (kla_fn "<lambda>" qual params body scope rcl pm (.ref C) ctv) ⟨As, []⟩ = pure Bs ∧ KRels ρ bs Bs)
    (hkd : (bs.all fun y => scope.names.lookup y.1 == some .local) = true) (hnc : ∀ x ∈ scope.names, x.2 ≠ .cell) (hn2 : (cl2.map (·.1)).Nodup)
    (hv : vars0 = ns.map fun x => bs.reverse.lookup x)
    (hbody : ∀ cv, EvE W d ⟨ns, cl2.map (·.1), fun x => scope.names.lookup x, qual ++ ".<locals>.", cv⟩ body vars0 (cl2.map (·.2)) H v H')
    (hco : scope.isCoroutine = false := by rfl) (hgen : scope.isGenerator = false := by rfl) (hk : scope.kind = .function := by rfl) :
    CodeV W (d + 1) (.loc i) args [] H v H' := by
  intro A ρ s F As Ks R rm sr hF hAs hKs K
  cases hKs
  cases hF with
  | loc hi =>
    obtain ⟨C, rcl, pm, ctv, e1, e2, e3⟩ := sr.obj i _ _ ho hi
    have hrec : s.heap.CodeRec (.ref C) qual := sr.obj cd _ _ hc e1
    obtain ⟨Bs, hbind, hBs⟩ := hb ρ As rcl pm C ctv hAs
    refine kla_callFunE (by have := rm.2.1; show _ < 1000; omega) e3 rfl hco hgen rfl hrec ?_
    rw [hbind]
    have hkeys := hBs.keys
    have hloc : ∀ y ∈ Bs, scope.names.lookup y.1 = some .local := fun y hy => by
      have : y.1 ∈ bs.map (·.1) := by rw [← hkeys]; exact List.mem_map_of_mem hy
      obtain ⟨z, hz, q⟩ := List.mem_map.mp this
      have := List.all_eq_true.mp hkd z hz
      rw [q] at this
      simpa using this
    refine wpAny_pure (wpAny_newFunctionEnv hnc hloc (fun h₁ hns hsb => ?_) hk)
    have gr : Grow s.heap h₁ := ⟨fun b o q => hsb.extBut b o (Nat.ne_of_lt (Heap.lt_size q)) (Heap.get?_push_of_some _ q)⟩
    obtain ⟨oL1, oL2⟩ := sr.newOut
    have p1 : Post W [] ρ ρ H s.heap h₁ := sr.grown gr
    refine ⟨(W.lim.keeps sr.base).keeps gr.keep, kla_codeExpr ?_⟩
    refine hbody (.ref C) (A.deeper _) _ s.heap.objs.size ρ _ _ _ rm.deeper ⟨rfl, rfl, rfl, hk, fun _ => rfl, rfl, rfl, fun j x c h1 h2 => e2.lookup hn2 j x c h1 h2⟩ p1.sr
      ⟨oL1, oL2, _, hns, fun j y v h1 h2 => ?_⟩ fun ρ2 V h2 t2 p2 v2 => ?_
    · rw [hv, List.getElem?_map, h1] at h2
      simp only [Option.map_some, Option.some.injEq] at h2
      rcases hBs.rev.lookup y with ⟨q1, q2⟩ | ⟨v', V, q1, q2, q3⟩
      · rw [q1] at h2; cases h2
      · rw [q1] at h2; cases h2
        exact ⟨V, q2, q3⟩
    · exact K ρ2 V h2 t2 (p1.trans p2) v2
end Mine

/- part -/
namespace Mine
open PySem.Calls

variable {W : SW} {d : Nat} {fi fi' : FI} {vars vars' vars'' : List (Option AV)} {cl cl' : List Nat} {H H1 H2 H3 H4 : List AO} {a b c v f ov : AV} {e l r elt : PySem.Expr} {pos : Pos} {vs : List AV}

/- numbers -/
theorem OpV.addI {x y : Int} : OpV W (binaryOp .Add) (.int x) (.int y) H (.int (x + y)) H := by
  intro A ρ s X Y Q E rm sr hx hy K; cases hx; cases hy; exact AutoIntOps.add_0 (K ρ _ _ _ (.refl sr) (.int _ _))
theorem OpV.iaddI {x y : Int} : OpV W (inplaceOp .Add) (.int x) (.int y) H (.int (x + y)) H := by
  intro A ρ s X Y Q E rm sr hx hy K; cases hx; cases hy; exact AutoIntOps.iadd_0 (K ρ _ _ _ (.refl sr) (.int _ _))
theorem OpV.subI {x y : Int} : OpV W (binaryOp .Sub) (.int x) (.int y) H (.int (x - y)) H := by
  intro A ρ s X Y Q E rm sr hx hy K; cases hx; cases hy; exact AutoIntOps.sub_0 (K ρ _ _ _ (.refl sr) (.int _ _))
theorem OpV.isubI {x y : Int} : OpV W (inplaceOp .Sub) (.int x) (.int y) H (.int (x - y)) H := by
  intro A ρ s X Y Q E rm sr hx hy K; cases hx; cases hy; exact AutoIntOps.isub_0 (K ρ _ _ _ (.refl sr) (.int _ _))
theorem OpV.mulI {x y : Int} (h : IntMulOk x y) : OpV W (binaryOp .Mult) (.int x) (.int y) H (.int (x * y)) H := by
  intro A ρ s X Y Q E rm sr hx hy K; cases hx; cases hy; exact AutoIntOps.mul_0 (K ρ _ _ _ (.refl sr) (.int _ _)) h
theorem OpV.modI {x y : Int} (h : (y == 0) = false) : OpV W (binaryOp .Mod) (.int x) (.int y) H (.int (x.fmod y)) H := by
  intro A ρ s X Y Q E rm sr hx hy K; cases hx; cases hy; exact AutoIntOps.mod_1 (by rw [h]; decide) (K ρ _ _ _ (.refl sr) (.int _ _))
theorem OpV.divI {x y : Int} (h : (y == 0) = false) (hs : y.natAbs < 1073741824) : OpV W (binaryOp .FloorDiv) (.int x) (.int y) H (.int (x.fdiv y)) H := by
  intro A ρ s X Y Q E rm sr hx hy K; cases hx; cases hy; exact AutoIntOps.floordiv_1 (by rw [h]; decide) (by rw [PyProof.noPylong_small hs]; decide) (K ρ _ _ _ (.refl sr) (.int _ _))
theorem OpV.pow2 {n : Nat} (h : n ≤ 1000) : OpV W (binaryOp .Pow) (.int 2) (.int n) H (.int (2 ^ n)) H := by
  intro A ρ s X Y Q E rm sr hx hy K; cases hx; cases hy
  by_cases h0 : n = 0
  · subst h0; exact AutoIntOps.pow_0 (by decide) (by decide) (K ρ _ _ _ (.refl sr) (.int _ _))
  · refine AutoIntOps.pow_4 (by omega) (by simp; omega) (by decide) (by decide) ?_ ?_
    · have : Builtin.Int.intBits 2 = 2 := by decide +kernel
      rw [this]
      simp [Builtin.Int.intTooBig, bitsLine]; omega
    · rw [Int.toNat_natCast]; exact K ρ _ _ _ (.refl sr) (.int _ _)
theorem OpV.andI {x y : Int} : OpV W (binaryOp .BitAnd) (.int x) (.int y) H (.int (Builtin.bitAnd x y)) H := by
  intro A ρ s X Y Q E rm sr hx hy K; cases hx; cases hy; exact and_int (K ρ _ _ _ (.refl sr) (.int _ _))
theorem OpV.iorI {x y : Int} : OpV W (inplaceOp .BitOr) (.int x) (.int y) H (.int (Builtin.bitOr x y)) H := by
  intro A ρ s X Y Q E rm sr hx hy K; cases hx; cases hy; exact ior_int (K ρ _ _ _ (.refl sr) (.int _ _))
theorem OpV.ishlI {x y : Int} (hn : 0 ≤ y) (hs : (Builtin.Int.intBits x : Int) + y ≤ 2 ^ 27) : OpV W (inplaceOp .LShift) (.int x) (.int y) H (.int (x * 2 ^ y.toNat)) H := by
  intro A ρ s X Y Q E rm sr hx hy K; cases hx; cases hy; exact ilshift_int hn hs (K ρ _ _ _ (.refl sr) (.int _ _))
theorem UnV.negI {x : Int} : UnV W (unaryOp .USub) (.int x) H (.int (-x)) H := by
  intro A ρ s X Q E rm sr hx K; cases hx; exact PyProof.Rows.neg_int (K ρ _ _ _ (.refl sr) (.int _ _))
theorem OpV.ltI {x y : Int} : OpV W (compareOp .Lt) (.int x) (.int y) H (.bool (decide (x < y))) H := by
  intro A ρ s X Y Q E rm sr hx hy K; cases hx; cases hy; exact P.lt_int (K ρ _ _ s.toks (.refl sr) (.bool _))
theorem OpV.gtI {x y : Int} : OpV W (compareOp .Gt) (.int x) (.int y) H (.bool (decide (x > y))) H := by
  intro A ρ s X Y Q E rm sr hx hy K; cases hx; cases hy; exact P.gt_int (K ρ _ _ s.toks (.refl sr) (.bool _))
theorem OpV.leI {x y : Int} : OpV W (compareOp .LtE) (.int x) (.int y) H (.bool (decide (x ≤ y))) H := by
  intro A ρ s X Y Q E rm sr hx hy K; cases hx; cases hy; exact P.le_int (K ρ _ _ s.toks (.refl sr) (.bool _))
theorem OpV.geI {x y : Int} : OpV W (compareOp .GtE) (.int x) (.int y) H (.bool (decide (x ≥ y))) H := by
  intro A ρ s X Y Q E rm sr hx hy K; cases hx; cases hy; exact P.ge_int (K ρ _ _ s.toks (.refl sr) (.bool _))
theorem OpV.eqI {x y : Int} : OpV W (compareOp .Eq) (.int x) (.int y) H (.bool (x == y)) H := by
  intro A ρ s X Y Q E rm sr hx hy K; cases hx; cases hy; exact P.eq_int (K ρ _ _ s.toks (.refl sr) (.bool _))
theorem OpV.neI {x y : Int} : OpV W (compareOp .NotEq) (.int x) (.int y) H (.bool (x != y)) H := by
  intro A ρ s X Y Q E rm sr hx hy K; cases hx; cases hy; exact P.ne_int (K ρ _ _ s.toks (.refl sr) (.bool _))
theorem TrV.int {x : Int} : TrV W (.int x) H (x != 0) := by
  intro A ρ s X Q E rm sr hv K; cases hv; exact P.truthy_int (K s.toks)

/- strings -/
theorem strEq {x y : List Nat} : ((⟨x.toArray⟩ : Str).cps.toList == (⟨y.toArray⟩ : Str).cps.toList) = (x == y) := by simp
theorem OpV.eqS {x y : List Nat} : OpV W (compareOp .Eq) (.str x) (.str y) H (.bool (x == y)) H := by
  intro A ρ s X Y Q E rm sr hx hy K; cases hx; cases hy; exact P.eq_str (K ρ _ _ s.toks (.refl sr) (.bool _))
theorem OpV.neS {x y : List Nat} : OpV W (compareOp .NotEq) (.str x) (.str y) H (.bool (x != y)) H := by
  intro A ρ s X Y Q E rm sr hx hy K; cases hx; cases hy; exact P.ne_str (K ρ _ _ s.toks (.refl sr) (.bool _))
theorem OpV.ltS {x y : List Nat} : OpV W (compareOp .Lt) (.str x) (.str y) H (.bool (decide (x < y))) H := by
  intro A ρ s X Y Q E rm sr hx hy K; cases hx; cases hy; exact P.lt_str (K ρ _ _ s.toks (.refl sr) (.bool _))
noncomputable def occ (x y : List Nat) : Bool := !(Builtin.Str.occurrences ⟨x.toArray⟩ ⟨y.toArray⟩ 0 (⟨x.toArray⟩ : Str).length 1).isEmpty
theorem OpV.inS {x y : List Nat} : OpV W (compareOp .In) (.str y) (.str x) H (.bool (occ x y)) H := by
  intro A ρ s X Y Q E rm sr hx hy K; cases hx; cases hy; exact P.in_str (K ρ _ _ s.toks (.refl sr) (.bool _))
theorem OpV.notinS {x y : List Nat} : OpV W (compareOp .NotIn) (.str y) (.str x) H (.bool (!occ x y)) H := by
  intro A ρ s X Y Q E rm sr hx hy K; cases hx; cases hy; exact P.notIn_str (K ρ _ _ s.toks (.refl sr) (.bool _))
theorem app_str (x y : List Nat) : (⟨x.toArray⟩ : Str) ++ (⟨y.toArray⟩ : Str) = ⟨(x ++ y).toArray⟩ := by
  show Str.append _ _ = _
  simp [Str.append]
theorem OpV.addS {x y : List Nat} (h : x.length + y.length ≤ sizeLine) : OpV W (binaryOp .Add) (.str x) (.str y) H (.str (x ++ y)) H := by
  intro A ρ s X Y Q E rm sr hx hy K; cases hx; cases hy
  refine PyProof.Rows.add_str (fun t' tk => ?_) (by simpa [Str.length] using h)
  rw [app_str]; exact K ρ _ _ tk (.refl sr) (.str _ _)
theorem OpV.iaddS {x y : List Nat} (h : x.length + y.length ≤ sizeLine) : OpV W (inplaceOp .Add) (.str x) (.str y) H (.str (x ++ y)) H := by
  intro A ρ s X Y Q E rm sr hx hy K; cases hx; cases hy
  refine PyProof.Rows.iadd_str (fun t' tk => ?_) (by simpa [Str.length] using h)
  rw [app_str]; exact K ρ _ _ tk (.refl sr) (.str _ _)
theorem TrV.str {x : List Nat} (h : x.length < 2 ^ 62) : TrV W (.str x) H (!x.isEmpty) := by
  intro A ρ s X Q E rm sr hv K; cases hv
  refine P.truthy_str (by simp [Str.length]; omega) ?_
  have : ((Str.length ⟨x.toArray⟩ : Int) != 0) = !x.isEmpty := by cases x <;> simp [Str.length] <;> omega
  rw [this]; exact K _
theorem TrV.none : TrV W .none H false := by
  intro A ρ s X Q E rm sr hv K; cases hv; exact truthy_none (K s.toks)
theorem TrV.list {i : Nat} {xs : List AV} (ho : H[i]? = some (.list xs)) (h : xs.length < 2 ^ 62) : TrV W (.loc i) H (!xs.isEmpty) := by
  intro A ρ s X Q E rm sr hv K
  cases hv with
  | loc hi =>
    obtain ⟨vs, n, e, hv⟩ := sr.obj i _ _ ho hi
    have hlen := hv.length
    refine wpAny_truthy_list (items := vs.toArray) ⟨_, e, rfl, n, rfl⟩ (by simp; omega) ?_
    have : ((vs.toArray.size : Int) != 0) = !xs.isEmpty := by
      cases xs <;> cases vs <;> simp at hlen ⊢ <;> omega
    have h2 : (!vs.toArray.isEmpty) = !xs.isEmpty := by cases xs <;> cases vs <;> simp at hlen ⊢
    rw [h2]; exact K _
theorem OpV.isNone : OpV W (compareOp .Is) .none .none H (.bool true) H := by
  intro A ρ s X Y Q E rm sr hx hy K; cases hx; cases hy; exact wpAny_is_plain rfl (K ρ _ _ s.toks (.refl sr) (.bool _))

theorem OpV.isNone0 {x : Int} : OpV W (compareOp .Is) (.int x) .none H (.bool false) H := by
  intro A ρ s X Y Q E rm sr hx hy K; cases hx; cases hy; exact wpAny_is_plain rfl (K ρ _ _ s.toks (.refl sr) (.bool _))
theorem OpV.isNone1 {i : Nat} : OpV W (compareOp .Is) (.loc i) .none H (.bool false) H := by
  intro A ρ s X Y Q E rm sr hx hy K; cases hx; cases hy; exact wpAny_is_plain rfl (K ρ _ _ s.toks (.refl sr) (.bool _))

/- items -/
theorem tail_gen {prog : Program} {w : World} {A : Around} {E : Value → Shared → Prop} {s : Shared} {value slice : PySem.Expr} {o i : Value} {T id : String} {ops : List Value} {Q : Value → Shared → Prop} (hT : s.TypeIs o T)
    (hl : typeLookup (.type T) "__getitem__" = pure (some (.builtin id))) (h : wpAny (model prog w) A (getItem o i) Q E s) (hs : subscripted slice false o i = operate ops (getItem o i)) :
    wpAny (model prog w) A (subscriptTail value slice o i) Q E s := by
  unfold subscriptTail
  refine wpAny_bind ?_
  rw [getitemInPython_of_ne hT.not_modules]
  refine wpAny_bind (wpAny_specialOf hT hl ?_)
  have fin : wpAny (model prog w) A (subscripted slice false o i) (fun r s₃ => wpAny (model prog w) A (letTemporaryGo value o r >>= fun _ => pure r) Q E s₃) E s := by
    rw [hs]
    exact wpAny_operating (wpAny_mono h (fun r s₃ h₃ => wpAny_bind (wpAny_letTemporaryGo (wpAny_pure h₃))) fun _ _ x => x)
  first
    | exact wpAny_pure (wpAny_bind fin)
    | exact wpAny_bind (wpAny_pure (wpAny_bind fin))
    | exact wpAny_bind fin

noncomputable def ItemV (W : SW) (a b : AV) (H : List AO) (v : AV) (H' : List AO) : Prop :=
  ∀ (A : Around) (ρ : List Addr) (s : Shared) (X Y : Value) (Q E : Value → Shared → Prop),
    Room 0 A → SR W ρ H s.heap → VRel ρ a X → VRel ρ b Y →
    (∀ ρ' V h' tk, Post W [] ρ ρ' H' s.heap h' → VRel ρ' v V → Q V { s with heap := h', toks := tk }) →
    (∃ T id, s.TypeIs X T ∧ typeLookup (.type T) "__getitem__" = pure (some (.builtin id))) ∧ wpAny W.M A (getItem X Y) Q E s
theorem EvE.item {value slice : PySem.Expr} (h1 : EvE W d fi value vars cl H a H1) (h2 : EvE W d fi slice vars cl H1 b H2) (ht : ItemV W a b H2 v H3) (hs : ∀ o i, subscripted slice false o i = operate [o, i] (getItem o i) := by intro _ _; with_unfolding_all rfl) :
    EvE W d fi (.Subscript value slice pos) vars cl H v H3 := by
  intro A env L ρ s Q E rm eo sr fr K
  refine Subscript_ (h1 A env L ρ s _ E rm eo sr fr fun ρ1 V1 g1 t1 p1 v1 => ?_)
  refine h2 A env L ρ1 _ _ E rm (p1.env eo) p1.sr (p1.fr fr) fun ρ2 V2 g2 t2 p2 v2 => ?_
  obtain ⟨⟨T, id, hT, hl⟩, hg⟩ := ht A ρ2 { s with heap := g2, toks := t2 } V1 V2 Q E rm.zero p2.sr (p2.vrel v1) v2 fun ρ3 V3 g3 t3 p3 v3 => K ρ3 V3 g3 t3 ((p1.trans p2).trans p3) v3
  exact tail_gen hT hl hg (hs _ _)

theorem idx_bounds {n : Nat} {k : Int} {j : Nat} (h : seqIndex? k n = some j) : -(n : Int) ≤ k ∧ k < n ∧ j < n ∧ (0 ≤ k → j = k.toNat) ∧ (k < 0 → j = (k + n).toNat) := by
  unfold seqIndex? at h
  dsimp only at h
  by_cases hk : k < 0
  · rw [if_pos hk] at h
    by_cases q : (decide (0 ≤ k + (n : Int)) && decide (k + (n : Int) < n)) = true
    · rw [if_pos q] at h
      simp only [Bool.and_eq_true, decide_eq_true_eq] at q
      simp only [Option.some.injEq] at h
      omega
    · rw [if_neg q] at h; cases h
  · rw [if_neg hk] at h
    by_cases q : (decide (0 ≤ k) && decide (k < (n : Int))) = true
    · rw [if_pos q] at h
      simp only [Bool.and_eq_true, decide_eq_true_eq] at q
      simp only [Option.some.injEq] at h
      omega
    · rw [if_neg q] at h; cases h
theorem ItemV.str {x : List Nat} {k : Int} {j c : Nat} (hj : seqIndex? k x.length = some j) (hc : x[j]? = some c) (hx : x.length < 2 ^ 62) : ItemV W (.str x) (.int k) H (.str [c]) H := by
  intro A ρ s X Y Q E rm sr hX hY K; cases hX; cases hY
  obtain ⟨h1, h2, _⟩ := idx_bounds hj
  refine ⟨⟨"str", _, typeIs_str _ _ _, slot_str_getitem.lookup⟩, P.getItem_str (by simp; omega) ?_ (K ρ _ _ _ (.refl sr) (.str [c] _))⟩
  show (seqIndex? k (Str.length ⟨x.toArray⟩)).bind _ = _
  rw [show Str.length ⟨x.toArray⟩ = x.length from rfl, hj]
  simpa using hc
theorem ItemV.list {i : Nat} {xs : List AV} {k : Int} {j : Nat} (ho : H[i]? = some (.list xs)) (hj : seqIndex? k xs.length = some j) (hc : xs[j]? = some v) (hx : xs.length < 2 ^ 62) : ItemV W (.loc i) (.int k) H v H := by
  intro A ρ s X Y Q E rm sr hX hY K
  cases hY
  cases hX with
  | loc hi =>
    obtain ⟨vs, n, e, hv⟩ := sr.obj i _ _ ho hi
    have hlen := hv.length
    have hl : s.heap.IsList _ vs.toArray := ⟨_, e, rfl, n, rfl⟩
    obtain ⟨h1, h2, h3, h4, h5⟩ := idx_bounds hj
    obtain ⟨V, e1, r1⟩ := hv.get _ _ hc
    refine ⟨⟨"list", _, hl.typeIs, slot_list_getitem.lookup⟩, ?_⟩
    have fin := K ρ V _ s.toks (.refl sr) r1
    by_cases hk : k < 0
    · have := h5 hk
      exact wpAny_getItem_list_neg hl hk (by simp; omega) (by omega) (by rw [show (k + ((vs.toArray.size : Nat) : Int)).toNat = j by simp; omega]; simpa using e1) fin
    · have := h4 (by omega)
      exact wpAny_getItem_list hl (by omega) (by omega) (by rw [← this]; simpa using e1) fin
theorem ItemV.tup {i : Nat} {xs : List AV} {k : Int} {j : Nat} (ho : H[i]? = some (.tup xs)) (hj : seqIndex? k xs.length = some j) (hc : xs[j]? = some v) (hx : xs.length < 2 ^ 62) : ItemV W (.loc i) (.int k) H v H := by
  intro A ρ s X Y Q E rm sr hX hY K
  cases hY
  cases hX with
  | loc hi =>
    obtain ⟨vs, n, e, hv⟩ := sr.obj i _ _ ho hi
    have hlen := hv.length
    have hl : IsTup s.heap _ vs.toArray := ⟨_, e, rfl, n, rfl⟩
    obtain ⟨h1, h2, h3, h4, h5⟩ := idx_bounds hj
    obtain ⟨V, e1, r1⟩ := hv.get _ _ hc
    refine ⟨⟨"tuple", _, hl.typeIs, slot_tuple_getitem.lookup⟩, ?_⟩
    exact PyProof.Rows.getItem_tuple hl (by omega) (by omega) (by simpa [← hlen] using hj) (by simpa using e1) (K ρ V _ s.toks (.refl sr) r1)

/- slices -/
noncomputable def pk {α : Type} (l : List α) (lo hi : Option Int) : List α := (l.drop (kms_lo lo l.length)).take (kms_hi hi l.length - kms_lo lo l.length)
theorem kms_hi_le (hi : Option Int) (n : Nat) : kms_hi hi n ≤ n := by
  unfold kms_hi; split
  · exact Nat.le_refl _
  · split <;> omega
theorem kms_lo_le (lo : Option Int) (n : Nat) : kms_lo lo n ≤ n := by
  unfold kms_lo; split
  · exact Nat.zero_le _
  · split <;> omega
theorem VRels.drop {ρ : List Addr} : ∀ {xs : List AV} {Xs : List Value} (n : Nat), VRels ρ xs Xs → VRels ρ (xs.drop n) (Xs.drop n)
  | _, _, 0, h => h
  | _, _, _ + 1, .nil => .nil
  | _, _, n + 1, .cons _ t => VRels.drop n t
theorem VRels.take {ρ : List Addr} : ∀ {xs : List AV} {Xs : List Value} (n : Nat), VRels ρ xs Xs → VRels ρ (xs.take n) (Xs.take n)
  | _, _, 0, _ => .nil
  | _, _, _ + 1, .nil => .nil
  | _, _, n + 1, .cons h t => .cons h (VRels.take n t)
theorem VRels.pk {ρ : List Addr} {xs : List AV} {Xs : List Value} {lo hi : Option Int} (h : VRels ρ xs Xs) : VRels ρ (pk xs lo hi) (kms_pick Xs lo hi) := by
  unfold Mine.pk kms_pick
  rw [h.length]
  exact (h.drop _).take _

noncomputable def EvP (W : SW) (d : Nat) (fi : FI) (e : Option PySem.Expr) (vars : List (Option AV)) (cl : List Nat) (H : List AO) (o : Option Int) (H' : List AO) : Prop := match e with
  | none => o = none ∧ H' = H
  | some e => ∃ k : Int, o = some k ∧ EvE W d fi e vars cl H (.int k) H'
theorem EvP.none : EvP W d fi Option.none vars cl H Option.none H := ⟨rfl, rfl⟩
theorem EvP.some {k : Int} (h : EvE W d fi e vars cl H (.int k) H1) : EvP W d fi (Option.some e) vars cl H (Option.some k) H1 := ⟨k, rfl, h⟩
theorem EvP.run {x : Option PySem.Expr} {o : Option Int} (h : EvP W d fi x vars cl H o H1) {A : Around} {env : Env} {L : Addr} {ρ : List Addr} {s : Shared} {Q E : Value → Shared → Prop}
    (rm : Room d A) (eo : EnvOk fi env L ρ cl) (sr : SR W ρ H s.heap) (fr : FR W fi vars ρ s.heap L)
    (K : ∀ ρ' V h' tk, Post W [] ρ ρ' H1 s.heap h' → (V = Option.elim o Value.none (fun k => V) ∧ ∃ t, V = partValue (o.map fun k => (k, t))) → IsPart V o → Q V { s with heap := h', toks := tk }) : wpAny W.M A (evalPart x env) Q E s := by
  cases x with
  | none =>
    obtain ⟨rfl, rfl⟩ := h
    rw [evalPart_none]
    exact wpAny_pure (K ρ _ _ s.toks (.refl sr) ⟨rfl, 0, rfl⟩ .none)
  | some e =>
    obtain ⟨k, rfl, h⟩ := h
    rw [evalPart_some]
    refine h A env L ρ s Q E rm eo sr fr fun ρ' V h' tk p r => ?_
    cases r with
    | int _ t => exact K ρ' _ h' tk p ⟨rfl, t, rfl⟩ (.int k t)

theorem EvE.sliceList {value : PySem.Expr} {lower upper : Option PySem.Expr} {p : Pos} {lo hi : Option Int} {i : Nat} {xs : List AV} (h1 : EvE W d fi value vars cl H (.loc i) H1) (h2 : EvP W d fi lower vars cl H1 lo H2) (h3 : EvP W d fi upper vars cl H2 hi H3) (ho : H3[i]? = some (.list xs)) (hz : xs.length ≤ sizeLine) :
    EvE W d fi (.Subscript value (.Slice lower upper Option.none p) pos) vars cl H (.loc H3.length) (H3 ++ [.list (pk xs lo hi)]) := by
  intro A env L ρ s Q E rm eo sr fr K
  refine Subscript_ (h1 A env L ρ s _ E rm eo sr fr fun ρ1 V1 g1 t1 p1 v1 => ?_)
  refine wpAny_Slice (h2.run rm (p1.env eo) p1.sr (p1.fr fr) fun ρ2 V2 g2 t2 p2 _ v2 => ?_)
  have P2 := p1.trans p2
  refine h3.run rm (P2.env eo) p2.sr (P2.fr fr) fun ρ3 V3 g3 t3 p3 _ v3 => ?_
  rw [evalPart_none]
  refine wpAny_pure ?_
  have P3 := P2.trans p3
  cases p3.vrel (p2.vrel v1) with
  | loc hi' =>
    obtain ⟨vs, n, e, hv⟩ := p3.sr.obj i _ _ ho hi'
    have hl : ∀ o, (g3.push o).IsList _ vs.toArray := fun o => ⟨_, Heap.get?_push_of_some _ e, rfl, n, rfl⟩
    refine tail_gen (ops := [_, _]) (hl _).typeIs slot_list_getitem.lookup (wpAny_getItem_list_slice (hl _) (Heap.IsSliceOf.new ..) v2 v3 .none (by simp) ?_ (by simp [← hv.length]; omega)) rfl
    rw [kms_pick_eq]
    exact K _ _ _ _ (P3.trans (p3.sr.alloc ((Grow.push _ _).trans (.push _ _)) (noneAt (by simp [Heap.size_push])) ⟨_, 0, Heap.get?_push_size _ rfl, by simpa using hv.pk.mono⟩)) p3.sr.newLoc
end Mine

/- part -/
namespace Mine
open PySem.Calls

variable {W : SW} {d : Nat} {fi fi' : FI} {vars vars' vars'' : List (Option AV)} {cl cl' : List Nat} {H H1 H2 H3 H4 : List AO} {a b c v f ov : AV} {e l r elt : PySem.Expr} {pos : Pos} {vs : List AV}

theorem mapSeq_plain (f : Array Value → Array Value) (its : List Value) (n : Nat) : ∃ n', Obj.mapSeq f (listO its n) = listO (f its.toArray).toList n' := by
  simp only [Obj.mapSeq, listO]
  exact ⟨_, by simp; rfl⟩

/- a list of ours is changed in place -/
theorem SR.upd {X ρ : List Addr} {h : Heap} {i : Nat} {x : Addr} {xs ys : List AV} {vs : List Value} {n : Nat} (sr : SR W ρ H h) (ho : H[i]? = some (.list xs)) (hi : ρ[i]? = some x) (e : h.get? x = some (listO vs n)) (f : Array Value → Array Value) (r : VRels ρ ys (f vs.toArray).toList) :
    Post W X ρ ρ (H.set i (.list ys)) h (h.update x (Obj.mapSeq f)) := by
  obtain ⟨n', e2⟩ := mapSeq_plain f vs n
  refine sr.set ho hi rfl (Heap.SameBut.update ..).extBut ⟨_, n', ?_, r⟩
  rw [Heap.get?_update_self _ e (by rw [e2]; rfl), e2]

theorem CallV.cases1 {id : String} (h : ∀ (A : Around) (ρ : List Addr) (s : Shared) (X : Value) (Q E : Value → Shared → Prop), Room d A → SR W ρ H s.heap → VRel ρ a X →
    (∀ ρ' V h' tk, Post W [] ρ ρ' H' s.heap h' → VRel ρ' v V → Q V { s with heap := h', toks := tk }) → wpAny W.M A (call (.builtin id) [X] []) Q E s) : CallV W d (.bi id) [a] [] H v H' := by
  intro A ρ s F As Ks Q E rm sr hF hA hK K
  cases hF; cases hK
  cases hA with
  | cons h1 h2 => cases h2; exact h A ρ s _ Q E rm sr h1 K
theorem CallV.cases2 {id : String} (h : ∀ (A : Around) (ρ : List Addr) (s : Shared) (X Y : Value) (Q E : Value → Shared → Prop), Room d A → SR W ρ H s.heap → VRel ρ a X → VRel ρ b Y →
    (∀ ρ' V h' tk, Post W [] ρ ρ' H' s.heap h' → VRel ρ' v V → Q V { s with heap := h', toks := tk }) → wpAny W.M A (call (.builtin id) [X, Y] []) Q E s) : CallV W d (.bi id) [a, b] [] H v H' := by
  intro A ρ s F As Ks Q E rm sr hF hA hK K
  cases hF; cases hK
  cases hA with
  | cons h1 h2 => cases h2 with
    | cons h2 h3 => cases h3; exact h A ρ s _ _ Q E rm sr h1 h2 K
theorem CallV.cases3 {id : String} (h : ∀ (A : Around) (ρ : List Addr) (s : Shared) (X Y Z : Value) (Q E : Value → Shared → Prop), Room d A → SR W ρ H s.heap → VRel ρ a X → VRel ρ b Y → VRel ρ c Z →
    (∀ ρ' V h' tk, Post W [] ρ ρ' H' s.heap h' → VRel ρ' v V → Q V { s with heap := h', toks := tk }) → wpAny W.M A (call (.builtin id) [X, Y, Z] []) Q E s) : CallV W d (.bi id) [a, b, c] [] H v H' := by
  intro A ρ s F As Ks Q E rm sr hF hA hK K
  cases hF; cases hK
  cases hA with
  | cons h1 h2 => cases h2 with
    | cons h2 h3 => cases h3 with
      | cons h3 h4 => cases h4; exact h A ρ s _ _ _ Q E rm sr h1 h2 h3 K

/- len, ord, chr -/
theorem CallV.lenS {x : List Nat} (h : x.length < 2 ^ 62) : CallV W d (.bi "len") [.str x] [] H (.int x.length) H := .cases1 fun A ρ s X Q E rm sr hx K => by
  cases hx
  exact P.len_str (by simp [Str.length]; omega) (K ρ _ _ _ (.refl sr) (.int _ _))
theorem CallV.lenL {i : Nat} {xs : List AV} (ho : H[i]? = some (.list xs)) (h : xs.length < 2 ^ 62) : CallV W d (.bi "len") [.loc i] [] H (.int xs.length) H := .cases1 fun A ρ s X Q E rm sr hx K => by
  cases hx with
  | loc hi =>
    obtain ⟨vs, n, e, hv⟩ := sr.obj i _ _ ho hi
    have hlen := hv.length
    have fin := K ρ (.int xs.length (s.toks + 1)) s.heap (s.toks + 1 + 1) (.refl sr) (.int _ _)
    refine call_len_list (items := vs.toArray) ⟨_, e, rfl, n, rfl⟩ (by simp; omega) ?_
    rw [List.size_toArray, ← hlen]
    exact fin
theorem CallV.ord {c : Nat} : CallV W d (.bi "ord") [.str [c]] [] H (.int c) H := .cases1 fun A ρ s X Q E rm sr hx K => by
  cases hx
  exact P.ord_of_char (K ρ _ _ _ (.refl sr) (.int _ _))
theorem CallV.chr {c : Nat} (h : c < 1000000) : CallV W d (.bi "chr") [.int c] [] H (.str [c]) H := .cases1 fun A ρ s X Q E rm sr hx K => by
  cases hx
  refine P.chr_of_int (by simp; omega) ?_
  rw [Int.toNat_natCast]
  exact K ρ _ _ _ (.refl sr) (.str [c] _)

/- range, list -/
theorem CallV.range1 {n : Int} : CallV W d (.ty "range") [.int n] [] H (.loc H.length) (H ++ [.rng 0 n]) := by
  intro A ρ s F As Ks Q E rm sr hF hA hK K
  cases hF; cases hK
  cases hA with
  | cons h1 h2 =>
    cases h2; cases h1
    exact call_range_1 (K _ _ _ _ (sr.alloc (.push _ _) (noneAt (Nat.le_refl _)) ⟨_, _, _, Heap.get?_push_size _ rfl⟩) sr.newLoc)
theorem CallV.range2 {m n : Int} : CallV W d (.ty "range") [.int m, .int n] [] H (.loc H.length) (H ++ [.rng m n]) := by
  intro A ρ s F As Ks Q E rm sr hF hA hK K
  cases hF; cases hK
  cases hA with
  | cons h1 h2 =>
    cases h1; cases h2 with
    | cons h1 h2 =>
      cases h2; cases h1
      exact call_range_2 (K _ _ _ _ (sr.alloc (.push _ _) (noneAt (Nat.le_refl _)) ⟨_, _, _, Heap.get?_push_size _ rfl⟩) sr.newLoc)

theorem signs_rel {ρ : List Addr} : ∀ {x : List Nat} {acc : List Value}, acc.length = x.length → (∀ (i : Nat) (v : Value), acc[i]? = some v → ∃ c t, x[i]? = some c ∧ v = .str ⟨#[c]⟩ t) → VRels ρ (x.map fun c => AV.str [c]) acc
  | [], [], _, _ => .nil
  | c :: x, v :: acc, hl, h => by
    obtain ⟨c', t, e, rfl⟩ := h 0 v rfl
    simp at e; subst e
    exact .cons (.str [c] t) (signs_rel (by simpa using hl) fun i v hv => by simpa using h (i + 1) v (by simpa using hv))
theorem CallV.listS {x : List Nat} (hz : x.length ≤ sizeLine) : CallV W d (.ty "list") [.str x] [] H (.loc H.length) (H ++ [.list (x.map fun c => .str [c])]) := by
  intro A ρ s F As Ks Q E rm sr hF hA hK K
  cases hF; cases hK
  cases hA with
  | cons h1 h2 =>
    cases h2
    cases h1 with
    | str _ t =>
      refine call_list_str rm.1 _ t (fun h' tk acc' c' hk e hit => ?_) (by simpa using hz)
      refine K _ _ _ _ (sr.alloc ⟨hk⟩ (noneAt (Nat.le_refl _)) ⟨acc'.toList, c', by simpa using e, ?_⟩) sr.newLoc
      refine signs_rel ?_ fun i v hv => ?_
      · rw [Array.length_toList, hit.1]; simp
      · obtain ⟨c, u, h1, h2⟩ := hit.2 i v (by simpa using hv)
        exact ⟨c, u, by simpa using h1, h2⟩

/- sums, sorting -/
noncomputable def intsOf (ns : List Int) : List AV := ns.map .int
theorem intsOf_are {ρ : List Addr} : ∀ {ns : List Int} {vs : List Value}, VRels ρ (intsOf ns) vs → IntsAre vs ns
  | [], _, h => by cases h; exact .nil
  | n :: ns, _, h => by
    cases h with
    | cons h t => cases h; exact .cons n _ (intsOf_are t)
theorem intsOf_of {ρ : List Addr} : ∀ {ns : List Int} {vs : List Value}, IntsAre vs ns → VRels ρ (intsOf ns) vs
  | _, _, .nil => .nil
  | _, _, .cons n t h => .cons (.int n t) (intsOf_of h)
theorem CallV.sumL {i : Nat} {ns : List Int} (ho : H[i]? = some (.list (intsOf ns))) : CallV W d (.bi "sum") [.loc i] [] H (.int ns.sum) H := .cases1 fun A ρ s X Q E rm sr hx K => by
  cases hx with
  | loc hi =>
    obtain ⟨vs, n, e, hv⟩ := sr.obj i _ _ ho hi
    have hI := intsOf_are hv
    obtain ⟨xs, hxs⟩ := hI.allInts.items
    have hl' : s.heap.IsList _ vs.toArray := ⟨_, e, rfl, n, rfl⟩
    rw [hxs] at hl'
    refine sum_intListG rm.1 hl' fun h' tk t' hk => ?_
    have e1 : ns = xs.toList.map (·.1) := by
      rw [← nums_intItems, ← hxs]
      exact (show numsOf vs.toArray.toList = ns from hI.numsOf).symm
    have e2 : preSum (numAt xs) xs.size = ns.sum := by
      rw [preSum_eq, List.take_of_length_le (by simp), e1]
    rw [e2]
    exact K ρ _ h' tk (sr.grown ⟨hk⟩) (.int _ _)
theorem CallV.sortedL {i : Nat} {ns : List Int} (ho : H[i]? = some (.list (intsOf ns))) (hz : ns.length < 64) : CallV W d (.bi "sorted") [.loc i] [] H (.loc H.length) (H ++ [.list (intsOf (ns.mergeSort (fun a b => decide (a ≤ b))))]) := .cases1 fun A ρ s X Q E rm sr hx K => by
  cases hx with
  | loc hi =>
    obtain ⟨vs, n, e, hv⟩ := sr.obj i _ _ ho hi
    have hI := intsOf_are hv
    refine sorted_ints (vs := vs) ⟨_, e, rfl, n, rfl⟩ hI (by rw [hI.length]; exact hz) fun out ns' h1 h2 h3 => ?_
    have hs : ns' = ns.mergeSort (fun a b => decide (a ≤ b)) := by
      have h4 := List.pairwise_mergeSort (le := fun a b : Int => decide (a ≤ b)) (by intro a b c; simp; omega) (by intro a b; simp; omega) ns
      have h5 : (ns.mergeSort (fun a b => decide (a ≤ b))).Pairwise (· ≤ ·) := h4.imp (by simp)
      exact List.Perm.eq_of_pairwise (fun a b _ _ h1 h2 => Int.le_antisymm h1 h2) h3 h5 (h2.trans (List.mergeSort_perm ns _).symm)
    subst hs
    obtain ⟨en, he⟩ := sortedAll_at s.heap vs out
    exact K _ _ _ s.toks (sr.alloc ⟨fun a o q => sortedAll_old q⟩ (noneAt (Nat.le_succ _)) ⟨out.toList, en, by simpa using he, intsOf_of h1⟩) sr.newLoc

/- a list's methods -/
theorem CallV.append {i : Nat} {xs : List AV} (ho : H[i]? = some (.list xs)) (hz : xs.length ≤ sizeLine) : CallV W d (.bi "list.append") [.loc i, a] [] H .none (H.set i (.list (xs ++ [a]))) := .cases2 fun A ρ s X Y Q E rm sr hx hy K => by
  cases hx with
  | loc hi =>
    obtain ⟨vs, n, e, hv⟩ := sr.obj i _ _ ho hi
    refine call_meets F.slot_list_append ⟨_, e, rfl⟩ entry_list_append (args_list_append _ _) (list_append _ vs.toArray n _ (by simp [← hv.length]; exact hz)) ⟨e, ?_⟩
    exact K ρ _ _ _ (sr.upd ho hi e _ (by simpa using hv.append (.cons hy .nil))) .none
theorem insert_core {prog : Program} {w : World} {A : Around} {E : Value → Shared → Prop} {s : Shared} {l : Addr} {items : Array Value} {n k : Nat} {x : Int} {u : Tok} {y : Value} {Q : Value → Shared → Prop} (hx : x = k) (hk : k ≤ items.size) (hz : items.size ≤ sizeLine) (hf : Builtin.List.listFitsIndex x = true)
    (e : s.heap.get? l = some { cls := .type "list", data := .seq items n }) (h : Q .none { s with heap := s.heap.update l (Obj.mapSeq fun xs => have k := if x < 0 then (x + (xs.size : Int)).toNat else min x.toNat xs.size; (xs.extract 0 k).push y ++ xs.extract k), toks := s.toks }) :
    wpAny (model prog w) A (call (.builtin "list.insert") [.ref l, .int x u, y]) Q E s :=
  call_meets F.slot_list_insert ⟨_, e, rfl⟩ F.entry_list_insert (F.args_list_insert_3 _ _ _) (AutoSeq1.list_insert_list_int_val_1 l items n x u y (by rw [hf]; decide) hz) ⟨e, h⟩
theorem CallV.insert {i : Nat} {xs : List AV} {k : Nat} (ho : H[i]? = some (.list xs)) (hk : k ≤ xs.length) (hz : xs.length ≤ sizeLine) : CallV W d (.bi "list.insert") [.loc i, .int k, a] [] H .none (H.set i (.list (xs.take k ++ a :: xs.drop k))) := .cases3 fun A ρ s X Y Z Q E rm sr hx hy hw K => by
  generalize hkk : (k : Int) = kk at hy
  cases hy
  cases hx with
  | loc hi =>
    obtain ⟨vs, n, e, hv⟩ := sr.obj i _ _ ho hi
    have hlen := hv.length
    have hz' : xs.length < 2 ^ 62 := by rw [sizeLine_eq] at hz; omega
    refine insert_core (k := k) (items := vs.toArray) hkk.symm (by rw [List.size_toArray, ← hlen]; exact hk) (by rw [List.size_toArray, ← hlen]; exact hz) (fitsIndex_of (by omega) (by omega)) e ?_
    refine K ρ _ _ _ (sr.upd ho hi e _ ?_) .none
    have e2 : ¬ kk < 0 := by omega
    have e3 : min kk.toNat vs.length = k := by omega
    simp only [if_neg e2, List.size_toArray, e3]
    have e4 : ((vs.toArray.extract 0 k).push Z ++ vs.toArray.extract k vs.length).toList = vs.take k ++ Z :: vs.drop k := by
      simp only [Array.toList_append, Array.toList_push, List.extract_toArray, List.extract_eq_drop_take, List.drop_zero, Nat.sub_zero]
      rw [List.take_of_length_le (l := vs.drop k) (by simp)]; simp
    rw [e4]
    exact (hv.take k).append (.cons hw (hv.drop k))
theorem CallV.pop0 {i : Nat} {xs : List AV} (ho : H[i]? = some (.list (a :: xs))) (hz : xs.length + 1 ≤ sizeLine) : CallV W d (.bi "list.pop") [.loc i, .int 0] [] H a (H.set i (.list xs)) := .cases2 fun A ρ s X Y Q E rm sr hx hy K => by
  cases hy
  cases hx with
  | loc hi =>
    obtain ⟨vs, n, e, hv⟩ := sr.obj i _ _ ho hi
    cases hv with
    | @cons _ V _ Vs h1 h2 =>
      have hlen := h2.length
      refine call_meets F.slot_list_pop ⟨_, e, rfl⟩ F.entry_list_pop (F.args_list_pop_2 _ _) (MeetsSeq.list_pop_at _ (V :: Vs).toArray n 0 _ 0 V (by decide) (by simp [seqIndex?]) rfl (by simp [← hlen]; exact hz)) ⟨e, ?_⟩
      exact K ρ _ _ _ (sr.upd ho hi e _ (by simpa using h2)) h1
end Mine

/- part -/
namespace Mine
open PySem.Calls

variable {W : SW} {d : Nat} {fi fi' : FI} {vars vars' vars'' : List (Option AV)} {cl cl' : List Nat} {H H1 H2 H3 H4 : List AO} {a b c v f ov : AV} {e l r elt : PySem.Expr} {pos : Pos} {vs : List AV}

noncomputable abbrev sp (x : List Nat) : Str := ⟨x.toArray⟩
noncomputable abbrev strsOf (ys : List (List Nat)) : List AV := ys.map .str
theorem strsOf_are {ρ : List Addr} : ∀ {ys : List (List Nat)} {vs : List Value}, VRels ρ (strsOf ys) vs → StrsAre vs (ys.map sp)
  | [], _, h => by cases h; exact .nil
  | y :: ys, _, h => by
    cases h with
    | cons h t => cases h; exact .cons (sp y) _ (strsOf_are t)
theorem strsOf_of {ρ : List Addr} : ∀ {ys : List Str} {vs : List Value}, StrsAre vs ys → VRels ρ (strsOf (ys.map (·.cps.toList))) vs
  | _, _, .nil => .nil
  | _, _, .cons y t h => .cons (.str y.cps.toList t) (strsOf_of h)

/- str methods -/
theorem glued_empty (ys : List (List Nat)) : Builtin.Str.glued (sp []) (ys.map sp) = sp ys.flatten := by
  unfold Builtin.Str.glued
  have key : ∀ (l : List (List Nat)) (acc : Array Nat), (l.map sp).foldl (fun acc (p : Str) => acc ++ (sp []).cps ++ p.cps) acc = acc ++ l.flatten.toArray := by
    intro l
    induction l with
    | nil => intro acc; simp
    | cons y l ih => intro acc; rw [List.map_cons, List.foldl_cons, ih]; simp
  cases ys with
  | nil => rfl
  | cons y l => simp only [List.map_cons, List.drop_succ_cons, List.drop_zero, List.headD_cons]; rw [key]; simp
theorem CallV.join0 {i : Nat} {ys : List (List Nat)} (ho : H[i]? = some (.list (strsOf ys))) (hz : ys.flatten.length ≤ 16777216) : CallV W d (.bi "str.join") [.str [], .loc i] [] H (.str ys.flatten) H := .cases2 fun A ρ s X Y Q E rm sr hx hy K => by
  cases hx
  cases hy with
  | loc hi =>
    obtain ⟨vs, n, e, hv⟩ := sr.obj i _ _ ho hi
    refine join_list (items := vs.toArray) ⟨_, e, rfl, n, rfl⟩ (strsOf_are hv) ?_ fun t' k => ?_
    · have : (((ys.map sp).map (·.length)).sum + (ys.map sp).length * (sp []).length) = ys.flatten.length := by
        simp [Str.length, List.length_flatten, List.map_map]
        rfl
      rw [this]; exact hz
    · show Q (.str (Builtin.Str.glued (sp []) (ys.map sp)) t') _
      rw [glued_empty]
      exact K ρ _ _ k (.refl sr) (.str _ _)
theorem CallV.startswith {x y : List Nat} : CallV W d (.bi "str.startswith") [.str x, .str y] [] H (.bool (0 + (sp y).length ≤ (sp x).length && Builtin.Str.subAt (sp x) (sp y) 0)) H := .cases2 fun A ρ s X Y Q E rm sr hx hy K => by
  cases hx; cases hy
  exact call_meets F.slot_str_startswith (typeIs_str _ _ _) F.entry_str_startswith (F.args_str_startswith_2 _ _) (gives_str_startswith _ _ _ _).meets (K ρ _ _ s.toks (.refl sr) (.bool _))
theorem CallV.endswith {x y : List Nat} : CallV W d (.bi "str.endswith") [.str x, .str y] [] H (.bool (0 + (sp y).length ≤ (sp x).length && Builtin.Str.subAt (sp x) (sp y) ((sp x).length - (sp y).length))) H := .cases2 fun A ρ s X Y Q E rm sr hx hy K => by
  cases hx; cases hy
  exact call_meets F.slot_str_endswith (typeIs_str _ _ _) F.entry_str_endswith (F.args_str_endswith_2 _ _) (gives_str_endswith _ _ _ _).meets (K ρ _ _ s.toks (.refl sr) (.bool _))
theorem gives_find4 (x y : Str) (i j : Int) (t u v w : Tok) : Gives (Builtin.«str.find» ⟨[.str x t, .str y u, .int i v, .int j w], []⟩) (.int (match Builtin.Str.occurrences x y (fromIndex x.length i) (min (fromIndex x.length j) x.length) 1 with | k :: _ => (k : Int) | [] => -1)) := by
  show Gives (match Builtin.Str.occurrences x y (fromIndex x.length i) (min (fromIndex x.length j) x.length) 1 with | k :: _ => retInt k | [] => (do rule "str.find.not-found"; retInt (-1))) _
  cases Builtin.Str.occurrences x y (fromIndex x.length i) (min (fromIndex x.length j) x.length) 1 with
  | nil => exact .rule (.of_eq rfl)
  | cons k _ => exact .of_eq rfl
noncomputable def findI (x y : List Nat) (i j : Int) : Int := match Builtin.Str.occurrences (sp x) (sp y) (fromIndex x.length i) (min (fromIndex x.length j) x.length) 1 with | k :: _ => (k : Int) | [] => -1
theorem CallV.find {x y : List Nat} {i j : Int} : CallV W d (.bi "str.find") [.str x, .str y, .int i, .int j] [] H (.int (findI x y i j)) H := by
  intro A ρ s F As Ks Q E rm sr hF hA hK K
  cases hF; cases hK
  cases hA with
  | cons h1 h2 => cases h2 with
    | cons h2 h3 => cases h3 with
      | cons h3 h4 => cases h4 with
        | cons h4 h5 =>
          cases h5; cases h1; cases h2; cases h3; cases h4
          exact call_meets PySem.F.slot_str_find (typeIs_str _ _ _) PySem.F.entry_str_find (PySem.F.args_str_find_4 _ _ _ _) (gives_find4 _ _ _ _ _ _ _ _).meets (K ρ _ _ _ (.refl sr) (.int _ _))
noncomputable def splitI (x y : List Nat) : List (List Nat) := (Builtin.Str.partsBetween (sp x) (Builtin.Str.occurrences (sp x) (sp y) 0 (sp x).length ((sp x).length + 1)) (sp y).length).map (·.cps.toList)
theorem strsFrom_are : ∀ (k : Nat) (l : List Str), StrsAre (strsFrom k l) l
  | _, [] => .nil
  | k, x :: r => .cons x k (strsFrom_are (k + 1) r)
theorem CallV.split {x y : List Nat} (h1 : (decide ((sp x).length < (sp y).length) || decide (Builtin.Str.strKind (sp x) < Builtin.Str.strKind (sp y))) = false) (hy : ((sp y).length == 0) = false)
    (hf : (Builtin.Str.occurrences (sp x) (sp y) 0 (sp x).length ((sp x).length + 1)).isEmpty = false) (hx : x.length ≤ sizeLine) (hn : (splitI x y).length ≤ sizeLine) :
    CallV W d (.bi "str.split") [.str x, .str y] [] H (.loc H.length) (H ++ [.list (strsOf (splitI x y))]) := .cases2 fun A ρ s X Y Q E rm sr hx' hy' K => by
  cases hx'; cases hy'
  refine call_meets PySem.F.slot_str_split (typeIs_str _ _ _) PySem.F.entry_str_split (PySem.F.args_str_split_2 _ _) (meets_str_split_sep _ _ _ _ h1 hy hf hx (by simpa [splitI] using hn)) ?_
  exact K _ _ _ _ (sr.alloc (.push _ _) (noneAt (Nat.le_refl _)) ⟨_, 0, Heap.get?_push_size _ rfl, strsOf_of (strsFrom_are _ _)⟩) sr.newLoc
theorem CallV.count {x y : List Nat} : CallV W d (.bi "str.count") [.str x, .str y] [] H (.int (Builtin.Str.occurrences (sp x) (sp y) 0 (sp x).length ((sp x).length + 1)).length) H := .cases2 fun A ρ s X Y Q E rm sr hx hy K => by
  cases hx; cases hy
  exact call_meets PySem.F.slot_str_count (typeIs_str _ _ _) PySem.F.entry_str_count (PySem.F.args_str_count_2 _ _) (gives_str_count _ _ _ _).meets (K ρ _ _ _ (.refl sr) (.int _ _))
theorem CallV.index {x y : List Nat} {i : Nat} {rest : List Nat} (h : Builtin.Str.occurrences (sp x) (sp y) 0 (sp x).length 1 = i :: rest) : CallV W d (.bi "str.index") [.str x, .str y] [] H (.int i) H := .cases2 fun A ρ s X Y Q E rm sr hx hy K => by
  cases hx; cases hy
  exact call_meets PySem.F.slot_str_index (typeIs_str _ _ _) PySem.F.entry_str_index (PySem.F.args_str_index_2 _ _) (gives_str_index _ _ _ _ i rest h).meets (K ρ _ _ _ (.refl sr) (.int _ _))

/- slices of str -/
theorem strIdx (lo hi : Option Int) (n : Nat) : Builtin.Str.strSliceIndices lo hi 1 n = (List.range (kms_hi hi n - kms_lo lo n)).map (kms_lo lo n + ·) := by
  rw [← sliceRange_one]
  have := kms_bounds lo hi n
  have h1 : (1 : Int) > 0 := by decide
  unfold Builtin.Str.strSliceIndices
  simp only [h1, if_true]
  congr 1
  · unfold kms_lo
    cases lo with
    | none => rfl
    | some x =>
      dsimp only
      by_cases h : x < 0
      · rw [if_pos h, if_pos h]; omega
      · rw [if_neg h, if_neg h]; omega
  · unfold kms_hi
    cases hi with
    | none => rfl
    | some x =>
      dsimp only
      by_cases h : x < 0
      · rw [if_pos h, if_pos h]; omega
      · rw [if_neg h, if_neg h]; omega
theorem filterMap_run (x : List Nat) (a n : Nat) (h : a + n ≤ x.length) : ((List.range n).map (a + ·)).filterMap (x[·]?) = (x.drop a).take n := by
  induction n generalizing a with
  | zero => simp
  | succ n ih =>
    rw [List.range_succ, List.map_append, List.filterMap_append, ih a (by omega), List.take_succ]
    congr 1
    rw [List.getElem?_drop]
    have hlt : a + n < x.length := by omega
    rw [List.getElem?_eq_getElem hlt]
    simp [hlt]
theorem sliceMade_eq (x : List Nat) (t : Tok) (l u : Option (Int × Tok)) {Q : Value → Shared → Prop} {s : Shared} (h : ∀ t' k, Q (.str (sp (pk x (l.map (·.1)) (u.map (·.1)))) t') { s with toks := k }) (hz : x.length ≤ sizeLine) : (sliceMade (sp x) t l u Option.none).post Q s := by
  have e : Builtin.Str.strSliceIndices (l.map (·.1)) (u.map (·.1)) 1 (sp x).length = (List.range (kms_hi (u.map (·.1)) x.length - kms_lo (l.map (·.1)) x.length)).map (kms_lo (l.map (·.1)) x.length + ·) := strIdx _ _ _
  have hl := kms_lo_le (l.map (·.1)) x.length
  have hh := kms_hi_le (u.map (·.1)) x.length
  unfold sliceMade slicePicked
  simp only [Option.map_none, Option.getD_none, e]
  split
  · rename_i q
    simp only [beq_self_eq_true, Bool.true_and, List.length_map, List.length_range, beq_iff_eq] at q
    have q' : kms_hi (u.map (·.1)) x.length - kms_lo (l.map (·.1)) x.length = x.length := q
    have : pk x (l.map (·.1)) (u.map (·.1)) = x := by
      unfold pk
      rw [q']
      by_cases h0 : x.length = 0
      · have : x = [] := List.eq_nil_of_length_eq_zero h0
        subst this; simp
      · have : kms_lo (l.map (·.1)) x.length = 0 := by omega
        rw [this]; simp
    rw [this] at h
    exact h t s.toks
  · have : (((List.range (kms_hi (u.map (·.1)) x.length - kms_lo (l.map (·.1)) x.length)).map (kms_lo (l.map (·.1)) x.length + ·)).filterMap ((sp x).cps[·]?)).toArray = (pk x (l.map (·.1)) (u.map (·.1))).toArray := by
      congr 1
      unfold pk
      rw [← filterMap_run x _ _ (by omega)]
      simp
    rw [this]
    refine ⟨?_, h _ _⟩
    show (pk x _ _).length ≤ _
    unfold pk
    simp; omega
theorem EvE.sliceStr {value : PySem.Expr} {lower upper : Option PySem.Expr} {p : Pos} {lo hi : Option Int} {x : List Nat} (h1 : EvE W d fi value vars cl H (.str x) H1) (h2 : EvP W d fi lower vars cl H1 lo H2) (h3 : EvP W d fi upper vars cl H2 hi H3) (hz : x.length ≤ sizeLine) :
    EvE W d fi (.Subscript value (.Slice lower upper Option.none p) pos) vars cl H (.str (pk x lo hi)) H3 := by
  intro A env L ρ s Q E rm eo sr fr K
  refine Subscript_ (h1 A env L ρ s _ E rm eo sr fr fun ρ1 V1 g1 t1 p1 v1 => ?_)
  refine wpAny_Slice (h2.run rm (p1.env eo) p1.sr (p1.fr fr) fun ρ2 V2 g2 t2 p2 w2 v2 => ?_)
  have P2 := p1.trans p2
  refine h3.run rm (P2.env eo) p2.sr (P2.fr fr) fun ρ3 V3 g3 t3 p3 w3 v3 => ?_
  rw [evalPart_none]
  refine wpAny_pure ?_
  have P3 := P2.trans p3
  obtain ⟨_, tl, rfl⟩ := w2
  obtain ⟨_, tu, rfl⟩ := w3
  cases v1 with
  | str _ t =>
    refine tail_gen (ops := [_, _]) (typeIs_str _ _ _) slot_str_getitem.lookup (wpAny_getItem_str_slice (st := Option.none) ⟨_, Heap.get?_push_size _ rfl, rfl, rfl⟩ rfl (sliceMade_eq x t _ _ (fun t' k => ?_) hz)) rfl
    have e1 : ∀ (o : Option Int) (t : Nat), (o.map fun k => (k, t)).map (·.1) = o := fun o t => by cases o <;> rfl
    rw [e1, e1]
    exact K ρ3 _ _ k (P3.trans (p3.sr.grown (.push _ _))) (.str _ _)
end Mine

/- part -/
namespace Mine
open PySem.Calls

variable {W : SW} {d : Nat} {fi fi' : FI} {vars vars' vars'' : List (Option AV)} {cl cl' : List Nat} {H H1 H2 H3 H4 : List AO} {a b c v f ov : AV} {e l r elt : PySem.Expr} {pos : Pos} {vs : List AV}

/- deep data -/
mutual
inductive Dat (H : List AO) : AV → PyData → Prop
  | int (n : Int) : Dat H (.int n) (.int n)
  | str (x : List Nat) : Dat H (.str x) (.str (sp x))
  | list {i : Nat} {xs : List AV} {ds : List PyData} (ho : H[i]? = some (.list xs)) (h : DatL H xs ds) : Dat H (.loc i) (.list ds)
inductive DatL (H : List AO) : List AV → List PyData → Prop
  | nil : DatL H [] []
  | cons {v : AV} {vs : List AV} {d : PyData} {ds : List PyData} (h : Dat H v d) (t : DatL H vs ds) : DatL H (v :: vs) (d :: ds)
end
mutual
theorem Dat.reads {ρ : List Addr} {h : Heap} (sr : SR W ρ H h) : ∀ {v : AV} {dt : PyData} {V : Value}, Dat H v dt → VRel ρ v V → ∃ as, Reads h V dt as
  | _, _, _, .int n, .int _ t => ⟨[], .int n t⟩
  | _, _, _, .str x, .str _ t => ⟨[], .str _ t⟩
  | _, _, _, .list (i := i) ho hl, .loc hi => by
    obtain ⟨vs, n, e, hv⟩ := sr.obj i _ _ ho hi
    obtain ⟨as, ra⟩ := DatL.reads sr hl hv
    exact ⟨_, .list e rfl rfl (by simpa using ra)⟩
theorem DatL.reads {ρ : List Addr} {h : Heap} (sr : SR W ρ H h) : ∀ {vs : List AV} {ds : List PyData} {Vs : List Value}, DatL H vs ds → VRels ρ vs Vs → ∃ as, ReadsAll h Vs ds as
  | _, _, _, .nil, .nil => ⟨[], .nil⟩
  | _, _, _, .cons hd tl, .cons r t => by
    obtain ⟨as, h1⟩ := Dat.reads sr hd r
    obtain ⟨bs, h2⟩ := DatL.reads sr tl t
    exact ⟨_, .cons h1 h2⟩
end
theorem DatL.ints {ns : List Int} : DatL H (intsOf ns) (ns.map .int) := by
  induction ns with
  | nil => exact .nil
  | cons n ns ih => exact .cons (.int n) ih
theorem DatL.strs {ys : List (List Nat)} : DatL H (strsOf ys) (ys.map fun y => .str (sp y)) := by
  induction ys with
  | nil => exact .nil
  | cons n ns ih => exact .cons (.str n) ih
theorem OpV.eqD {d1 d2 : PyData} (h1 : Dat H a d1) (h2 : Dat H b d2) (c1 : d1.canLay0 = true) (c2 : d2.canLay0 = true) (hd : d1.depth ≤ 20) : OpV W (compareOp .Eq) a b H (.bool (PyData.eqv d1 d2)) H := by
  intro A ρ s X Y Q E rm sr hx hy K
  obtain ⟨as, r1⟩ := h1.reads sr hx
  obtain ⟨bs, r2⟩ := h2.reads sr hy
  have hu := rm.2.2
  have hc : cLine = 9900 := rfl
  exact SeqAt.compareEq_reads r1 r2 c1 c2 (by omega) (K ρ _ _ s.toks (.refl sr) (.bool _))
theorem OpV.neD {d1 d2 : PyData} (h1 : Dat H a d1) (h2 : Dat H b d2) (c1 : d1.canLay0 = true) (c2 : d2.canLay0 = true) (hd : d1.depth ≤ 20) : OpV W (compareOp .NotEq) a b H (.bool (!PyData.eqv d1 d2)) H := by
  intro A ρ s X Y Q E rm sr hx hy K
  obtain ⟨as, r1⟩ := h1.reads sr hx
  obtain ⟨bs, r2⟩ := h2.reads sr hy
  have hu := rm.2.2
  have hc : cLine = 9900 := rfl
  exact SeqAt.compareNe_reads r1 r2 c1 c2 (by omega) (K ρ _ _ s.toks (.refl sr) (.bool _))
theorem OpV.inD {d1 : PyData} {ds : List PyData} (h1 : Dat H a d1) (h2 : Dat H b (.list ds)) (c1 : d1.canLay0 = true) (c2 : PyData.canLayAll0 ds = true) (hd : d1.depth ≤ 20) : OpV W (compareOp .In) a b H (.bool (ds.any fun y => PyData.eqv y d1)) H := by
  intro A ρ s X Y Q E rm sr hx hy K
  obtain ⟨as, r1⟩ := h1.reads sr hx
  obtain ⟨bs, r2⟩ := h2.reads sr hy
  have hu := rm.2.2
  have hc : cLine = 9900 := rfl
  exact SeqAt.in_list_reads r2 r1 c2 c1 (by omega) (K ρ _ _ s.toks (.refl sr) (.bool _))
theorem eqv_ints (ns ms : List Int) : PyData.eqv (.list (ns.map .int)) (.list (ms.map .int)) = (ns == ms) := by
  rw [PyData.eqv]
  induction ns generalizing ms with
  | nil => cases ms <;> simp [PyData.eqvAll]
  | cons n ns ih => cases ms with
    | nil => simp [PyData.eqvAll]
    | cons m ms => simp [PyData.eqvAll, PyData.eqv, ih]
theorem eqv_strs (ns ms : List (List Nat)) : PyData.eqv (.list (ns.map fun y => .str (sp y))) (.list (ms.map fun y => .str (sp y))) = (ns == ms) := by
  rw [PyData.eqv]
  induction ns generalizing ms with
  | nil => cases ms <;> simp [PyData.eqvAll]
  | cons n ns ih => cases ms with
    | nil => simp [PyData.eqvAll]
    | cons m ms =>
      have : (sp n == sp m) = (n == m) := by
        by_cases h : n = m
        · subst h; simp
        · have h2 : sp n ≠ sp m := fun q => h (by injection q with q; simpa using congrArg Array.toList q)
          rw [beq_eq_false_iff_ne.mpr h, beq_eq_false_iff_ne.mpr h2]
      simp [PyData.eqvAll, PyData.eqv, ih, this]
theorem canLay_ints (ns : List Int) : PyData.canLayAll0 (ns.map .int) = true := by
  induction ns with
  | nil => rfl
  | cons n ns ih => simp [PyData.canLayAll0, PyData.canLay0, ih]
theorem canLay_strs (ns : List (List Nat)) (h : ∀ y ∈ ns, ∀ c ∈ y, c < 0x110000) : PyData.canLayAll0 (ns.map fun y => .str (sp y)) = true := by
  induction ns with
  | nil => rfl
  | cons n ns ih =>
    simp only [List.map_cons, PyData.canLayAll0, PyData.canLay0, ih fun y hy => h y (.tail _ hy), Bool.and_true]
    unfold PyData.strOk
    simp only [sp, List.all_toArray, List.all_eq_true, decide_eq_true_eq]
    exact h n (.head _)
theorem depth_ints (ns : List Int) : PyData.depthAll (ns.map .int) = 0 := by
  induction ns with
  | nil => rfl
  | cons n ns ih => simp [PyData.depthAll, PyData.depth, ih]
theorem depth_strs (ns : List (List Nat)) : PyData.depthAll (ns.map fun y => .str (sp y)) = 0 := by
  induction ns with
  | nil => rfl
  | cons n ns ih => simp [PyData.depthAll, PyData.depth, ih]

/- list + list, list * int -/
theorem OpV.addL {i j : Nat} {xs ys : List AV} (h1 : H[i]? = some (.list xs)) (h2 : H[j]? = some (.list ys)) (hz : xs.length + ys.length ≤ sizeLine) : OpV W (binaryOp .Add) (.loc i) (.loc j) H (.loc H.length) (H ++ [.list (xs ++ ys)]) := by
  intro A ρ s X Y Q E rm sr hx hy K
  cases hx with
  | loc hi => cases hy with
    | loc hj =>
      obtain ⟨vs, n, e, hv⟩ := sr.obj i _ _ h1 hi
      obtain ⟨ws, m, e2, hw⟩ := sr.obj j _ _ h2 hj
      refine P.add_list (items := vs.toArray) (items2 := ws.toArray) e e2 ?_ (by simp [← hv.length, ← hw.length]; exact hz)
      exact K _ _ _ s.toks (sr.alloc (.push _ _) (noneAt (Nat.le_refl _)) ⟨vs ++ ws, 0, by rw [Heap.get?_push_size _ rfl]; simp, by simpa using (hv.append hw).mono⟩) sr.newLoc

theorem foldl_rep {α : Type} (l : List α) : ∀ (k : Nat) (acc : Array α), List.foldl (fun x1 x2 => x1 ++ x2) acc (List.replicate k l.toArray) = acc ++ ((List.replicate k l).flatten).toArray
  | 0, acc => by simp
  | k + 1, acc => by rw [List.replicate_succ, List.foldl_cons, foldl_rep l k, List.replicate_succ, List.flatten_cons]; simp
theorem VRels.rep {ρ : List Addr} {xs : List AV} {Xs : List Value} (h : VRels ρ xs Xs) : ∀ k, VRels ρ ((List.replicate k xs).flatten) ((List.replicate k Xs).flatten)
  | 0 => .nil
  | k + 1 => by rw [List.replicate_succ, List.replicate_succ, List.flatten_cons, List.flatten_cons]; exact h.append (h.rep k)
theorem mul_core {prog : Program} {w : World} {A : Around} {E : Value → Shared → Prop} {s : Shared} {l : Addr} {items : Array Value} {k : Nat} {x : Int} {u : Tok} {Q : Value → Shared → Prop}
    (hl : s.heap.get? l = some { cls := .type "list", dict := none, data := .seq items k, slots := #[] }) (hne : items.isEmpty = false)
    (hlo : -(2 ^ 63 : Int) ≤ x) (hhi : x < 2 ^ 63) (hsz : items.size * x.toNat ≤ 2 ^ 24)
    (h : Q (.ref s.heap.objs.size) { s with heap := s.heap.push { cls := .type "list", data := .seq (List.foldl (fun x1 x2 => x1 ++ x2) #[] (List.replicate (if items.isEmpty = true then 0 else x.toNat) items)) } }) :
    wpAny (model prog w) A (binaryOp .Mult (.ref l) (.int x u)) Q E s :=
  wpAny_binaryOp_repeat_ref (T := "list") (U := "int") (by decide) ⟨_, hl, rfl⟩ (fun s' => typeIs_int s' x u) noFill_list_mul PySem.F.fills_int_mul PySem.F.slot_int_rmul repeat_list PySem.F.slot_int_index.lookup
    (call_meets PySem.F.slot_int_rmul (typeIs_int s x u) PySem.F.entry_int_rmul (PySem.F.args_int_rmul_2 _ _) (int___rmul___int_list x u l items k)
      ⟨hl, rfl, ⟨_, hl, rfl⟩, call_meets PySem.F.slot_list_mul ⟨_, hl, rfl⟩ PySem.F.entry_list_mul (PySem.F.args_list_mul_2 _ _)
        (AutoListH.list___mul___list_int_3 l items k x u (by simp [Builtin.List.listFitsIndex]; omega) (by omega) (by simp [Builtin.List.listTooLong, sizeLine]; omega))
        ⟨hl, h⟩⟩)
theorem OpV.mulL {i : Nat} {x : AV} {k : Int} (h1 : H[i]? = some (.list [x])) (hk : 0 ≤ k) (hz : k ≤ 1000) : OpV W (binaryOp .Mult) (.loc i) (.int k) H (.loc H.length) (H ++ [.list (List.replicate k.toNat x)]) := by
  intro A ρ s X Y Q E rm sr hx hy K
  cases hy
  cases hx with
  | loc hi =>
    obtain ⟨vs, n, e, hv⟩ := sr.obj i _ _ h1 hi
    cases hv with
    | @cons _ V _ Vs r t =>
      cases t
      refine mul_core (items := [V].toArray) e rfl (by omega) (by omega) (by simp; omega) ?_
      rw [if_neg (by simp), foldl_rep]
      have : (#[] ++ ((List.replicate k.toNat [V]).flatten).toArray : Array Value) = (List.replicate k.toNat V).toArray := by
        simp [List.flatten_replicate_singleton]
      rw [this]
      have rr : ∀ m, VRels ρ (List.replicate m x) (List.replicate m V) := fun m => by
        induction m with
        | zero => exact .nil
        | succ m ih => exact .cons r ih
      exact K _ _ _ s.toks (sr.alloc (.push _ _) (noneAt (Nat.le_refl _)) ⟨_, 0, Heap.get?_push_size _ rfl, (rr _).mono⟩) sr.newLoc

/- del l[k], l[k] = v -/
theorem ExS.delItem {o i : PySem.Expr} {spos : Pos} {j : Nat} {xs : List AV} {k : Int} {m : Nat} (ho : EvE W d fi o vars cl H (.loc j) H1) (hi : EvE W d fi i vars cl H1 (.int k) H2) (hx : H2[j]? = some (.list xs)) (hm : seqIndex? k xs.length = some m) (hz : xs.length ≤ sizeLine) :
    ExS W d fi (.Delete [.Subscript o i spos] pos) vars cl H .next vars (H2.set j (.list (xs.eraseIdx m))) := by
  intro A env L ρ s Q E rm eo sr fr K
  refine wpAny_Delete (wpAny_deleteEach_cons ?_)
  rw [arm_delete_Subscript]
  refine wpAny_bind (ho A env L ρ s _ E rm eo sr fr fun ρ1 V1 g1 t1 p1 v1 => ?_)
  refine wpAny_bind (wpAny_holding (hi A env L ρ1 _ _ E rm (p1.env eo) p1.sr (p1.fr fr) fun ρ2 V2 g2 t2 p2 v2 => ?_))
  refine wpAny_bind (wpAny_standAt (wpAny_bind (wpAny_holding ?_)))
  have P2 := p1.trans p2
  cases v2
  cases p2.vrel v1 with
  | loc hj =>
    obtain ⟨vs, n, e, hv⟩ := p2.sr.obj j _ _ hx hj
    have hlen := hv.length
    obtain ⟨b1, b2, b3, b4, b5⟩ := idx_bounds hm
    rw [sizeLine_eq] at hz
    refine P.delItem_list (items := vs.toArray) (n := n) e (by unfold Builtin.List.listFitsIndex; simp only [Bool.and_eq_true, decide_eq_true_eq]; omega) (by rw [List.size_toArray, ← hlen]; exact hm) ?_ (by rw [List.size_toArray, ← hlen, sizeLine_eq]; exact hz)
    have p3 : Post W [] ρ2 ρ2 (H2.set j (.list (xs.eraseIdx m))) g2 (g2.update _ (Obj.mapSeq fun xs => xs.eraseIdxIfInBounds m)) := p2.sr.upd hx hj e _ (by
      have : (vs.toArray.eraseIdxIfInBounds m).toList = vs.eraseIdx m := by simp
      rw [this]
      have er : ∀ {xs : List AV} {Xs : List Value} (m : Nat), VRels ρ2 xs Xs → VRels ρ2 (xs.eraseIdx m) (Xs.eraseIdx m) := by
        intro xs Xs m h
        induction h generalizing m with
        | nil => exact .nil
        | cons h t ih => cases m with
          | zero => exact t
          | succ m => exact .cons h (ih m)
      exact er m hv)
    have P3 := P2.trans p3
    have fin : wpAny W.M A (deleteEach [] env) (fun _ s₁ => Q .next s₁) E { s with heap := g2.update _ (Obj.mapSeq fun xs => xs.eraseIdxIfInBounds m), toks := t2 } := wpAny_deleteEach_nil (K ρ2 _ _ t2 P3.nilw (P3.fr fr) .next)
    exact wpAny_release fin

theorem VRels.set {ρ : List Addr} {xs : List AV} {Xs : List Value} {x : AV} {X : Value} (h : VRels ρ xs Xs) (r : VRel ρ x X) (m : Nat) : VRels ρ (xs.set m x) (Xs.set m X) := by
  induction h generalizing m with
  | nil => exact .nil
  | cons h t ih => cases m with
    | zero => exact .cons r t
    | succ m => exact .cons h (ih m)
theorem setItem_core {prog : Program} {w : World} {A : Around} {E : Value → Shared → Prop} {s : Shared} {l : Addr} {items : List Value} {n m j : Nat} {k : Int} {u : Tok} {v : Value} {Q : Unit → Shared → Prop} (hk : k = Int.negSucc j) (e : s.heap.get? l = some (listO items n)) (hm : seqIndex? k items.length = some m) (hz : items.length < 2 ^ 62)
    (h : Q () { s with heap := s.heap.update l (Obj.mapSeq (·.setIfInBounds m v)) }) : wpAny (model prog w) A (setItem (.ref l) (.int k u) v) Q E s := by
  obtain ⟨b1, b2, b3, b4, b5⟩ := idx_bounds hm
  unfold setItem
  try with_reducible refine wpAny_holding ?_
  first | refine wpAny_bind (wpAny_pure ?_) | skip
  have hl : s.heap.IsList l items.toArray := ⟨_, e, rfl, n, rfl⟩
  refine wpAny_bind (wpAny_sequenceKey hl.typeIs (by decide) ?_)
  refine wpAny_bind (wpAny_callSpecial?_slot (name := Str.ofString "__setitem__") hl.typeIs slot_list_setitem
    (wpAny_call_entry slot_list_setitem hl.typeIs entry_list_setitem ?_ (args_list_setitem _ _ _)))
  show wpAny _ _ (Builtin.List.listSubscript? (.int k u) >>= _) _ _ s
  refine wpAny_bind (wpAny_listSubscript_int (by unfold Builtin.List.listFitsIndex; simp only [Bool.and_eq_true, decide_eq_true_eq]; omega) ?_)
  clear b1 b2 b4 b5
  subst hk
  show wpAny _ _ ((Builtin.List.listItems (.ref l) >>= fun xs => pure ((seqIndex? (Int.negSucc j) xs.size).bind fun i => xs[i]?.map (i, ·))) >>= _) _ _ s
  refine wpAny_bind (wpAny_bind ?_)
  show wpAny _ _ (seqItems? (.ref l) >>= _) _ _ s
  refine wpAny_bind (wpAny_seqItems e rfl (wpAny_pure (wpAny_pure ?_)))
  rw [List.size_toArray, hm]
  have hx : items.toArray[m]? = some items[m] := by simp [b3]
  simp only [Option.bind_some, hx, Option.map_some]
  show wpAny _ _ (setSeqItemAt l m v >>= _) _ _ s
  refine wpAny_bind (wpAny_setSeqItemAt e rfl ?_)
  first
    | exact wpAny_bind (wpAny_pure (wpAny_pure ⟨.none, rfl, wpAny_pure h⟩))
    | exact wpAny_pure ⟨.none, rfl, wpAny_pure h⟩
theorem ExS.setItem {o i : PySem.Expr} {spos : Pos} {j jj : Nat} {xs : List AV} {k : Int} {m : Nat} (hv : EvE W d fi e vars cl H v H1) (ho : EvE W d fi o vars cl H1 (.loc j) H2) (hi : EvE W d fi i vars cl H2 (.int k) H3) (hx : H3[j]? = some (.list xs)) (hm : seqIndex? k xs.length = some m) (hz : xs.length < 2 ^ 62)
    (hk : k = Int.negSucc jj) (hs : ∀ env, swapsWith e (some (.Subscript o i spos)) pos.line env = pure false := by intro _; rfl) :
    ExS W d fi (.Assign [.Subscript o i spos] e pos) vars cl H .next vars (H3.set j (.list (xs.set m v))) := by
  intro A env L ρ s Q E rm eo sr fr K
  refine wpAny_Assign_Subscript (hs := hs env) (hv A env L ρ s _ E rm eo sr fr fun ρ1 V1 g1 t1 p1 v1 => ?_)
  refine ho A env L ρ1 _ _ E rm (p1.env eo) p1.sr (p1.fr fr) fun ρ2 V2 g2 t2 p2 v2 => ?_
  have P2 := p1.trans p2
  refine hi A env L ρ2 _ _ E rm (P2.env eo) p2.sr (P2.fr fr) fun ρ3 V3 g3 t3 p3 v3 => ?_
  have P3 := P2.trans p3
  cases v3
  cases p3.vrel v2 with
  | loc hj =>
    obtain ⟨vs, n, e, hv⟩ := p3.sr.obj j _ _ hx hj
    refine setItem_core hk e (by rw [← hv.length]; exact hm) (by rw [← hv.length]; exact hz) ?_
    have p4 : Post W [] ρ3 ρ3 (H3.set j (.list (xs.set m v))) g3 (g3.update _ (Obj.mapSeq (·.setIfInBounds m V1))) := p3.sr.upd hx hj e _ (by
      have : (vs.toArray.setIfInBounds m V1).toList = vs.set m V1 := by simp
      rw [this]
      exact hv.set (p3.vrel (p2.vrel v1)) m)
    have P4 := P3.trans p4
    exact K ρ3 _ _ t3 P4.nilw (P4.fr fr) .next

/- x, y = (a, b) -/
theorem ExS.assignTup2 {es : List PySem.Expr} {x y : Str} {px py tpos vpos : Pos} {k1 k2 : Nat} (i j : Nat) (h : EvEs W d fi es vars cl H [a, b] H1) (hx : fi.ns[i]? = some x) (hy : fi.ns[j]? = some y) (kx : fi.kof x = some .local) (ky : fi.kof y = some .local) (hnd : fi.ns.Nodup)
    (hs : ∀ env, swapsWithSole [.Tuple [.Name x px, .Name y py] k1 tpos] (.Tuple es k2 vpos) pos.line env = pure false := by intro _; rfl)
    (hw : ∀ env, env.scope.kind = .function → env.kindOf x = some .local → env.kindOf y = some .local → swappedStores [.Tuple [.Name x px, .Name y py] k1 tpos] (.Tuple es k2 vpos) env = pure (some [x, y]) := by intro _ _ _ _; rfl) :
    ExS W d fi (.Assign [.Tuple [.Name x px, .Name y py] k1 tpos] (.Tuple es k2 vpos) pos) vars cl H .next ((vars.set j (some b)).set i (some a)) (H1 ++ [.tup [a, b]]) := by
  intro A env L ρ s Q E rm eo sr fr K
  refine Assign_Tuple_swapped (hs := hs env) (hw := hw env eo.kind ((eo.kof x).trans kx) ((eo.kof y).trans ky)) ?_
  refine (EvE.tup h (by rw [sizeLine_eq]; simp)) A env L ρ s _ E rm eo sr fr fun ρ1 V1 g1 t1 p1 v1 => ?_
  have f1 := p1.fr fr
  cases v1 with
  | loc hi =>
    obtain ⟨vs, n, e, hv⟩ := p1.sr.obj _ _ _ (by rw [List.getElem?_append_right (Nat.le_refl _), Nat.sub_self]; rfl) hi
    cases hv with
    | @cons _ X _ _ r1 t => cases t with
      | @cons _ Y _ _ r2 t =>
        cases t
        refine unpackItems_tuple (items := [X, Y].toArray) rm.1 ⟨_, e, rfl, n, rfl⟩ fun h2 he => ?_
        obtain ⟨n1, n2⟩ := p1.sr.newOut
        have p2 : Post W [g1.objs.size] ρ1 ρ1 (H1 ++ [.tup [a, b]]) g1 h2 := p1.sr.frame n1 n2 he
        have p2' : Post W [] ρ1 ρ1 (H1 ++ [.tup [a, b]]) g1 h2 := p2.drop (.inl (noneAt (Nat.le_refl _)))
        have f2 := p2'.fr f1
        have P2 := p1.trans p2'
        refine assignInOrder_cons (bindName_ (store_local hnd hy ky (P2.env eo) p2'.sr f2 r2 fun h3 t3 p3 f3 => ?_))
        refine assignInOrder_cons (bindName_ (store_local hnd hx kx (P2.env eo) p3.sr f3 r1 fun h4 t4 p4 f4 => ?_))
        exact assignInOrder_nil (K ρ1 _ h4 t4 ((P2.nilw.transL f2 p3).transL f3 p4) f4 .next)

/- iter(list), next -/
theorem CallV.iterL {i : Nat} {xs : List AV} (ho : H[i]? = some (.list xs)) : CallV W d (.bi "iter") [.loc i] [] H (.loc H.length) (H ++ [.liter i 0]) := .cases1 fun A ρ s X Q E rm sr hx K => by
  cases hx with
  | loc hi =>
    obtain ⟨vs, n, e, hv⟩ := sr.obj i _ _ ho hi
    refine call_function_entry (by decide +kernel) (by decide +kernel) kdk_entry_iter (kdk_args_iter _) ?_
    unfold Builtin.«iter»
    refine wpAny_bind (m := someArgs "iter" 1 2 _) (wpAny_of_eq (a := [_]) (by first | rfl | kernel_rfl!) ?_)
    dsimp only
    refine wpAny_bind (wpAny_pyIter_list (items := vs.toArray) ⟨_, e, rfl, n, rfl⟩ (wpAny_pure ⟨_, rfl, ?_⟩))
    exact K _ _ _ s.toks (sr.alloc (.push _ _) (noneAt (Nat.le_refl _)) ⟨_, get_app hi, _, Heap.get?_push_size _ rfl, rfl, rfl⟩) sr.newLoc
theorem CallV.nextL {i l k : Nat} {xs : List AV} (ho : H[i]? = some (.liter l k)) (hl : H[l]? = some (.list xs)) (hx : xs[k]? = some v) : CallV W d (.bi "next") [.loc i] [] H v (H.set i (.liter l (k + 1))) := .cases1 fun A ρ s X Q E rm sr hX K => by
  cases hX with
  | loc hi =>
    obtain ⟨b, hb, hit⟩ := sr.obj i _ _ ho hi
    obtain ⟨vs, n, e, hv⟩ := sr.obj l _ _ hl hb
    obtain ⟨V, hV, rv⟩ := hv.get k v hx
    refine call_function_entry (by decide +kernel) (by decide +kernel) kdk_entry_next (kdk_args_next _) ?_
    unfold Builtin.«next»
    refine wpAny_bind (m := someArgs "next" 1 2 _) (wpAny_of_eq (a := [_]) (by first | rfl | kernel_rfl!) ?_)
    dsimp only
    refine wpAny_bind (wpAny_specialOf (name := Str.ofString "__next__") hit.typeIs slot_listiter_next.lookup ?_)
    refine wpAny_ite_split (fun hab => absurd hab (by decide)) (fun _ => ?_)
    refine wpAny_bind ?_
    obtain ⟨o, ho', hc, hd⟩ := id hit
    refine wpAny_callSpecial?_slot (name := Str.ofString "__next__") hit.typeIs slot_listiter_next
      (wpAny_call_entry slot_listiter_next hit.typeIs entry_listiter_next ?_ (args_listiter_next _))
    show wpAny _ _ (field (.ref _) 0 >>= _) _ _ s
    refine wpAny_bind (wpAny_field ho' hd (x := .ref b) rfl ?_)
    show wpAny _ _ (if (Value.ref b == Value.none) = true then _ else _) _ _ s
    rw [if_neg (show ¬ ((Value.ref b == Value.none) = true) from Bool.false_ne_true)]
    show wpAny _ _ (field (.ref _) 1 >>= _) _ _ s
    refine wpAny_bind (wpAny_field ho' hd (x := .int k 0) rfl ?_)
    show wpAny _ _ (seqItems? (.ref b) >>= _) _ _ s
    refine wpAny_bind (wpAny_seqItems e rfl ?_)
    have hV' : vs.toArray[k]? = some V := by simpa using hV
    simp only [Int.toNat_natCast, hV']
    refine wpAny_bind (wpAny_setField ho' hd (by simp) (wpAny_pure ⟨V, rfl, wpAny_pure ⟨_, rfl, K ρ V _ s.toks (sr.set ho hi rfl (Heap.SameBut.update ..).extBut ⟨b, hb, ?_⟩) rv⟩⟩))
    exact ⟨_, Heap.get?_update_self _ ho' (Obj.isFreed_of_fields (Obj.data_mapFields hd _)), (Obj.cls_mapFields ..).trans hc, by
      rw [Obj.data_mapFields hd]; simp [rawInt]⟩
end Mine

/- part -/
namespace Mine
open PySem.Calls

variable {W : SW} {d : Nat} {fi fi' : FI} {vars vars' vars'' : List (Option AV)} {cl cl' : List Nat} {H H1 H2 H3 H4 : List AO} {a b c v f ov : AV} {e l r elt : PySem.Expr} {pos : Pos} {vs : List AV}

/- what there is at the end, and what holds of it -/
noncomputable def XE (W : SW) (d : Nat) (fi : FI) (e : PySem.Expr) (vars : List (Option AV)) (cl : List Nat) (H : List AO) (D : AV → List AO → Prop) : Prop := ∃ v H', EvE W d fi e vars cl H v H' ∧ D v H'
noncomputable def XEs (W : SW) (d : Nat) (fi : FI) (es : List PySem.Expr) (vars : List (Option AV)) (cl : List Nat) (H : List AO) (D : List AV → List AO → Prop) : Prop := ∃ vs H', EvEs W d fi es vars cl H vs H' ∧ D vs H'
noncomputable def XT (W : SW) (d : Nat) (fi : FI) (e : PySem.Expr) (vars : List (Option AV)) (cl : List Nat) (H : List AO) (D : Bool → List AO → Prop) : Prop := ∃ b H', IsT W d fi e vars cl H b H' ∧ D b H'
noncomputable def XS (W : SW) (d : Nat) (fi : FI) (st : Stmt) (vars : List (Option AV)) (cl : List Nat) (H : List AO) (D : AF → List (Option AV) → List AO → Prop) : Prop := ∃ f vars' H', ExS W d fi st vars cl H f vars' H' ∧ D f vars' H'
noncomputable def XB (W : SW) (d : Nat) (fi : FI) (ss : List Stmt) (vars : List (Option AV)) (cl : List Nat) (H : List AO) (D : AF → List (Option AV) → List AO → Prop) : Prop := ∃ f vars' H', ExB W d fi ss vars cl H f vars' H' ∧ D f vars' H'
noncomputable def XC (W : SW) (d : Nat) (f : AV) (args : List AV) (kw : List (Str × AV)) (H : List AO) (D : AV → List AO → Prop) : Prop := ∃ v H', CodeV W d f args kw H v H' ∧ D v H'

variable {D : AV → List AO → Prop} {DT : Bool → List AO → Prop} {DF : AF → List (Option AV) → List AO → Prop}

noncomputable abbrev OpK (W : SW) (t : Value → Value → Sem Value) (a : AV) (D : AV → List AO → Prop) : AV → List AO → Prop := fun b H2 => ∃ v H3, OpV W t a b H2 v H3 ∧ D v H3
noncomputable abbrev BinK (W : SW) (d : Nat) (fi : FI) (r : PySem.Expr) (vars : List (Option AV)) (cl : List Nat) (t : Value → Value → Sem Value) (D : AV → List AO → Prop) : AV → List AO → Prop := fun a H1 => XE W d fi r vars cl H1 (OpK W t a D)
noncomputable abbrev UnK (W : SW) (t : Value → Sem Value) (D : AV → List AO → Prop) : AV → List AO → Prop := fun a H1 => ∃ v H3, UnV W t a H1 v H3 ∧ D v H3
noncomputable abbrev IfxK (W : SW) (d : Nat) (fi : FI) (body orelse : PySem.Expr) (vars : List (Option AV)) (cl : List Nat) (D : AV → List AO → Prop) : Bool → List AO → Prop := fun b H1 => (b = true → XE W d fi body vars cl H1 D) ∧ (b = false → XE W d fi orelse vars cl H1 D)
noncomputable abbrev And2K (W : SW) (d : Nat) (fi : FI) (r : PySem.Expr) (vars : List (Option AV)) (cl : List Nat) (D : AV → List AO → Prop) : AV → List AO → Prop := fun a H1 => ∃ x, TrV W a H1 x ∧ (x = true → XE W d fi r vars cl H1 D) ∧ (x = false → D a H1)
noncomputable abbrev ConsK2 (v : AV) (D : List AV → List AO → Prop) : List AV → List AO → Prop := fun vs H2 => D (v :: vs) H2
noncomputable abbrev ConsK (W : SW) (d : Nat) (fi : FI) (es : List PySem.Expr) (vars : List (Option AV)) (cl : List Nat) (D : List AV → List AO → Prop) : AV → List AO → Prop := fun v H1 => XEs W d fi es vars cl H1 (ConsK2 v D)
noncomputable abbrev ListK (D : AV → List AO → Prop) : List AV → List AO → Prop := fun vs H1 => vs.length ≤ sizeLine ∧ D (.loc H1.length) (H1 ++ [.list vs])
noncomputable abbrev TupK (D : AV → List AO → Prop) : List AV → List AO → Prop := fun vs H1 => vs.length ≤ sizeLine ∧ D (.loc H1.length) (H1 ++ [.tup vs])
noncomputable abbrev TopK (W : SW) (t : Value → Value → Sem Value) (a : AV) (DT : Bool → List AO → Prop) : AV → List AO → Prop := fun b H2 => ∃ x H3, OpV W t a b H2 (.bool x) H3 ∧ DT x H3
noncomputable abbrev TBinK (W : SW) (d : Nat) (fi : FI) (r : PySem.Expr) (vars : List (Option AV)) (cl : List Nat) (t : Value → Value → Sem Value) (DT : Bool → List AO → Prop) : AV → List AO → Prop := fun a H1 => XE W d fi r vars cl H1 (TopK W t a DT)
noncomputable abbrev ValK (W : SW) (DT : Bool → List AO → Prop) : AV → List AO → Prop := fun a H1 => ∃ x, TrV W a H1 x ∧ DT x H1
noncomputable abbrev NotK (DT : Bool → List AO → Prop) : Bool → List AO → Prop := fun x H1 => DT (!x) H1
noncomputable abbrev RetK (DF : AF → List (Option AV) → List AO → Prop) (vars : List (Option AV)) : AV → List AO → Prop := fun v H1 => DF (.ret v) vars H1
noncomputable abbrev IfK (W : SW) (d : Nat) (fi : FI) (body orelse : List Stmt) (vars : List (Option AV)) (cl : List Nat) (DF : AF → List (Option AV) → List AO → Prop) : Bool → List AO → Prop := fun b H1 => (b = true → XB W d fi body vars cl H1 DF) ∧ (b = false → XB W d fi orelse vars cl H1 DF)
noncomputable abbrev AssertK (DF : AF → List (Option AV) → List AO → Prop) (vars : List (Option AV)) : Bool → List AO → Prop := fun b H1 => b = true ∧ DF .next vars H1
noncomputable abbrev ExprK (DF : AF → List (Option AV) → List AO → Prop) (vars : List (Option AV)) : AV → List AO → Prop := fun v H1 => DF .next vars H1
noncomputable abbrev SetK (DF : AF → List (Option AV) → List AO → Prop) (vars : List (Option AV)) (i : Nat) : AV → List AO → Prop := fun v H1 => DF .next (vars.set i (some v)) H1
noncomputable abbrev AugK (W : SW) (t : Value → Value → Sem Value) (a : AV) (DF : AF → List (Option AV) → List AO → Prop) (vars : List (Option AV)) (i : Nat) : AV → List AO → Prop := fun b H1 => ∃ v H2, OpV W t a b H1 v H2 ∧ DF .next (vars.set i (some v)) H2
noncomputable abbrev SetCK (DF : AF → List (Option AV) → List AO → Prop) (vars : List (Option AV)) (c : Nat) : AV → List AO → Prop := fun v H1 => (∃ v₀, H1[c]? = some (.cell v₀)) ∧ DF .next vars (H1.set c (.cell (some v)))
noncomputable abbrev CallK2 (W : SW) (d : Nat) (f : AV) (kw : List (Str × AV)) (D : AV → List AO → Prop) : List AV → List AO → Prop := fun vs H2 => Keepr W f H2 ∧ ∃ v H3, CallV W d f vs kw H2 v H3 ∧ D v H3
noncomputable abbrev CallK (W : SW) (d : Nat) (fi : FI) (xs : List PySem.Expr) (vars : List (Option AV)) (cl : List Nat) (D : AV → List AO → Prop) : AV → List AO → Prop := fun f H1 => XEs W d fi xs vars cl H1 (CallK2 W d f [] D)
noncomputable abbrev Call0K (W : SW) (d : Nat) (D : AV → List AO → Prop) : AV → List AO → Prop := fun f H1 => Keepr W f H1 ∧ ∃ v H3, CallV W d f [] [] H1 v H3 ∧ D v H3
noncomputable abbrev CallkK3 (W : SW) (d : Nat) (f : AV) (vs : List AV) (kn : Str) (D : AV → List AO → Prop) : AV → List AO → Prop := fun kv H3 => Keepr W f H3 ∧ ∃ v H4, CallV W d f vs [(kn, kv)] H3 v H4 ∧ D v H4
noncomputable abbrev CallkK2 (W : SW) (d : Nat) (fi : FI) (f : AV) (kx : PySem.Expr) (kn : Str) (vars : List (Option AV)) (cl : List Nat) (D : AV → List AO → Prop) : List AV → List AO → Prop := fun vs H2 => XE W d fi kx vars cl H2 (CallkK3 W d f vs kn D)
noncomputable abbrev CallkK (W : SW) (d : Nat) (fi : FI) (xs : List PySem.Expr) (kx : PySem.Expr) (kn : Str) (vars : List (Option AV)) (cl : List Nat) (D : AV → List AO → Prop) : AV → List AO → Prop := fun f H1 => XEs W d fi xs vars cl H1 (CallkK2 W d fi f kx kn vars cl D)
noncomputable abbrev MethK2 (W : SW) (d : Nat) (f : AV) (first : List AV) (D : AV → List AO → Prop) : List AV → List AO → Prop := fun vs H3 => Keepr W f H3 ∧ ∃ v H4, CallV W d f (first ++ vs) [] H3 v H4 ∧ D v H4
noncomputable abbrev MethK (W : SW) (d : Nat) (fi : FI) (xs : List PySem.Expr) (name : Str) (vars : List (Option AV)) (cl : List Nat) (D : AV → List AO → Prop) : AV → List AO → Prop := fun ov H1 => ∃ f first H2, GetM W ov name H1 f first H2 ∧ XEs W d fi xs vars cl H2 (MethK2 W d f first D)
noncomputable abbrev Meth0K (W : SW) (d : Nat) (name : Str) (D : AV → List AO → Prop) : AV → List AO → Prop := fun ov H1 => ∃ f first H2, GetM W ov name H1 f first H2 ∧ Keepr W f H2 ∧ ∃ v H4, CallV W d f first [] H2 v H4 ∧ D v H4
noncomputable abbrev AttrK (W : SW) (name : Str) (D : AV → List AO → Prop) : AV → List AO → Prop := fun ov H1 => ∃ v H2, GetA W ov name H1 v H2 ∧ D v H2
noncomputable abbrev ItemK2 (W : SW) (a : AV) (D : AV → List AO → Prop) : AV → List AO → Prop := fun b H2 => ∃ v H3, ItemV W a b H2 v H3 ∧ D v H3
noncomputable abbrev ItemK (W : SW) (d : Nat) (fi : FI) (slice : PySem.Expr) (vars : List (Option AV)) (cl : List Nat) (D : AV → List AO → Prop) : AV → List AO → Prop := fun a H1 => XE W d fi slice vars cl H1 (ItemK2 W a D)
noncomputable abbrev PartK (D : Option Int → List AO → Prop) : AV → List AO → Prop := fun v H1 => ∃ k, v = .int k ∧ D (Option.some k) H1
theorem XE.of (h : EvE W d fi e vars cl H v H') (hD : D v H') : XE W d fi e vars cl H D := ⟨v, H', h, hD⟩
theorem XT.of {x : Bool} (h : IsT W d fi e vars cl H x H') (hD : DT x H') : XT W d fi e vars cl H DT := ⟨x, H', h, hD⟩
theorem XE.lv (i : Nat) {x : Str} (hD : D v H) (hn : fi.ns[i]? = some x := by rfl) (hk : fi.kof x = some .local := by rfl) (hv : vars[i]? = some (some v) := by rfl) (hd : (x == ("__debug__" : Str)) = false := by decide +kernel) : XE W d fi (.Name x pos) vars cl H D := ⟨v, H, .local i hn hk hv hd, hD⟩
theorem XE.cv (j : Nat) {x : Str} {c : Nat} (ho : H[c]? = some (.cell (some v))) (hD : D v H) (hn : fi.cs[j]? = some x := by rfl) (hk : fi.kof x = some .cell := by rfl) (hc : cl[j]? = some c := by rfl) (hd : (x == ("__debug__" : Str)) = false := by decide +kernel) : XE W d fi (.Name x pos) vars cl H D := ⟨v, H, .cell j hn hk hc ho hd, hD⟩
theorem XE.fv (j : Nat) {x : Str} {c : Nat} (ho : H[c]? = some (.cell (some v))) (hD : D v H) (hn : fi.cs[j]? = some x := by rfl) (hk : fi.kof x = some .free := by rfl) (hc : cl[j]? = some c := by rfl) (hd : (x == ("__debug__" : Str)) = false := by decide +kernel) (hd2 : (x == ("__classdict__" : Str)) = false := by decide +kernel) : XE W d fi (.Name x pos) vars cl H D := ⟨v, H, .free j hn hk hc ho hd hd2, hD⟩
theorem XE.gv {x : Str} (k : Nat) (hD : D (.fn k) H) (hk : fi.kof x = some .globalImplicit := by rfl) (hg : nsIn W.K mainGlobals x = some (some (.ref k)) := by kernel_rfl) (hd : (x == ("__debug__" : Str)) = false := by decide +kernel) : XE W d fi (.Name x pos) vars cl H D := ⟨_, H, .glob hk hg (fun _ => .fn k) hd, hD⟩
theorem XE.bv {x : Str} (id : String) (hD : D (.bi id) H) (hk : fi.kof x = some .globalImplicit := by rfl) (hg : nsIn W.K mainGlobals x = some none := by kernel_rfl) (hb : bootBuiltins x = some (.builtin id) := by kernel_rfl) (hn : x ≠ ("__name__" : Str) := by decide +kernel) (hd : (x == ("__debug__" : Str)) = false := by decide +kernel) : XE W d fi (.Name x pos) vars cl H D := ⟨_, H, .blt hk hg hb (fun _ => .bi id) hn hd, hD⟩
theorem XE.ty {x : Str} (id : String) (hD : D (.ty id) H) (hk : fi.kof x = some .globalImplicit := by rfl) (hg : nsIn W.K mainGlobals x = some none := by kernel_rfl) (hb : bootBuiltins x = some (.type id) := by kernel_rfl) (hn : x ≠ ("__name__" : Str) := by decide +kernel) (hd : (x == ("__debug__" : Str)) = false := by decide +kernel) : XE W d fi (.Name x pos) vars cl H D := ⟨_, H, .blt hk hg hb (fun _ => .ty id) hn hd, hD⟩
theorem XE.none {k : Nat} (hD : D .none H) : XE W d fi (.Constant .none k pos) vars cl H D := ⟨_, _, .cnone, hD⟩
theorem XE.bool {x : Bool} {k : Nat} (hD : D (.bool x) H) : XE W d fi (.Constant (.bool x) k pos) vars cl H D := ⟨_, _, .cbool, hD⟩
theorem XE.int {x : Int} {k : Nat} (hD : D (.int x) H) : XE W d fi (.Constant (.int x) k pos) vars cl H D := ⟨_, _, .cint, hD⟩
theorem XE.str {x : Str} {k : Nat} (l : List Nat) (hD : D (.str l) H) (hx : x = ⟨l.toArray⟩ := by kernel_rfl) : XE W d fi (.Constant (.str x) k pos) vars cl H D := ⟨_, _, .cstr hx, hD⟩
theorem XE.bin {op : Operator} (h : XE W d fi l vars cl H (BinK W d fi r vars cl (binaryOp op) D)) : XE W d fi (.BinOp l op r pos) vars cl H D := by
  obtain ⟨a, H1, h1, b, H2, h2, v, H3, h3, hD⟩ := h; exact ⟨v, H3, .bin h1 h2 h3, hD⟩
theorem XE.cmp {op : CmpOp} (h : XE W d fi l vars cl H (BinK W d fi r vars cl (compareOp op) D)) (hm : behindInMarks op r = false := by with_unfolding_all rfl) : XE W d fi (.Compare l [op] [r] pos) vars cl H D := by
  obtain ⟨a, H1, h1, b, H2, h2, v, H3, h3, hD⟩ := h; exact ⟨v, H3, .cmp h1 h2 h3 hm, hD⟩
theorem XE.un {op : UnaryOp} (h : XE W d fi l vars cl H (UnK W (unaryOp op) D)) : XE W d fi (.UnaryOp op l pos) vars cl H D := by
  obtain ⟨a, H1, h1, v, H3, h3, hD⟩ := h; exact ⟨v, H3, .un h1 h3, hD⟩
theorem XE.ifx {test body orelse : PySem.Expr} (h : XT W d fi test vars cl H (IfxK W d fi body orelse vars cl D)) : XE W d fi (.IfExp test body orelse pos) vars cl H D := by
  obtain ⟨b, H1, h1, hT, hF⟩ := h
  cases b with
  | true => obtain ⟨v, H2, h2, hD⟩ := hT rfl; exact ⟨v, H2, .ifT h1 h2, hD⟩
  | false => obtain ⟨v, H2, h2, hD⟩ := hF rfl; exact ⟨v, H2, .ifF h1 h2, hD⟩
theorem XE.and2 (h : XE W d fi l vars cl H (And2K W d fi r vars cl D)) : XE W d fi (.BoolOp .And [l, r] pos) vars cl H D := by
  obtain ⟨a, H1, h1, x, ht, hT, hF⟩ := h
  cases x with
  | true => obtain ⟨v, H2, h2, hD⟩ := hT rfl; exact ⟨v, H2, .andT h1 ht h2, hD⟩
  | false => exact ⟨a, H1, .andF h1 ht, hF rfl⟩

theorem XEs.nil {D : List AV → List AO → Prop} (h : D [] H) : XEs W d fi [] vars cl H D := ⟨[], H, .nil, h⟩
theorem XEs.cons {D : List AV → List AO → Prop} {es : List PySem.Expr} (h : XE W d fi e vars cl H (ConsK W d fi es vars cl D)) (he : ∀ env, starEach (e :: es) env = (false, eval e env) :: starEach es env := by intro _; rfl) : XEs W d fi (e :: es) vars cl H D := by
  obtain ⟨v, H1, h1, vs, H2, h2, hD⟩ := h; exact ⟨v :: vs, H2, .cons h1 h2 he, hD⟩
theorem XE.list {es : List PySem.Expr} (h : XEs W d fi es vars cl H (ListK D)) : XE W d fi (.List es pos) vars cl H D := by
  obtain ⟨vs, H1, h1, hz, hD⟩ := h; exact ⟨_, _, .list h1 hz, hD⟩
theorem XE.tup {es : List PySem.Expr} {k : Nat} (h : XEs W d fi es vars cl H (TupK D)) : XE W d fi (.Tuple es k pos) vars cl H D := by
  obtain ⟨vs, H1, h1, hz, hD⟩ := h; exact ⟨_, _, .tup h1 hz, hD⟩

/- tests -/
theorem XT.cmp {op : CmpOp} (h : XE W d fi l vars cl H (TBinK W d fi r vars cl (compareOp op) DT)) (hm : behindInMarks op r = false := by with_unfolding_all rfl) : XT W d fi (.Compare l [op] [r] pos) vars cl H DT := by
  obtain ⟨a, H1, h1, b, H2, h2, x, H3, h3, hD⟩ := h; exact ⟨x, H3, .cmp h1 h2 h3 hm, hD⟩
theorem XT.val (h : XE W d fi e vars cl H (ValK W DT)) (he : ∀ env whole, isTrue e env whole = (do let v ← whole; standAt e.pos; holding [v] (truthy v)) := by intro _ _; rfl) : XT W d fi e vars cl H DT := by
  obtain ⟨a, H1, h1, x, h2, hD⟩ := h; exact ⟨x, H1, .val h1 h2 he, hD⟩
theorem XT.not (h : XT W d fi e vars cl H (NotK DT)) : XT W d fi (.UnaryOp .Not e pos) vars cl H DT := by
  obtain ⟨x, H1, h1, hD⟩ := h; exact ⟨_, H1, .not h1, hD⟩
noncomputable def XA (W : SW) (d : Nat) (fi : FI) (op : BoolOp) (es : List PySem.Expr) (vars : List (Option AV)) (cl : List Nat) (H : List AO) (D : Bool → List AO → Prop) : Prop := ∃ b H', AllT W d fi op es vars cl H b H' ∧ D b H'
theorem XT.boolop {op : BoolOp} {es : List PySem.Expr} (h : XA W d fi op es vars cl H DT) : XT W d fi (.BoolOp op es pos) vars cl H DT := by
  obtain ⟨x, H1, h1, hD⟩ := h; exact ⟨x, H1, .bool h1, hD⟩
noncomputable abbrev AndK (W : SW) (d : Nat) (fi : FI) (es : List PySem.Expr) (vars : List (Option AV)) (cl : List Nat) (DT : Bool → List AO → Prop) : Bool → List AO → Prop := fun x H1 => (x = true → XA W d fi .And es vars cl H1 DT) ∧ (x = false → DT false H1)
noncomputable abbrev OrK (W : SW) (d : Nat) (fi : FI) (es : List PySem.Expr) (vars : List (Option AV)) (cl : List Nat) (DT : Bool → List AO → Prop) : Bool → List AO → Prop := fun x H1 => (x = false → XA W d fi .Or es vars cl H1 DT) ∧ (x = true → DT true H1)
theorem XA.andNil (h : DT true H) : XA W d fi .And [] vars cl H DT := ⟨_, _, .andNil, h⟩
theorem XA.orNil (h : DT false H) : XA W d fi .Or [] vars cl H DT := ⟨_, _, .orNil, h⟩
theorem XA.and {es : List PySem.Expr} (h : XT W d fi e vars cl H (AndK W d fi es vars cl DT)) : XA W d fi .And (e :: es) vars cl H DT := by
  obtain ⟨x, H1, h1, hT, hF⟩ := h
  cases x with
  | true => obtain ⟨y, H2, h2, hD⟩ := hT rfl; exact ⟨y, H2, .andT h1 h2, hD⟩
  | false => exact ⟨_, H1, .andF h1, hF rfl⟩
theorem XA.or {es : List PySem.Expr} (h : XT W d fi e vars cl H (OrK W d fi es vars cl DT)) : XA W d fi .Or (e :: es) vars cl H DT := by
  obtain ⟨x, H1, h1, hF, hT⟩ := h
  cases x with
  | false => obtain ⟨y, H2, h2, hD⟩ := hF rfl; exact ⟨y, H2, .orF h1 h2, hD⟩
  | true => exact ⟨_, H1, .orT h1, hT rfl⟩

/- statements -/
noncomputable abbrev NextK (W : SW) (d : Nat) (fi : FI) (ss : List Stmt) (cl : List Nat) (DF : AF → List (Option AV) → List AO → Prop) : AF → List (Option AV) → List AO → Prop := fun f vars' H1 => match f with | .next => XB W d fi ss vars' cl H1 DF | .ret u => DF (.ret u) vars' H1 | .cont => DF .cont vars' H1 | .brk => False
noncomputable abbrev LoopK (DF : AF → List (Option AV) → List AO → Prop) (I : List (Option AV) → List AO → Prop) : AF → List (Option AV) → List AO → Prop := fun f vars' H2 => match f with | .ret u => DF (.ret u) vars' H2 | .brk => False | _ => I vars' H2
theorem XB.abs {ss : List Stmt} (h : ∀ K : AF → List (Option AV) → List AO → Prop, (∀ f v H', DF f v H' → K f v H') → XB W d fi ss vars cl H K) : XB W d fi ss vars cl H DF := h DF fun _ _ _ h => h
theorem XE.abs (h : ∀ K : AV → List AO → Prop, (∀ v H', D v H' → K v H') → XE W d fi e vars cl H K) : XE W d fi e vars cl H D := h D fun _ _ h => h
theorem XB.nil (h : DF .next vars H) : XB W d fi [] vars cl H DF := ⟨_, _, _, .nil, h⟩
theorem XB.cons {st : Stmt} {ss : List Stmt} (h : XS W d fi st vars cl H (NextK W d fi ss cl DF)) : XB W d fi (st :: ss) vars cl H DF := by
  obtain ⟨f, v1, H1, h1, hD⟩ := h
  cases f with
  | next => obtain ⟨g, v2, H2, h2, hD⟩ := hD; exact ⟨g, v2, H2, .cons h1 h2, hD⟩
  | ret u => exact ⟨_, v1, H1, .ret h1, hD⟩
  | cont => exact ⟨_, v1, H1, .cont h1, hD⟩
  | brk => exact hD.elim
theorem XS.pass (h : DF .next vars H) : XS W d fi (.Pass pos) vars cl H DF := ⟨_, _, _, .pass, h⟩
theorem XS.cont (h : DF .cont vars H) : XS W d fi (.Continue pos) vars cl H DF := ⟨_, _, _, .cont, h⟩
theorem XS.ret (h : XE W d fi e vars cl H (RetK DF vars)) : XS W d fi (.Return (some e) pos) vars cl H DF := by
  obtain ⟨v, H1, h1, hD⟩ := h; exact ⟨_, _, _, .ret h1, hD⟩
theorem XS.ifs {test : PySem.Expr} {body orelse : List Stmt} (h : XT W d fi test vars cl H (IfK W d fi body orelse vars cl DF)) : XS W d fi (.If test body orelse pos) vars cl H DF := by
  obtain ⟨b, H1, h1, hT, hF⟩ := h
  cases b with
  | true => obtain ⟨f, v, H2, h2, hD⟩ := hT rfl; exact ⟨f, v, H2, .ifT h1 h2, hD⟩
  | false => obtain ⟨f, v, H2, h2, hD⟩ := hF rfl; exact ⟨f, v, H2, .ifF h1 h2, hD⟩
theorem XS.assert {test : PySem.Expr} {msg : Option PySem.Expr} (h : XT W d fi test vars cl H (AssertK DF vars)) : XS W d fi (.Assert test msg pos) vars cl H DF := by
  obtain ⟨b, H1, h1, rfl, hD⟩ := h; exact ⟨_, _, _, .assert h1, hD⟩
theorem XS.expr (h : XE W d fi e vars cl H (ExprK DF vars)) (hs : ∀ env, swapsWith e Option.none pos.line env = pure false := by intro _; rfl) : XS W d fi (.Expr e pos) vars cl H DF := by
  obtain ⟨v, H1, h1, hD⟩ := h; exact ⟨_, _, _, .expr h1 (hs := hs), hD⟩
theorem XS.assign (i : Nat) {x : Str} {pos' : Pos} (h : XE W d fi e vars cl H (SetK DF vars i)) (hn : fi.ns[i]? = some x := by rfl) (hk : fi.kof x = some .local := by rfl) (hnd : fi.ns.Nodup := by decide +kernel)
    (hs : ∀ env, swapsWith e (some (.Name x pos')) pos.line env = pure false := by intro _; rfl) : XS W d fi (.Assign [.Name x pos'] e pos) vars cl H DF := by
  obtain ⟨v, H1, h1, hD⟩ := h; exact ⟨_, _, _, .assign i h1 hn hk hnd hs, hD⟩
theorem XS.aug (i : Nat) {x : Str} {pos' : Pos} {op : Operator} (h : XE W d fi e vars cl H (AugK W (inplaceOp op) a DF vars i)) (hn : fi.ns[i]? = some x := by rfl) (hk : fi.kof x = some .local := by rfl) (hnd : fi.ns.Nodup := by decide +kernel) (hv : vars[i]? = some (some a) := by rfl) :
    XS W d fi (.AugAssign (.Name x pos') op e pos) vars cl H DF := by
  obtain ⟨b, H1, h1, v, H2, h2, hD⟩ := h; exact ⟨_, _, _, .aug i hn hk hnd hv h1 h2, hD⟩
theorem XS.assignC (j : Nat) {c : Nat} {x : Str} {pos' : Pos} (h : XE W d fi e vars cl H (SetCK DF vars c)) (hn : fi.cs[j]? = some x := by rfl) (hk : fi.kof x = some .cell := by rfl) (hc : cl[j]? = some c := by rfl)
    (hs : ∀ env : Env, env.kindOf x = some .cell → swapsWith e (some (.Name x pos')) pos.line env = pure false := by intro _ _; rfl) : XS W d fi (.Assign [.Name x pos'] e pos) vars cl H DF := by
  obtain ⟨v, H1, h1, ⟨v₀, ho⟩, hD⟩ := h; exact ⟨_, _, _, .assignCell j h1 hn hk hc ho hs, hD⟩

/- calls -/
theorem XE.call {func x : PySem.Expr} {xs : List PySem.Expr} (h : XE W d fi func vars cl H (CallK W d fi (x :: xs) vars cl D))
    (he : ∀ env, eval (.Call func (x :: xs) [] pos) env = (do callWith pos (← eval func env) [] (backTo pos (starEach (x :: xs) env)) (backToKw pos (keywordEach [] env))) := by intro _; rfl)
    (hs : ∀ env, starEach (x :: xs) env = (false, eval x env) :: starEach xs env := by intro _; rfl) (hpl : ∀ env, (backTo pos (starEach xs env)).any (·.1) = false := by intro _; rfl) :
    XE W d fi (.Call func (x :: xs) [] pos) vars cl H D := by
  obtain ⟨f, H1, h1, vs, H2, h2, hk, v, H3, h3, hD⟩ := h; exact ⟨v, H3, .call h1 h2 hk h3 he hs hpl, hD⟩
theorem XE.call0 {func : PySem.Expr} (h : XE W d fi func vars cl H (Call0K W d D))
    (he : ∀ env, eval (.Call func [] [] pos) env = (do callWith pos (← eval func env) [] (backTo pos (starEach [] env)) (backToKw pos (keywordEach [] env))) := by intro _; rfl) :
    XE W d fi (.Call func [] [] pos) vars cl H D := by
  obtain ⟨f, H1, h1, hk, v, H3, h3, hD⟩ := h; exact ⟨v, H3, .call0 h1 hk h3 he, hD⟩
theorem XE.callK {func x kx : PySem.Expr} {xs : List PySem.Expr} {kn : Str} {kp : Pos} (h : XE W d fi func vars cl H (CallkK W d fi (x :: xs) kx kn vars cl D))
    (he : ∀ env, eval (.Call func (x :: xs) [⟨some kn, kx, kp⟩] pos) env = (do callWith pos (← eval func env) [] (backTo pos (starEach (x :: xs) env)) (backToKw pos (keywordEach [⟨some kn, kx, kp⟩] env))) := by intro _; rfl)
    (hs : ∀ env, starEach (x :: xs) env = (false, eval x env) :: starEach xs env := by intro _; rfl) (hpl : ∀ env, (backTo pos (starEach xs env)).any (·.1) = false := by intro _; rfl) :
    XE W d fi (.Call func (x :: xs) [⟨some kn, kx, kp⟩] pos) vars cl H D := by
  obtain ⟨f, H1, h1, vs, H2, h2, kv, H3, h3, hk, v, H4, h4, hD⟩ := h; exact ⟨v, H4, .callK h1 h2 h3 hk h4 he hs hpl, hD⟩
theorem XE.meth {o x : PySem.Expr} {xs : List PySem.Expr} {name : Str} {apos : Pos} (h : XE W d fi o vars cl H (MethK W d fi (x :: xs) name vars cl D))
    (pl : Env → Sem Bool)
    (he : ∀ env, eval (.Call (.Attribute o name apos) (x :: xs) [] pos) env = (do
      let ov ← eval o env
      standAt apos.atName
      let (f, first) ← holding [ov] (getMethod ov name (pl env))
      callWith pos f first (backTo pos (starEach (x :: xs) env)) (backToKw pos (keywordEach [] env))) := by intro _; rfl)
    (hs : ∀ env, starEach (x :: xs) env = (false, eval x env) :: starEach xs env := by intro _; rfl) (hpl : ∀ env, (backTo pos (starEach xs env)).any (·.1) = false := by intro _; rfl) :
    XE W d fi (.Call (.Attribute o name apos) (x :: xs) [] pos) vars cl H D := by
  obtain ⟨ov, H1, h1, f, first, H2, h2, vs, H3, h3, hk, v, H4, h4, hD⟩ := h; exact ⟨v, H4, .meth h1 h2 h3 hk h4 pl he hs hpl, hD⟩
theorem XE.meth0 {o : PySem.Expr} {name : Str} {apos : Pos} (h : XE W d fi o vars cl H (Meth0K W d name D))
    (pl : Env → Sem Bool)
    (he : ∀ env, eval (.Call (.Attribute o name apos) [] [] pos) env = (do
      let ov ← eval o env
      standAt apos.atName
      let (f, first) ← holding [ov] (getMethod ov name (pl env))
      callWith pos f first (backTo pos (starEach [] env)) (backToKw pos (keywordEach [] env))) := by intro _; rfl) :
    XE W d fi (.Call (.Attribute o name apos) [] [] pos) vars cl H D := by
  obtain ⟨ov, H1, h1, f, first, H2, h2, hk, v, H4, h4, hD⟩ := h; exact ⟨v, H4, .meth0 h1 h2 hk h4 pl he, hD⟩
theorem XE.attr {o : PySem.Expr} {name : Str} (h : XE W d fi o vars cl H (AttrK W name D)) (hb : ∀ env, attributeBase o name env (eval o env) = eval o env := by intro _; rfl) : XE W d fi (.Attribute o name pos) vars cl H D := by
  obtain ⟨ov, H1, h1, v, H2, h2, hD⟩ := h; exact ⟨v, H2, .attr h1 h2 hb, hD⟩
theorem XE.item {value slice : PySem.Expr} (h : XE W d fi value vars cl H (ItemK W d fi slice vars cl D)) (hs : ∀ o i, subscripted slice false o i = operate [o, i] (getItem o i) := by intro _ _; with_unfolding_all rfl) :
    XE W d fi (.Subscript value slice pos) vars cl H D := by
  obtain ⟨a, H1, h1, b, H2, h2, v, H3, h3, hD⟩ := h; exact ⟨v, H3, .item h1 h2 h3 hs, hD⟩
noncomputable def XP (W : SW) (d : Nat) (fi : FI) (e : Option PySem.Expr) (vars : List (Option AV)) (cl : List Nat) (H : List AO) (D : Option Int → List AO → Prop) : Prop := ∃ o H', EvP W d fi e vars cl H o H' ∧ D o H'
theorem XP.none {D : Option Int → List AO → Prop} (h : D Option.none H) : XP W d fi Option.none vars cl H D := ⟨_, _, .none, h⟩
theorem XP.some {D : Option Int → List AO → Prop} (h : XE W d fi e vars cl H (PartK D)) : XP W d fi (Option.some e) vars cl H D := by
  obtain ⟨v, H1, h1, k, rfl, hD⟩ := h; exact ⟨_, _, .some h1, hD⟩
noncomputable abbrev SliceK3 (a : AV) (lo : Option Int) (D : AV → List AO → Prop) : Option Int → List AO → Prop := fun hi H3 => (∃ i xs, a = .loc i ∧ H3[i]? = some (.list xs) ∧ xs.length ≤ sizeLine ∧ D (.loc H3.length) (H3 ++ [.list (pk xs lo hi)])) ∨ (∃ x, a = .str x ∧ x.length ≤ sizeLine ∧ D (.str (pk x lo hi)) H3)
noncomputable abbrev SliceK2 (W : SW) (d : Nat) (fi : FI) (a : AV) (upper : Option PySem.Expr) (vars : List (Option AV)) (cl : List Nat) (D : AV → List AO → Prop) : Option Int → List AO → Prop := fun lo H2 => XP W d fi upper vars cl H2 (SliceK3 a lo D)
noncomputable abbrev SliceK (W : SW) (d : Nat) (fi : FI) (lower upper : Option PySem.Expr) (vars : List (Option AV)) (cl : List Nat) (D : AV → List AO → Prop) : AV → List AO → Prop := fun a H1 => XP W d fi lower vars cl H1 (SliceK2 W d fi a upper vars cl D)
theorem XE.slice {value : PySem.Expr} {lower upper : Option PySem.Expr} {p : Pos} (h : XE W d fi value vars cl H (SliceK W d fi lower upper vars cl D)) :
    XE W d fi (.Subscript value (.Slice lower upper Option.none p) pos) vars cl H D := by
  obtain ⟨a, H1, h1, lo, H2, h2, hi, H3, h3, ⟨i, xs, rfl, ho, hz, hD⟩ | ⟨x, rfl, hz, hD⟩⟩ := h
  · exact ⟨_, _, .sliceList h1 h2 h3 ho hz, hD⟩
  · exact ⟨_, _, .sliceStr h1 h2 h3 hz, hD⟩

/- loops -/
noncomputable def XW (W : SW) (d : Nat) (fi : FI) (test : PySem.Expr) (body : List Stmt) (vars : List (Option AV)) (cl : List Nat) (H : List AO) (D : AF → List (Option AV) → List AO → Prop) : Prop := ∃ f vars' H', WhC W d fi test body vars cl H f vars' H' ∧ D f vars' H'
theorem XS.while {test : PySem.Expr} {body : List Stmt} (h : XW W d fi test body vars cl H DF) : XS W d fi (.While test body [] pos) vars cl H DF := by
  obtain ⟨f, v, H1, h1, hD⟩ := h; exact ⟨_, _, _, .while h1, hD⟩
theorem XW.inv {test : PySem.Expr} {body : List Stmt} (I : Nat → List (Option AV) → List AO → Prop)
    (step : ∀ n vars H, I n vars H → XT W d fi test vars cl H fun b H1 => (b = false → DF .next vars H1) ∧ (b = true → XB W d fi body vars cl H1 (LoopK DF fun vars' H2 => ∃ m, m < n ∧ I m vars' H2))) :
    ∀ n vars H, I n vars H → XW W d fi test body vars cl H DF := by
  intro n
  induction n using Nat.strongRecOn with
  | ind n ih =>
    intro vars H hI
    obtain ⟨b, H1, ht, hF, hT⟩ := step n vars H hI
    cases b with
    | false => exact ⟨_, _, _, .stop ht, hF rfl⟩
    | true =>
      obtain ⟨f, v', H2, hb, hD⟩ := hT rfl
      cases f with
      | ret u => exact ⟨_, _, _, .ret ht hb, hD⟩
      | brk => exact hD.elim
      | next => obtain ⟨m, hm, hI'⟩ := hD; obtain ⟨g, v3, H3, hw, hD'⟩ := ih m hm v' H2 hI'; exact ⟨g, v3, H3, .turn ht hb (.inl rfl) hw, hD'⟩
      | cont => obtain ⟨m, hm, hI'⟩ := hD; obtain ⟨g, v3, H3, hw, hD'⟩ := ih m hm v' H2 hI'; exact ⟨g, v3, H3, .turn ht hb (.inr rfl) hw, hD'⟩
noncomputable def XF (W : SW) (d : Nat) (fi : FI) (tgt : PySem.Expr) (body : List Stmt) (vars : List (Option AV)) (cl : List Nat) (H : List AO) (it : It) (D : AF → List (Option AV) → List AO → Prop) : Prop := ∃ f vars' H', ForC W d fi tgt body vars cl H it f vars' H' ∧ D f vars' H'
noncomputable abbrev ForK (W : SW) (d : Nat) (fi : FI) (tgt : PySem.Expr) (body : List Stmt) (vars : List (Option AV)) (cl : List Nat) (DF : AF → List (Option AV) → List AO → Prop) : AV → List AO → Prop := fun a H1 => ∃ it, IterV W a H1 it ∧ XF W d fi tgt body vars cl H1 it DF
theorem XS.for {tgt iter : PySem.Expr} {body : List Stmt} (h : XE W d fi iter vars cl H (ForK W d fi tgt body vars cl DF)) (hs : ∀ env x, foldedSetIterable iter env x = pure x := by intro _ _; rfl) : XS W d fi (.For tgt iter body [] pos) vars cl H DF := by
  obtain ⟨a, H1, h1, it, h2, f, v, H2, h3, hD⟩ := h; exact ⟨_, _, _, .for h1 h2 h3 hs, hD⟩
theorem XF.inv {x : Str} {px : Pos} {body : List Stmt} (i : Nat) (I : Nat → List (Option AV) → List AO → It → Prop)
    (step : ∀ n vars H it, I n vars H it → (∃ H1, NextV W d it H Option.none H1 ∧ DF .next vars H1) ∨ ∃ v it' H1, NextV W d it H (some (v, it')) H1 ∧ XB W d fi body (vars.set i (some v)) cl H1 (LoopK DF fun vars' H2 => ∃ m, m < n ∧ I m vars' H2 it'))
    (hn : fi.ns[i]? = some x := by rfl) (hk : fi.kof x = some .local := by rfl) (hnd : fi.ns.Nodup := by decide +kernel) :
    ∀ n vars H it, I n vars H it → XF W d fi (.Name x px) body vars cl H it DF := by
  intro n
  induction n using Nat.strongRecOn with
  | ind n ih =>
    intro vars H it hI
    rcases step n vars H it hI with ⟨H1, hx, hD⟩ | ⟨v, it', H1, hx, f, v', H2, hb, hD⟩
    · exact ⟨_, _, _, .nil hx (by intro _ _; rfl), hD⟩
    · cases f with
      | ret u => exact ⟨_, _, _, .step i hx hn hk hnd hb (.inr ⟨u, rfl, rfl, rfl, rfl⟩), hD⟩
      | brk => exact hD.elim
      | next => obtain ⟨m, hm, hI'⟩ := hD; obtain ⟨g, v3, H3, hw, hD'⟩ := ih m hm v' H2 it' hI'; exact ⟨g, v3, H3, .step i hx hn hk hnd hb (.inl ⟨.inl rfl, hw⟩), hD'⟩
      | cont => obtain ⟨m, hm, hI'⟩ := hD; obtain ⟨g, v3, H3, hw, hD'⟩ := ih m hm v' H2 it' hI'; exact ⟨g, v3, H3, .step i hx hn hk hnd hb (.inl ⟨.inr rfl, hw⟩), hD'⟩

/- the same as the anonymous constructors, in fewer words -/
theorem ex2 {α β : Type} {P D : α → β → Prop} {v : α} {w : β} (h : P v w) (hD : D v w) : ∃ v w, P v w ∧ D v w := ⟨v, w, h, hD⟩
theorem exK {W : SW} {d : Nat} {f : AV} {kw : List (Str × AV)} {vs : List AV} {D : AV → List AO → Prop} {H2 H3 : List AO} {v : AV} (hk : Keepr W f H2) (h : CallV W d f vs kw H2 v H3) (hD : D v H3) : CallK2 W d f kw D vs H2 := ⟨hk, v, H3, h, hD⟩
theorem exM {W : SW} {d : Nat} {fi : FI} {xs : List PySem.Expr} {name : Str} {vars : List (Option AV)} {cl : List Nat} {D : AV → List AO → Prop} {ov f : AV} {first : List AV} {H1 H2 : List AO} (h : GetM W ov name H1 f first H2) (hx : XEs W d fi xs vars cl H2 (MethK2 W d f first D)) : MethK W d fi xs name vars cl D ov H1 := ⟨f, first, H2, h, hx⟩
theorem exN {W : SW} {d : Nat} {f : AV} {first vs : List AV} {D : AV → List AO → Prop} {H2 H3 : List AO} {v : AV} (hk : Keepr W f H2) (h : CallV W d f (first ++ vs) [] H2 v H3) (hD : D v H3) : MethK2 W d f first D vs H2 := ⟨hk, v, H3, h, hD⟩
theorem exF {W : SW} {d : Nat} {fi : FI} {tgt : PySem.Expr} {body : List Stmt} {vars : List (Option AV)} {cl : List Nat} {DF : AF → List (Option AV) → List AO → Prop} {a : AV} {H1 : List AO} {it : It} (h : IterV W a H1 it) (hx : XF W d fi tgt body vars cl H1 it DF) : ForK W d fi tgt body vars cl DF a H1 := ⟨it, h, hx⟩
theorem exP {D : Option Int → List AO → Prop} {k : Int} {H1 : List AO} (h : D (Option.some k) H1) : PartK D (.int k) H1 := ⟨k, rfl, h⟩
theorem exL {D : AV → List AO → Prop} {lo hi : Option Int} {H3 : List AO} {i : Nat} {xs : List AV} (ho : H3[i]? = some (.list xs)) (hz : xs.length ≤ sizeLine) (hD : D (.loc H3.length) (H3 ++ [.list (pk xs lo hi)])) : SliceK3 (.loc i) lo D hi H3 := .inl ⟨i, xs, rfl, ho, hz, hD⟩
theorem exS {D : AV → List AO → Prop} {lo hi : Option Int} {H3 : List AO} {x : List Nat} (hz : x.length ≤ sizeLine) (hD : D (.str (pk x lo hi)) H3) : SliceK3 (.str x) lo D hi H3 := .inr ⟨x, rfl, hz, hD⟩
theorem XW.mono {D1 : AF → List (Option AV) → List AO → Prop} {test : PySem.Expr} {body : List Stmt} (h : XW W d fi test body vars cl H D1) (hD : ∀ f v H', D1 f v H' → DF f v H') : XW W d fi test body vars cl H DF := by
  obtain ⟨f, v, H', h1, h2⟩ := h; exact ⟨f, v, H', h1, hD _ _ _ h2⟩
theorem XF.mono {D1 : AF → List (Option AV) → List AO → Prop} {tgt : PySem.Expr} {body : List Stmt} {it : It} (h : XF W d fi tgt body vars cl H it D1) (hD : ∀ f v H', D1 f v H' → DF f v H') : XF W d fi tgt body vars cl H it DF := by
  obtain ⟨f, v, H', h1, h2⟩ := h; exact ⟨f, v, H', h1, hD _ _ _ h2⟩
theorem XS.mono {D1 : AF → List (Option AV) → List AO → Prop} {st : Stmt} (h : XS W d fi st vars cl H D1) (hD : ∀ f v H', D1 f v H' → DF f v H') : XS W d fi st vars cl H DF := by
  obtain ⟨f, v, H', h1, h2⟩ := h; exact ⟨f, v, H', h1, hD _ _ _ h2⟩
theorem XC.mono {D1 : AV → List AO → Prop} {args : List AV} {kw : List (Str × AV)} (h : XC W d f args kw H D1) (hD : ∀ v H', D1 v H' → D v H') : XC W d f args kw H D := by
  obtain ⟨v, H', h1, h2⟩ := h; exact ⟨v, H', h1, hD _ _ h2⟩
end Mine

/- part -/
namespace Mine
open PySem.Calls

/- what is static, over one written part -/
structure Bs (K : Frag) where
  prog : Program
  w : World
  h₀ : Heap
  mg : Str → Option Value
  mb : Str → Option Value
  kin : K.In h₀
  g : h₀.Ns mainGlobals mg
  b : h₀.Ns builtinsNs mb
  boot : ∀ x : Str, x ≠ ("__name__" : Str) → mb x = bootBuiltins x
  lim : h₀.NoLimit
  bat : ∃ bm ob, mg "__builtins__" = some (.ref bm) ∧ bm ≠ builtinsNs ∧ h₀.get? bm = some ob ∧ ob.cls = .type "module" ∧ ob.dict = some builtinsNs ∧ ob.data = .plain
noncomputable def Bs.W {K : Frag} (B : Bs K) : SW := ⟨B.prog, B.w, B.h₀, K, B.mg, B.mb, B.kin, B.g, B.b, B.boot, B.lim, B.bat⟩

variable {W : SW} {d : Nat} {fi fi' : FI} {vars vars' vars'' : List (Option AV)} {cl cl' : List Nat} {H H' H1 H2 H3 H4 : List AO} {a b c v f ov : AV} {e l r elt : PySem.Expr} {pos : Pos} {vs : List AV}
variable {D : AV → List AO → Prop} {DT : Bool → List AO → Prop} {DF : AF → List (Option AV) → List AO → Prop}

/- a def of the text's, called: forward -/
theorem XC.fn {f : Nat} {vars0 : List (Option AV)} {cl0 : List Nat} {H0 : List AO} {name qual : Str} {params : Arguments} {body : List Stmt} {scope : Scope} {dV kV doc pm cdv ct oc : Value} {an od : Option Addr} {osl : Array (Option Value)} (ns : List Str) {args : List AV} {kw bs : List (Str × AV)}
    (hK : W.K.lookup f = some ⟨oc, od, .func (fnOf name qual params body scope dV kV doc pm an cdv ct), osl⟩) (hcd : codeIn W.K cdv qual = true)
    (hb : ∀ (ρ : List Addr) (s : Shared) (As : List Value) (Ks : List (Str × Value)), (∀ b o, W.h₀.get? b = some o → s.heap.get? b = some o) → VRels ρ args As → KRels ρ kw Ks →
      ∃ Bs, BindsTo s (fnOf name qual params body scope dV kV doc pm an cdv ct) ⟨As, Ks⟩ Bs ∧ KRels ρ bs Bs)
    (hkd : (bs.all fun y => scope.names.lookup y.1 == some .local || scope.names.lookup y.1 == some .cell) = true) (hkn : decide ((bs.map (·.1)).Nodup) = true) (hnd : (scope.names.map (·.1)).Nodup) (hv : vars0 = ns.map fun x => if scope.names.lookup x = some .local then bs.lookup x else none)
    (hcl : cl0 = (List.range (cellNames scope.names).length).map (H.length + ·)) (hH : H0 = H ++ ((cellNames scope.names).map fun x => bs.lookup x).map AO.cell)
    (hbody : XB W d ⟨ns, cellNames scope.names, fun x => scope.names.lookup x, qual ++ ".<locals>.", cdv⟩ body vars0 cl0 H0 fun f vars' H' => D f.out H')
    (hco : scope.isCoroutine = false := by rfl) (hgen : scope.isGenerator = false := by rfl) (hk : scope.kind = .function := by rfl) :
    XC W (d + 1) (.fn f) args kw H D := by
  obtain ⟨fl, v, H', h1, hD⟩ := hbody
  subst hcl hH
  exact ⟨_, H', .fn ns hK hcd hb hkd (of_decide_eq_true hkn) hnd hv h1 hco hgen hk, hD⟩
theorem BindsTo.of_both {s : Shared} {fd : FuncData} {args : Args} {binds : List (Str × Value)} {T Dk : Addr} {o : Obj} {items : Array Value} {n : Nat} {m : Str → Option Value} {x : Str} {y : Option Value}
    {k : Option (Array Value) → Sem (List (Str × Value))} {k2 : Option Value → Sem (List (Str × Value))} (ho : s.heap.get? T = some o) (hs : o.data = .seq items n) (hm : s.heap.Ns Dk m) (hy : m x = y)
    (h₁ : bindArgs fd args = seqItems? (.ref T) >>= k) (h₂ : k (some items) = nsGet Dk x >>= k2) (h₃ : k2 y = pure binds) : BindsTo s fd args binds :=
  fun _ _ _ _ hq => by
    rw [h₁]
    refine wpAny_bind (wpAny_seqItems ho hs ?_)
    rw [h₂]
    refine wpAny_bind (wpAny_nsGet hm ?_)
    rw [hy, h₃]
    exact wpAny_pure hq
theorem XC.call (h : XC W d f vs kw H D) : ∃ v H3, CallV W d f vs kw H v H3 ∧ D v H3 := by
  obtain ⟨v, H3, h1, hD⟩ := h; exact ⟨v, H3, h1.call, hD⟩

theorem bind1 {K : Frag} {fd : FuncData} {a : AV} {n1 : Str} (X : K.In W.h₀) (e : ∀ x S, peek K S (bindArgs fd ⟨[x], []⟩) = some [(n1, x)]) (ρ : List Addr) (s : Shared) (As : List Value) (Ks : List (Str × Value)) (hk : ∀ b o, W.h₀.get? b = some o → s.heap.get? b = some o) (hA : VRels ρ [a] As) (hK : KRels ρ [] Ks) :
    ∃ Bs, BindsTo s fd ⟨As, Ks⟩ Bs ∧ KRels ρ [(n1, a)] Bs := by
  cases hA with | cons h1 t =>
    cases t; cases hK
    exact ⟨_, kp_binds (X.keeps hk) (e _), .cons h1 .nil⟩
theorem bind2 {K : Frag} {fd : FuncData} {a b : AV} {n1 n2 : Str} (X : K.In W.h₀) (e : ∀ x y S, peek K S (bindArgs fd ⟨[x, y], []⟩) = some [(n1, x), (n2, y)]) (ρ : List Addr) (s : Shared) (As : List Value) (Ks : List (Str × Value)) (hk : ∀ b o, W.h₀.get? b = some o → s.heap.get? b = some o) (hA : VRels ρ [a, b] As) (hK : KRels ρ [] Ks) :
    ∃ Bs, BindsTo s fd ⟨As, Ks⟩ Bs ∧ KRels ρ [(n1, a), (n2, b)] Bs := by
  cases hA with | cons h1 t => cases t with | cons h2 t =>
    cases t; cases hK
    exact ⟨_, kp_binds (X.keeps hk) (e _ _), .cons h1 (.cons h2 .nil)⟩

/- comprehensions -/
noncomputable def XL (W : SW) (d : Nat) (fi : FI) (elt : PySem.Expr) (x : Str) (ifs : List PySem.Expr) (vars : List (Option AV)) (cl : List Nat) (H : List AO) (it : It) (outs : List AV) (D : List AV → List AO → Prop) : Prop := ∃ fin H', CompC W d fi elt x ifs vars cl H it outs fin H' ∧ D fin H'
noncomputable def XTs (W : SW) (d : Nat) (fi : FI) (ifs : List PySem.Expr) (vars : List (Option AV)) (cl : List Nat) (H : List AO) (D : Bool → List AO → Prop) : Prop := ∃ b H', TestsV W d fi ifs vars cl H b H' ∧ D b H'
theorem XTs.nil (h : DT true H) : XTs W d fi [] vars cl H DT := ⟨_, _, .nil, h⟩
theorem XTs.one (h : XT W d fi e vars cl H DT) : XTs W d fi [e] vars cl H DT := by
  obtain ⟨b, H1, h1, hD⟩ := h; exact ⟨b, H1, .one h1, hD⟩
theorem XL.inv {DL : List AV → List AO → Prop} {x : Str} {ifs : List PySem.Expr} (i : Nat) (I : Nat → List (Option AV) → List AO → It → List AV → Prop)
    (step : ∀ n vars H it outs, I n vars H it outs → outs.length ≤ sizeLine ∧ ((∃ H1, NextV W d it H Option.none H1 ∧ DL outs H1) ∨ ∃ v it' H1, NextV W d it H (some (v, it')) H1 ∧ XTs W d fi ifs (vars.set i (some v)) cl H1 fun b H2 =>
      (b = false → ∃ m, m < n ∧ I m (vars.set i (some v)) H2 it' outs) ∧ (b = true → XE W d fi elt (vars.set i (some v)) cl H2 fun y H3 => ∃ m, m < n ∧ I m (vars.set i (some v)) H3 it' (outs ++ [y]))))
    (hn : fi.ns[i]? = some x := by rfl) (hk : fi.kof x = some .local := by rfl) (hnd : fi.ns.Nodup := by decide +kernel) :
    ∀ n vars H it outs, I n vars H it outs → XL W d fi elt x ifs vars cl H it outs DL := by
  intro n
  induction n using Nat.strongRecOn with
  | ind n ih =>
    intro vars H it outs hI
    obtain ⟨hz, ⟨H1, hx, hD⟩ | ⟨v, it', H1, hx, b, H2, ht, hF, hT⟩⟩ := step n vars H it outs hI
    · exact ⟨_, _, .nil hx, hD⟩
    · cases b with
      | false =>
        obtain ⟨m, hm, hI'⟩ := hF rfl
        obtain ⟨fin, H3, hw, hD⟩ := ih m hm _ _ _ _ hI'
        exact ⟨fin, H3, .skip i hx hn hk hnd ht hw, hD⟩
      | true =>
        obtain ⟨y, H3, he, m, hm, hI'⟩ := hT rfl
        obtain ⟨fin, H4, hw, hD⟩ := ih m hm _ _ _ _ hI'
        exact ⟨fin, H4, .take i hx hn hk hnd ht he hz hw, hD⟩
noncomputable abbrev compFi (fi : FI) (scope : Scope) (ns : List Str) : FI := ⟨ns, freeNames scope.names, fun x => (compNames scope.names fi.kof).lookup x, fi.qual, fi.code⟩
noncomputable abbrev CompK2 (D : AV → List AO → Prop) : List AV → List AO → Prop := fun fin H2 => D (.loc H2.length) (H2 ++ [.list fin])
noncomputable abbrev CompK (W : SW) (d : Nat) (fi : FI) (elt : PySem.Expr) (x : Str) (ifs : List PySem.Expr) (scope : Scope) (ns : List Str) (cl' : List Nat) (D' : List AV → List AO → Prop) : AV → List AO → Prop := fun a H1 => ∃ it, IterV W a H1 it ∧ it.own = true ∧ XL W d (compFi fi scope ns) elt x ifs (ns.map fun _ => Option.none) cl' H1 it [] D'
theorem XE.comp {x : Str} {px : Pos} {iter : PySem.Expr} {ifs : List PySem.Expr} {scope : Scope} (ns : List Str) (cl' : List Nat)
    (h : XE W d fi iter vars cl H (CompK W d fi elt x ifs scope ns cl' (CompK2 D)))
    (hfree : ∀ (j : Nat) (y : Str), (freeNames scope.names)[j]? = some y → ∃ (k c : Nat), fi.cs[k]? = some y ∧ cl[k]? = some c ∧ cl'[j]? = some c)
    (hkind : scope.kind = .function := by rfl) (hcell : ∀ y ∈ scope.names, y.2 ≠ .cell := by decide +kernel) (hnames : ∀ y ∈ scope.names, y.2 = .local → scope.names.lookup y.1 = some .local := by decide +kernel)
    (hs : ∀ env x, foldedSetIterable iter env x = pure x := by intro _ _; rfl) :
    XE W d fi (.ListComp elt [⟨.Name x px, iter, ifs, 0⟩] scope pos) vars cl H D := by
  obtain ⟨a, H1, h1, it, h2, ho, fin, H2, h3, hD⟩ := h
  exact ⟨_, _, .comp ns cl' h1 h2 h3 hfree ho hkind hcell hnames hs, hD⟩

theorem exC {f : AV} {kw : List (Str × AV)} {vs : List AV} (hk : Keepr W f H2) (h : XC W d f vs kw H2 D) : CallK2 W d f kw D vs H2 := ⟨hk, h.call⟩
theorem exD {f : AV} {first vs : List AV} (hk : Keepr W f H2) (h : XC W d f (first ++ vs) [] H2 D) : MethK2 W d f first D vs H2 := ⟨hk, h.call⟩
theorem exO {name : Str} {f : AV} {first : List AV} (h : GetM W ov name H1 f first H2) (hk : Keepr W f H2) (hx : XC W d f first [] H2 D) : Meth0K W d name D ov H1 := ⟨f, first, H2, h, hk, hx.call⟩
theorem exI {x : Str} {ifs : List PySem.Expr} {scope : Scope} {ns : List Str} {D' : List AV → List AO → Prop} {it : It} (h : IterV W a H1 it) (ho : it.own = true) (hx : XL W d (compFi fi scope ns) elt x ifs (ns.map fun _ => Option.none) cl' H1 it [] D') : CompK W d fi elt x ifs scope ns cl' D' a H1 := ⟨it, h, ho, hx⟩
/- the list of objects: looking up -/
theorem ga {α : Type} {H l : List α} {i : Nat} {o : α} (h : H[i]? = some o) : (H ++ l)[i]? = some o := by
  rw [List.getElem?_append_left (List.getElem?_eq_some_iff.mp h).1]; exact h
theorem gl {α : Type} {H : List α} {o : α} : (H ++ [o])[H.length]? = some o := by simp
theorem gs {α : Type} {H : List α} {i j : Nat} {o x : α} (hij : i ≠ j) (h : H[j]? = some o) : (H.set i x)[j]? = some o := by rw [List.getElem?_set_ne hij]; exact h
theorem gn {α : Type} {H : List α} {i : Nat} {o x : α} (h : H[i]? = some o) : (H.set i x)[i]? = some x := List.getElem?_set_self (List.getElem?_eq_some_iff.mp h).1

/- all but the places of S stand -/
noncomputable def Ext (S : List Nat) (H H' : List AO) : Prop := H.length ≤ H'.length ∧ ∀ i o, i ∉ S → H[i]? = some o → H'[i]? = some o
theorem Ext.refl {S : List Nat} : Ext S H H := ⟨Nat.le_refl _, fun _ _ _ h => h⟩
theorem Ext.trans {S : List Nat} (x : Ext S H H1) (y : Ext S H1 H2) : Ext S H H2 := ⟨Nat.le_trans x.1 y.1, fun i o h e => y.2 i o h (x.2 i o h e)⟩
theorem Ext.app {S : List Nat} {l : List AO} (x : Ext S H H1) : Ext S H (H1 ++ l) := ⟨Nat.le_trans x.1 (by simp), fun i o h e => ga (x.2 i o h e)⟩
theorem Ext.set {S : List Nat} {i : Nat} {o : AO} (x : Ext S H H1) (hi : i ∈ S ∨ H.length ≤ i) : Ext S H (H1.set i o) := ⟨by simpa using x.1, fun j ob h e => gs (fun q => by
  subst q
  rcases hi with hi | hi
  · exact h hi
  · have := (List.getElem?_eq_some_iff.mp e).1; omega) (x.2 j ob h e)⟩
theorem Ext.wide {S T : List Nat} (x : Ext S H H1) (h : ∀ i ∈ S, i ∈ T ∨ H.length ≤ i) : Ext T H H1 := ⟨x.1, fun i o hi e => x.2 i o (fun q => by
  rcases h i q with h | h
  · exact hi h
  · have := (List.getElem?_eq_some_iff.mp e).1; omega) e⟩
end Mine

/- part -/
namespace Mine
open PySem.Calls
variable {W : SW} {d : Nat} {fi fi' : FI} {vars vars' vars'' : List (Option AV)} {cl cl' : List Nat} {H H' H1 H2 H3 H4 : List AO} {a b c v f ov : AV} {e l r elt : PySem.Expr} {pos : Pos} {vs : List AV}
variable {D : AV → List AO → Prop} {DT : Bool → List AO → Prop} {DF : AF → List (Option AV) → List AO → Prop}

/- what an iterator still gives, nothing being changed -/
noncomputable def Items (H : List AO) : It → List AV → Prop
  | .list l i, vs => ∃ xs, H[l]? = some (.list xs) ∧ xs.drop i = vs
  | .tup l i, vs => ∃ xs, H[l]? = some (.tup xs) ∧ xs.drop i = vs
  | .rng x n, vs => vs = (List.range n).map fun (k : Nat) => AV.int (x + k)
  | .chars cs, vs => vs = cs.map fun c => AV.str [c]
  | .citer _, _ => False
noncomputable def It.nx : It → It
  | .list l i => .list l (i + 1)
  | .tup l i => .tup l (i + 1)
  | .rng x n => .rng (x + 1) (n - 1)
  | .chars cs => .chars cs.tail
  | .citer k => .citer k
theorem Items.next {it : It} (h : Items H it (v :: vs)) : NextV W d it H (some (v, it.nx)) H ∧ Items H it.nx vs := by
  cases it with
  | list l i =>
    obtain ⟨xs, h1, h2⟩ := h
    have hx : xs[i]? = some v := by have := congrArg (·[0]?) h2; simpa using this
    have hd : xs.drop (i + 1) = vs := by rw [← List.drop_drop, h2]; rfl
    exact ⟨.listCons h1 hx, ⟨xs, h1, hd⟩⟩
  | tup l i =>
    obtain ⟨xs, h1, h2⟩ := h
    have hx : xs[i]? = some v := by have := congrArg (·[0]?) h2; simpa using this
    have hd : xs.drop (i + 1) = vs := by rw [← List.drop_drop, h2]; rfl
    exact ⟨.tupCons h1 hx, ⟨xs, h1, hd⟩⟩
  | rng x n =>
    cases n with
    | zero => simp [Items] at h
    | succ n =>
      simp only [Items, List.range_succ_eq_map, List.map_cons, List.map_map, List.cons.injEq] at h
      obtain ⟨rfl, rfl⟩ := h
      refine ⟨?_, ?_⟩
      · have : (x + ((0 : Nat) : Int)) = x := by omega
        rw [this]; exact .rngCons
      · show _ = _
        refine List.map_congr_left fun k _ => ?_
        simp only [Function.comp]
        congr 1
        omega
  | chars cs =>
    cases cs with
    | nil => simp [Items] at h
    | cons c cs =>
      simp only [Items, List.map_cons, List.cons.injEq] at h
      obtain ⟨rfl, rfl⟩ := h
      exact ⟨.charsCons, rfl⟩
  | citer k => exact h.elim
theorem Items.stop {it : It} (h : Items H it []) : NextV W d it H Option.none H := by
  cases it with
  | list l i =>
    obtain ⟨xs, h1, h2⟩ := h
    exact .listNil h1 (List.getElem?_eq_none (List.drop_eq_nil_iff.mp h2))
  | tup l i =>
    obtain ⟨xs, h1, h2⟩ := h
    exact .tupNil h1 (List.getElem?_eq_none (List.drop_eq_nil_iff.mp h2))
  | rng x n =>
    cases n with
    | zero => exact .rngNil
    | succ n => simp [Items, List.range_succ_eq_map] at h
  | chars cs =>
    cases cs with
    | nil => exact .charsNil
    | cons c cs => simp [Items] at h
  | citer k => exact h.elim

/- a comprehension that changes nothing -/
theorem XL.pure {DL : List AV → List AO → Prop} {x : Str} {ifs : List PySem.Expr} {it : It} (i : Nat) (p : AV → Bool) (g : AV → AV) (I : List (Option AV) → Prop)
    (ht : ∀ v ∈ vs, ∀ vars, I vars → I (vars.set i (some v)) ∧ XTs W d fi ifs (vars.set i (some v)) cl H fun b H2 => b = p v ∧ H2 = H)
    (hg : ∀ v ∈ vs, p v = true → ∀ vars, I vars → XE W d fi elt (vars.set i (some v)) cl H fun y H2 => y = g v ∧ H2 = H)
    (hz : vs.length ≤ sizeLine) (hi : Items H it vs) (hI : I vars) (hD : DL ((vs.filter p).map g) H)
    (hn : fi.ns[i]? = some x := by rfl) (hk : fi.kof x = some .local := by rfl) (hnd : fi.ns.Nodup := by decide +kernel) :
    XL W d fi elt x ifs vars cl H it [] DL := by
  refine XL.inv i (fun n vars H' it' outs => ∃ done rest, vs = done ++ rest ∧ H' = H ∧ Items H it' rest ∧ outs = (done.filter p).map g ∧ n = rest.length ∧ I vars) ?_ hn hk hnd _ _ _ _ _ ⟨[], vs, rfl, rfl, hi, rfl, rfl, hI⟩
  rintro n vars H' it' outs ⟨done, rest, hvs, rfl, h1, rfl, rfl, hI⟩
  refine ⟨?_, ?_⟩
  · rw [List.length_map]
    have := List.length_filter_le p done
    have := congrArg List.length hvs
    simp at this; omega
  cases rest with
  | nil => exact .inl ⟨_, h1.stop, by rw [hvs, List.append_nil] at hD; exact hD⟩
  | cons v rest =>
    obtain ⟨h2, h3⟩ := h1.next (W := W) (d := d)
    have hm : v ∈ vs := by rw [hvs]; simp
    obtain ⟨hI', b, H2, h4, rfl, rfl⟩ := ht v hm vars hI
    refine .inr ⟨v, _, _, h2, _, _, h4, fun hb => ⟨rest.length, by simp, done ++ [v], rest, by rw [hvs]; simp, rfl, h3, ?_, rfl, hI'⟩, fun hb => ?_⟩
    · simp [hb]
    · obtain ⟨y, H3, h5, rfl, rfl⟩ := hg v hm hb vars hI
      exact ⟨_, _, h5, rest.length, by simp, done ++ [v], rest, by rw [hvs]; simp, rfl, h3, by simp [hb], rfl, hI'⟩

/- a for loop over what is not changed meanwhile -/
theorem XF.items {x : Str} {px : Pos} {body : List Stmt} {it : It} (i : Nat) (I : List AV → List (Option AV) → List AO → Prop) (hi : Items H it vs)
    (same : ∀ rest vars' H', I rest vars' H' → ∀ (l : Nat) (o : AO), H[l]? = some o → (∃ j, it = .list l j ∨ it = .tup l j) → H'[l]? = some o)
    (step : ∀ v rest vars H', I (v :: rest) vars H' → XB W d fi body (vars.set i (some v)) cl H' (LoopK DF (I rest)))
    (fin : ∀ vars H', I [] vars H' → DF .next vars H') (hI : I vs vars H)
    (hn : fi.ns[i]? = some x := by rfl) (hk : fi.kof x = some .local := by rfl) (hnd : fi.ns.Nodup := by decide +kernel) :
    XF W d fi (.Name x px) body vars cl H it DF := by
  have start : ∀ G : List AO, (∀ (l : Nat) (o : AO), H[l]? = some o → (∃ j, it = .list l j ∨ it = .tup l j) → G[l]? = some o) → Items G it vs := fun G hG => by
    cases it with
    | list l i => obtain ⟨xs, h1, h2⟩ := hi; exact ⟨xs, hG l _ h1 ⟨i, .inl rfl⟩, h2⟩
    | tup l i => obtain ⟨xs, h1, h2⟩ := hi; exact ⟨xs, hG l _ h1 ⟨i, .inr rfl⟩, h2⟩
    | rng x n => exact hi
    | chars cs => exact hi
    | citer k => exact hi
  refine XF.inv i (fun n vars' H' it' => ∃ rest, I rest vars' H' ∧ n = rest.length ∧ ∀ G : List AO, (∀ (l : Nat) (o : AO), H[l]? = some o → (∃ j, it = .list l j ∨ it = .tup l j) → G[l]? = some o) → Items G it' rest) ?_ hn hk hnd _ _ _ _ ⟨vs, hI, rfl, start⟩
  rintro n vars' H' it' ⟨rest, hI, rfl, h1⟩
  have h2 := h1 H' (same rest vars' H' hI)
  cases rest with
  | nil => exact .inl ⟨_, h2.stop, fin _ _ hI⟩
  | cons v rest =>
    obtain ⟨h3, h4⟩ := h2.next (W := W) (d := d)
    refine .inr ⟨v, _, _, h3, ?_⟩
    obtain ⟨f, v2, H2, h5, hD⟩ := step v rest vars' H' hI
    refine ⟨f, v2, H2, h5, ?_⟩
    cases f with
    | ret u => exact hD
    | brk => exact hD
    | next => exact ⟨rest.length, by simp, rest, hD, rfl, fun G hG => ((h1 G hG).next (W := W) (d := 0)).2⟩
    | cont => exact ⟨rest.length, by simp, rest, hD, rfl, fun G hG => ((h1 G hG).next (W := W) (d := 0)).2⟩
end Mine

/- part -/
namespace Mine
open PySem.Calls
variable {W : SW} {d : Nat} {fi fi' : FI} {vars vars' vars'' : List (Option AV)} {cl cl' : List Nat} {H H' H1 H2 H3 H4 : List AO} {a b c v f ov : AV} {e l r elt : PySem.Expr} {pos : Pos} {vs : List AV}
variable {D : AV → List AO → Prop} {DT : Bool → List AO → Prop} {DF : AF → List (Option AV) → List AO → Prop}

noncomputable abbrev SetAK2 (C : Nat) (name : Str) (v : AV) (DF : AF → List (Option AV) → List AO → Prop) (vars : List (Option AV)) : AV → List AO → Prop := fun ov H2 => ∃ i j es, ov = .loc i ∧ InstIs H2 i C j es ∧ es.length ≤ 1000 ∧ DF .next vars (H2.set j (.idict (aset es name v)))
noncomputable abbrev SetAK (W : SW) (d : Nat) (fi : FI) (o : PySem.Expr) (C : Nat) (name : Str) (vars : List (Option AV)) (cl : List Nat) (DF : AF → List (Option AV) → List AO → Prop) : AV → List AO → Prop := fun v H1 => XE W d fi o vars cl H1 (SetAK2 C name v DF vars)
theorem XS.assignA {o : PySem.Expr} {name : Str} {apos : Pos} (C : Nat) (h : XE W d fi e vars cl H (SetAK W d fi o C name vars cl DF))
    (hs : findIn W.K (.ref C) "__setattr__" = some (some (.builtin "object.__setattr__")) := by kernel_rfl) (hp : plainOver W.K C = true := by kernel_rfl) (ht : takerIn W.K C name = some Option.none := by kernel_rfl) (hh : hasDictIn W.K C = true := by kernel_rfl)
    (hsw : ∀ env, swapsWith e (some (.Attribute o name apos)) pos.line env = pure false := by intro _; rfl) : XS W d fi (.Assign [.Attribute o name apos] e pos) vars cl H DF := by
  obtain ⟨v, H1, h1, ov, H2, h2, i, j, es, rfl, I, hz, hD⟩ := h
  exact ⟨_, _, _, .assignAttr h1 h2 I hs hp ht hh hz hsw, hD⟩
theorem XS.augA {o : PySem.Expr} {name : Str} {apos : Pos} {op : Operator} (C : Nat) (h : XE W d fi o vars cl H fun ov H1 => ∃ i, ov = .loc i ∧ ∃ a H2, GetA W (.loc i) name H1 a H2 ∧ XE W d fi e vars cl H2 fun b H3 => ∃ v H4 j es, OpV W (inplaceOp op) a b H3 v H4 ∧ InstIs H4 i C j es ∧ es.length ≤ 1000 ∧ DF .next vars (H4.set j (.idict (aset es name v))))
    (hs : findIn W.K (.ref C) "__setattr__" = some (some (.builtin "object.__setattr__")) := by kernel_rfl) (hp : plainOver W.K C = true := by kernel_rfl) (ht : takerIn W.K C name = some Option.none := by kernel_rfl) (hh : hasDictIn W.K C = true := by kernel_rfl) :
    XS W d fi (.AugAssign (.Attribute o name apos) op e pos) vars cl H DF := by
  obtain ⟨ov, H1, h1, i, rfl, a, H2, h2, b, H3, h3, v, H4, j, es, h4, I, hz, hD⟩ := h
  exact ⟨_, _, _, .augAttr h1 h2 h3 h4 I hs hp ht hh hz, hD⟩
theorem XC.make {C fI : Nat} {args : List AV} (h : XC W d (.fn fI) (.loc (H.length + 1) :: args) [] (H ++ [.idict []] ++ [.inst C H.length]) fun v H' => v = .none ∧ D (.loc (H.length + 1)) H')
    (hm : makesIn W.K C = true := by kernel_rfl) (hi : findIn W.K (.ref C) "__init__" = some (some (.ref fI)) := by kernel_rfl) (hf : typeIn W.K (.ref fI) = some (.type "function") := by kernel_rfl) : XC W (d + 1) (.fn C) args [] H D := by
  obtain ⟨v, H', h1, rfl, hD⟩ := h
  exact ⟨_, _, .make hm hi hf h1, hD⟩
theorem XC.meth {i g sl : Nat} {args : List AV} {kw : List (Str × AV)} (ho : H[i]? = some (.meth g sl)) (h : XC W d (.fn g) (.loc sl :: args) kw H D) : XC W d (.loc i) args kw H D := by
  obtain ⟨v, H', h1, hD⟩ := h; exact ⟨_, _, .meth ho h1, hD⟩
theorem XE.lam {params : Arguments} {body : PySem.Expr} {scope : Scope} (c P t : Nat) (es : List (Nat × Nat × Nat)) (cl2 : List (Str × Nat)) (C : CodeHd W.h₀ c P) (hP : H[t]? = some (.tab P es))
    (h : (∀ j, tabFind es pos.line pos.col = some j → D (.loc H.length) (H ++ [.clo (fi.qual ++ "<lambda>") params body scope cl2 j])) ∧
      (tabFind es pos.line pos.col = Option.none → D (.loc (H.length + 1)) ((H ++ [AO.code (fi.qual ++ "<lambda>")]).set t (.tab P (es ++ [(pos.line, pos.col, H.length)])) ++ [.clo (fi.qual ++ "<lambda>") params body scope cl2 H.length])))
    (hcode : fi.code = .ref c := by rfl) (hn : cl2.map (·.1) = (freeNames scope.names).reverse := by rfl) (hcl : ∀ p ∈ cl2, ∃ k : Nat, fi.cs[k]? = some p.1 ∧ cl[k]? = some p.2) (hdef : ∀ env, defaultsOf params env = ([], []) := by intro _; rfl) :
    XE W d fi (.Lambda params body scope pos) vars cl H D := by
  cases q : tabFind es pos.line pos.col with
  | some j => exact ⟨_, _, .lam cl2 hcode C hP hn hcl hdef (by rw [q]), h.1 j q⟩
  | none => exact ⟨_, _, .lam cl2 hcode C hP hn hcl hdef (by rw [q]), h.2 q⟩
theorem XC.clo {i cd : Nat} {qual : Str} {params : Arguments} {body : PySem.Expr} {scope : Scope} {cl2 : List (Str × Nat)} (ns : List Str) {args : List AV} {bs : List (Str × AV)} {vars0 : List (Option AV)}
    (ho : H[i]? = some (.clo qual params body scope cl2 cd)) (hc : H[cd]? = some (.code qual))
    (hb : ∀ (ρ : List Addr) (As : List Value) (rcl : List (Str × Addr)) (pm : Value) (C : Addr) (ctv : Value), VRels ρ args As → ∃ Bs, bindArgs (kla_fn "<lambda>" qual params body scope rcl pm (.ref C) ctv) ⟨As, []⟩ = pure Bs ∧ KRels ρ bs Bs)
    (hkd : (bs.all fun y => scope.names.lookup y.1 == some .local) = true) (hnc : ∀ x ∈ scope.names, x.2 ≠ .cell) (hn2 : (cl2.map (·.1)).Nodup)
    (hv : vars0 = ns.map fun x => bs.reverse.lookup x)
    (hdet : ∃ v H', (∀ cv, EvE W d ⟨ns, cl2.map (·.1), fun x => scope.names.lookup x, qual ++ ".<locals>.", cv⟩ body vars0 (cl2.map (·.2)) H v H') ∧ D v H')
    (hco : scope.isCoroutine = false := by rfl) (hgen : scope.isGenerator = false := by rfl) (hk : scope.kind = .function := by rfl) :
    XC W (d + 1) (.loc i) args [] H D := by
  obtain ⟨v, H', h1, hD⟩ := hdet
  exact ⟨_, _, .clo ns ho hc hb hkd hnc hn2 hv h1 hco hgen hk, hD⟩

theorem tabFind_snoc {l c j : Nat} {es : List (Nat × Nat × Nat)} (h : tabFind es l c = Option.none) : tabFind (es ++ [(l, c, j)]) l c = some j := by
  unfold tabFind at h ⊢
  rw [Option.map_eq_none_iff] at h
  rw [List.find?_append, h]
  simp
theorem tabFind_other {l c j l' c' : Nat} {es : List (Nat × Nat × Nat)} (h : (l', c') ≠ (l, c)) : tabFind (es ++ [(l, c, j)]) l' c' = tabFind es l' c' := by
  unfold tabFind
  rw [List.find?_append]
  cases q : es.find? fun e => e.1 == l' && e.2.1 == c' with
  | some e => rfl
  | none =>
    have : ((l == l') && (c == c')) = false := by
      by_cases h1 : l = l'
      · subst h1
        by_cases h2 : c = c'
        · subst h2; exact absurd rfl h
        · simp [h2]
      · simp [h1]
    simp [this]
/- a lambda, whether its code is known or not -/
theorem XE.lamTab {params : Arguments} {body : PySem.Expr} {scope : Scope} (c P t : Nat) (es : List (Nat × Nat × Nat)) (cl2 : List (Str × Nat)) (C : CodeHd W.h₀ c P) (hP : H[t]? = some (.tab P es))
    (hes : ∀ j, tabFind es pos.line pos.col = some j → H[j]? = some (.code (fi.qual ++ "<lambda>")))
    (h : ∀ (g cd : Nat) (es' : List (Nat × Nat × Nat)) (G : List AO), Ext [t] H G → H.length ≤ g → G[g]? = some (.clo (fi.qual ++ "<lambda>") params body scope cl2 cd) → G[cd]? = some (.code (fi.qual ++ "<lambda>")) → G[t]? = some (.tab P es') →
      (∀ j, tabFind es' pos.line pos.col = some j → G[j]? = some (.code (fi.qual ++ "<lambda>"))) → (∀ l' c', (l', c') ≠ (pos.line, pos.col) → tabFind es' l' c' = tabFind es l' c') → D (.loc g) G)
    (hcode : fi.code = .ref c := by rfl) (hn : cl2.map (·.1) = (freeNames scope.names).reverse := by rfl) (hcl : ∀ p ∈ cl2, ∃ k : Nat, fi.cs[k]? = some p.1 ∧ cl[k]? = some p.2) (hdef : ∀ env, defaultsOf params env = ([], []) := by intro _; rfl) :
    XE W d fi (.Lambda params body scope pos) vars cl H D := by
  have htl : t < H.length := (List.getElem?_eq_some_iff.mp hP).1
  refine XE.lam c P t es cl2 C hP ⟨fun j hj => ?_, fun hj => ?_⟩ hcode hn hcl hdef
  · exact h H.length j es _ Ext.refl.app (Nat.le_refl _) gl (ga (hes j hj)) (ga hP) (fun k hk => by rw [hj] at hk; cases hk; exact ga (hes j hj)) (fun _ _ _ => rfl)
  · have e1 : (H ++ [AO.code (fi.qual ++ "<lambda>")]).length = H.length + 1 := by simp
    have hc : (((H ++ [AO.code (fi.qual ++ "<lambda>")]).set t (.tab P (es ++ [(pos.line, pos.col, H.length)]))) ++ [AO.clo (fi.qual ++ "<lambda>") params body scope cl2 H.length])[H.length]? = some (.code (fi.qual ++ "<lambda>")) := ga (gs (by omega) gl)
    have e2 : ((H ++ [AO.code (fi.qual ++ "<lambda>")]).set t (.tab P (es ++ [(pos.line, pos.col, H.length)]))).length = H.length + 1 := by simp
    refine h (H.length + 1) H.length _ _ ((Ext.refl.app.set (.inl (by simp))).app) (Nat.le_succ _) ?_ hc (ga (gn (ga hP))) (fun k hk => ?_) (fun l' c' hlc => tabFind_other hlc)
    · rw [← e2]; exact gl
    · rw [tabFind_snoc hj] at hk; cases hk; exact hc

theorem XS.setI {o i : PySem.Expr} {spos : Pos} (h : XE W d fi e vars cl H fun v H1 => XE W d fi o vars cl H1 fun ov H2 => XE W d fi i vars cl H2 fun iv H3 => ∃ (j jj : Nat) (k : Int) (xs : List AV) (m : Nat), ov = .loc j ∧ iv = .int k ∧ H3[j]? = some (.list xs) ∧ seqIndex? k xs.length = some m ∧ xs.length < 2 ^ 62 ∧ k = Int.negSucc jj ∧ DF .next vars (H3.set j (.list (xs.set m v))))
    (hs : ∀ env, swapsWith e (some (.Subscript o i spos)) pos.line env = pure false := by intro _; rfl) : XS W d fi (.Assign [.Subscript o i spos] e pos) vars cl H DF := by
  obtain ⟨v, H1, h1, ov, H2, h2, iv, H3, h3, j, jj, k, xs, m, rfl, rfl, hx, hm, hz, hk, hD⟩ := h
  exact ⟨_, _, _, .setItem h1 h2 h3 hx hm hz hk hs, hD⟩
theorem XS.delI {o i : PySem.Expr} {spos : Pos} (h : XE W d fi o vars cl H fun ov H1 => XE W d fi i vars cl H1 fun iv H2 => ∃ (j : Nat) (k : Int) (xs : List AV) (m : Nat), ov = .loc j ∧ iv = .int k ∧ H2[j]? = some (.list xs) ∧ seqIndex? k xs.length = some m ∧ xs.length ≤ sizeLine ∧ DF .next vars (H2.set j (.list (xs.eraseIdx m)))) :
    XS W d fi (.Delete [.Subscript o i spos] pos) vars cl H DF := by
  obtain ⟨ov, H1, h1, iv, H2, h2, j, k, xs, m, rfl, rfl, hx, hm, hz, hD⟩ := h
  exact ⟨_, _, _, .delItem h1 h2 hx hm hz, hD⟩
theorem XS.tup2 {es : List PySem.Expr} {x y : Str} {px py tpos vpos : Pos} {k1 k2 : Nat} (i j : Nat) (h : XEs W d fi es vars cl H fun vs H1 => ∃ a b, vs = [a, b] ∧ DF .next ((vars.set j (some b)).set i (some a)) (H1 ++ [.tup [a, b]]))
    (hx : fi.ns[i]? = some x := by rfl) (hy : fi.ns[j]? = some y := by rfl) (kx : fi.kof x = some .local := by rfl) (ky : fi.kof y = some .local := by rfl) (hnd : fi.ns.Nodup := by decide +kernel)
    (hs : ∀ env, swapsWithSole [.Tuple [.Name x px, .Name y py] k1 tpos] (.Tuple es k2 vpos) pos.line env = pure false := by intro _; rfl)
    (hw : ∀ env, env.scope.kind = .function → env.kindOf x = some .local → env.kindOf y = some .local → swappedStores [.Tuple [.Name x px, .Name y py] k1 tpos] (.Tuple es k2 vpos) env = pure (some [x, y]) := by intro _ _ _ _; rfl) :
    XS W d fi (.Assign [.Tuple [.Name x px, .Name y py] k1 tpos] (.Tuple es k2 vpos) pos) vars cl H DF := by
  obtain ⟨vs, H1, h1, a, b, rfl, hD⟩ := h
  exact ⟨_, _, _, .assignTup2 i j h1 hx hy kx ky hnd hs hw, hD⟩
end Mine

/- part -/
namespace Mine
open PySem.Calls
variable {W : SW} {d : Nat} {fi fi' : FI} {vars vars' vars'' : List (Option AV)} {cl cl' : List Nat} {H H' H1 H2 H3 H4 : List AO} {a b c v f ov : AV} {e l r elt : PySem.Expr} {pos : Pos} {vs : List AV}
variable {D : AV → List AO → Prop} {DT : Bool → List AO → Prop} {DF : AF → List (Option AV) → List AO → Prop}

theorem XF.rng {z : Int} {n : Nat} {x : Str} {px : Pos} {body : List Stmt} (i : Nat) (I : Nat → List (Option AV) → List AO → Prop)
    (step : ∀ k, k < n → ∀ vars H', I k vars H' → XB W d fi body (vars.set i (some (.int (z + k)))) cl H' (LoopK DF (I (k + 1))))
    (fin : ∀ vars H', I n vars H' → DF .next vars H') (hI : I 0 vars H)
    (hn : fi.ns[i]? = some x := by rfl) (hk : fi.kof x = some .local := by rfl) (hnd : fi.ns.Nodup := by decide +kernel) :
    XF W d fi (.Name x px) body vars cl H (.rng z n) DF := by
  refine XF.items (vs := (List.range n).map fun (k : Nat) => AV.int (z + k)) i (fun rest vars H' => ∃ k, rest = ((List.range n).map fun (k : Nat) => AV.int (z + k)).drop k ∧ k ≤ n ∧ I k vars H') rfl ?_ ?_ ?_ ⟨0, rfl, Nat.zero_le _, hI⟩ hn hk hnd
  · rintro _ _ _ _ l o _ ⟨j, h | h⟩ <;> cases h
  · rintro v rest vars' H' ⟨k, h1, h2, hI⟩
    have hk' : k < n := by
      rcases Nat.lt_or_eq_of_le h2 with h | rfl
      · exact h
      · rw [List.drop_of_length_le (by simp)] at h1; cases h1
    rw [List.drop_eq_getElem_cons (by simpa using hk')] at h1
    simp only [List.getElem_map, List.getElem_range, List.cons.injEq] at h1
    obtain ⟨rfl, rfl⟩ := h1
    obtain ⟨f, v', H2, hb, hD⟩ := step k hk' vars' H' hI
    refine ⟨f, v', H2, hb, ?_⟩
    cases f with
    | ret u => exact hD
    | brk => exact hD
    | next => exact ⟨k + 1, rfl, hk', hD⟩
    | cont => exact ⟨k + 1, rfl, hk', hD⟩
  · rintro vars' H' ⟨k, h1, h2, hI⟩
    have : n ≤ k := by
      have := congrArg List.length h1
      simp at this; omega
    have : k = n := by omega
    subst this
    exact fin _ _ hI
theorem XF.lst {li : Nat} {xs : List AV} {x : Str} {px : Pos} {body : List Stmt} (i : Nat) (I : Nat → List (Option AV) → List AO → Prop) (hl : H[li]? = some (.list xs))
    (same : ∀ k vars H', I k vars H' → H'[li]? = some (.list xs))
    (step : ∀ k v, xs[k]? = some v → ∀ vars H', I k vars H' → XB W d fi body (vars.set i (some v)) cl H' (LoopK DF (I (k + 1))))
    (fin : ∀ vars H', I xs.length vars H' → DF .next vars H') (hI : I 0 vars H)
    (hn : fi.ns[i]? = some x := by rfl) (hk : fi.kof x = some .local := by rfl) (hnd : fi.ns.Nodup := by decide +kernel) :
    XF W d fi (.Name x px) body vars cl H (.list li 0) DF := by
  refine XF.items (vs := xs) i (fun rest vars H' => ∃ k, rest = xs.drop k ∧ k ≤ xs.length ∧ I k vars H') ⟨xs, hl, rfl⟩ ?_ ?_ ?_ ⟨0, rfl, Nat.zero_le _, hI⟩ hn hk hnd
  · rintro _ _ H' ⟨k, _, _, hI⟩ l o ho ⟨j, h | h⟩
    · cases h
      rw [hl] at ho; cases ho
      exact same k _ H' hI
    · cases h
  · rintro v rest vars' H' ⟨k, h1, h2, hI⟩
    have hk' : k < xs.length := by
      rcases Nat.lt_or_eq_of_le h2 with h | rfl
      · exact h
      · rw [List.drop_of_length_le (Nat.le_refl _)] at h1; cases h1
    rw [List.drop_eq_getElem_cons hk'] at h1
    simp only [List.cons.injEq] at h1
    obtain ⟨rfl, rfl⟩ := h1
    obtain ⟨f, v', H2, hb, hD⟩ := step k _ (List.getElem?_eq_getElem hk') vars' H' hI
    refine ⟨f, v', H2, hb, ?_⟩
    cases f with
    | ret u => exact hD
    | brk => exact hD
    | next => exact ⟨k + 1, rfl, hk', hD⟩
    | cont => exact ⟨k + 1, rfl, hk', hD⟩
  · rintro vars' H' ⟨k, h1, h2, hI⟩
    have : xs.length ≤ k := by
      have := congrArg List.length h1
      simp at this; omega
    have : k = xs.length := by omega
    subst this
    exact fin _ _ hI
/- a comprehension over chars, changing nothing -/
theorem XL.chars {DL : List AV → List AO → Prop} {x : Str} {y : List Nat} (i : Nat) (g : Nat → AV) (I : List (Option AV) → Prop)
    (hI2 : ∀ vars v, I vars → I (vars.set i (some v)))
    (hg : ∀ c ∈ y, ∀ vars, I vars → XE W d fi elt (vars.set i (some (.str [c]))) cl H fun y H2 => y = g c ∧ H2 = H)
    (hz : y.length ≤ sizeLine) (hI : I vars) (hD : DL (y.map g) H)
    (hn : fi.ns[i]? = some x := by rfl) (hk : fi.kof x = some .local := by rfl) (hnd : fi.ns.Nodup := by decide +kernel) :
    XL W d fi elt x [] vars cl H (.chars y) [] DL := by
  refine XL.pure i (vs := y.map fun c => AV.str [c]) (fun _ => true) (fun a => match a with | .str [c] => g c | a => a) I (fun v hv vars hI => ⟨hI2 _ _ hI, XTs.nil ⟨rfl, rfl⟩⟩) (fun v hv _ vars hI => ?_) (by rw [List.length_map]; exact hz) rfl hI ?_ hn hk hnd
  · obtain ⟨c, hc, rfl⟩ := List.mem_map.mp hv
    exact hg c hc vars hI
  · rw [List.filter_eq_self.mpr (fun _ _ => rfl), List.map_map]; exact hD

noncomputable abbrev CompLK (DF : AF → List (Option AV) → List AO → Prop) (vars : List (Option AV)) (i : Nat) : List AV → List AO → Prop := fun fin H2 => DF .next (vars.set i (some (.loc H2.length))) (H2 ++ [.list fin])
theorem XS.compL {x y : Str} {px py cpos : Pos} {iter : PySem.Expr} {ifs : List PySem.Expr} {scope : Scope} (i : Nat) (ns : List Str) (cl' : List Nat)
    (h : XE W d fi iter vars cl H (CompK W d fi elt x ifs scope ns cl' (CompLK DF vars i)))
    (hfree : ∀ (j : Nat) (y : Str), (freeNames scope.names)[j]? = some y → ∃ (k c : Nat), fi.cs[k]? = some y ∧ cl[k]? = some c ∧ cl'[j]? = some c)
    (hn : fi.ns[i]? = some y := by rfl) (hk : fi.kof y = some .local := by rfl) (hnd : fi.ns.Nodup := by decide +kernel) (hline : (py.line == cpos.line && !(scope.names.any fun (n, k) => n == y && (k == .local || k == .cell))) = true := by kernel_rfl)
    (hkind : scope.kind = .function := by rfl) (hcell : ∀ y ∈ scope.names, y.2 ≠ .cell := by decide +kernel) (hnames : ∀ y ∈ scope.names, y.2 = .local → scope.names.lookup y.1 = some .local := by decide +kernel)
    (hs : ∀ env x, foldedSetIterable iter env x = pure x := by intro _ _; rfl) :
    XS W d fi (.Assign [.Name y py] (.ListComp elt [⟨.Name x px, iter, ifs, 0⟩] scope cpos) pos) vars cl H DF := by
  obtain ⟨a, H1, h1, it, h2, ho, fin, H2, h3, hD⟩ := h
  exact ⟨_, _, _, .assignComp i ns cl' h1 h2 h3 hfree hn hk hnd hline ho hkind hcell hnames hs, hD⟩

end Mine

/- part -/
namespace Mine
open PySem.Calls

theorem law_enter {prog p' : Program} {w : World} {K : Frag} {mg mb : Str → Option Value} {s₁ : Shared} {loose : List Str} {mean mean' : ExcName → Option Value} {cd0 tb ls f : Nat} {vs : List Value} {ns : List Int} {c : ClaimW} {cl : Str → Option Addr} {args : List WData}
    (KX : K.In s₁.heap) (T : Top p' loose mean mg mb s₁.heap) (hT : TabsAt [(cd0, tb)] s₁.heap) (hK : noTabs K = true) (hL : s₁.heap.IsList ls vs.toArray) (hI : IntsAre vs ns) (hg : s₁.gens = #[])
    (law : ∀ B : Bs K, B.prog = prog → B.w = w → CodeHd B.h₀ cd0 tb → XC B.W 8 (.fn f) [.loc 0] [] [.ro (intsOf ns), .tab tb []] fun v H' => v = .bool true ∧ ∃ es, H'[1]? = some (.tab tb es))
    (hr : ∀ x, c.raises args x = false) (hpost : c.post args (.bool true) args = true) :
    wpAny (model prog w) callerA (call (.ref f) [.ref ls]) (fun v s' => GoodWG c cl mean' args s₁ (.ok (.ret v)) s') (fun e s' => GoodWG c cl mean' args s₁ (.error e) s') s₁ := by
  have TG := ghost_top hT T
  let B : Bs K := ⟨prog, w, ghostOf s₁.heap [(cd0, tb)], mg, mb, ghost_K hT KX hK, TG.g, TG.b, TG.builtins, TG.nolimit, TG.bmain⟩
  have hC := hT (cd0, tb) (.head _)
  have hLG := ghost_list hT hL
  have hn : tb ≠ ls := fun q => by
    obtain ⟨o, e, hc, _⟩ := hL
    have e2 := hC.2
    rw [show ((cd0, tb) : Addr × Addr).2 = ls from q, e] at e2
    cases e2; cases hc
  have sr : SR B.W [ls, tb] [.ro (intsOf ns), .tab tb []] s₁.heap := by
    refine ⟨rfl, ?_, fun b o e => of_hideAll _ e, fun i o a hi ha hro => ?_, fun i o a hi ha => ?_⟩
    · simp [Ne.symm hn]
    · match i, hi, ha with
      | 0, hi, ha => cases hi; cases hro
      | 1, hi, ha => cases hi; cases ha; exact hideAll_none _ (by simp)
    · match i, hi, ha with
      | 0, hi, ha => cases hi; cases ha; exact ⟨vs, hLG, intsOf_of hI⟩
      | 1, hi, ha => cases hi; cases ha; exact ⟨rfl, [], hC.2, rfl⟩
  obtain ⟨v, H', hc, rfl, es, ht⟩ := law B rfl rfl (ghost_code hT).1
  refine hc.call callerA [ls, tb] s₁ (.ref f) [.ref ls] [] _ _ ⟨rfl, by decide, by decide⟩ sr (.fn f) (.cons (.loc rfl) .nil) .nil fun ρ' V h' tk post vr => ?_
  cases vr
  obtain ⟨⟨l, rfl, _⟩, sr', keep⟩ := post
  obtain ⟨_, vs', hP, _⟩ := sr'.obj 1 _ tb ht rfl
  refine ⟨.inl ⟨_, .bool true, [], rfl, hr, .bool true, hpost, fun _ => ⟨.nil, fun a ha => by cases ha⟩⟩, ⟨fun b o e => ?_, fun b o e => ?_⟩, rfl, .of_eq hg⟩
  · by_cases hb : b = tb
    · subst hb
      have e2 := hC.2
      rw [e] at e2; cases e2
      exact .inr (.inl ⟨(hC.1.tab hC.2).isCodeTable, rfl, #[], vs'.toArray, rfl, by rw [Array.empty_append]; exact hP⟩)
    · exact .inl (by
        by_cases hb2 : b = ls
        · exact sr'.base _ _ (ghost_ne e (by simpa using hb))
        · exact keep b o e (by simp [hb, hb2]) (by simp))
  · by_cases hb : b = tb
    · subst hb; exact ⟨_, hP⟩
    · exact ⟨o, by
        by_cases hb2 : b = ls
        · exact sr'.base _ _ (ghost_ne e (by simpa using hb))
        · exact keep b o e (by simp [hb, hb2]) (by simp)⟩
end Mine

/- part -/
namespace Mine
open PySem.Calls
variable {p : Params} {B : Bs (K02 p)} {d : Nat} {H H1 H2 : List AO}

noncomputable def IsCut (ns : List Int) (x : Int) (k : Nat) : Prop := k ≤ ns.length ∧ (∀ (j : Nat) (y : Int), j < k → ns[j]? = some y → y ≤ x) ∧ ∀ (j : Nat) (y : Int), k ≤ j → ns[j]? = some y → x < y
theorem ns_one {h : Heap} {a : Addr} {c : Value} {dd : Option Addr} {sl : Array (Option Value)} {hs : Int} {x : Str} {t : Tok} {v : Value} {n : Nat} (e : h.get? a = some ⟨c, dd, .dict #[⟨hs, .str x t, v⟩] n, sl⟩) : h.Ns a (nsFind #[⟨hs, .str x t, v⟩]) :=
  ⟨_, _, n, e, rfl, fun e he => by simp at he; subst he; exact ⟨x, t, rfl⟩, fun _ => rfl⟩
theorem sorted_get {ns : List Int} (hs : ns.Pairwise (· ≤ ·)) {i j : Nat} {y z : Int} (hij : i ≤ j) (hi : ns[i]? = some y) (hj : ns[j]? = some z) : y ≤ z := by
  obtain ⟨h1, rfl⟩ := List.getElem?_eq_some_iff.mp hi
  obtain ⟨h2, rfl⟩ := List.getElem?_eq_some_iff.mp hj
  rcases Nat.lt_or_eq_of_le hij with h | h
  · exact List.pairwise_iff_getElem.mp hs i j h1 h2 h
  · subst h; exact Int.le_refl _
theorem intsOf_get {ns : List Int} {j : Nat} {y : Int} (h : ns[j]? = some y) : (intsOf ns)[j]? = some (.int y) := by unfold intsOf; rw [List.getElem?_map, h]; rfl
theorem intsOf_len {ns : List Int} : (intsOf ns).length = ns.length := by simp [intsOf]
theorem seq_nat {n j : Nat} (h : j < n) : seqIndex? (j : Int) n = some j := by
  unfold seqIndex?
  simp only [show ¬ ((j : Int) < 0) by omega, if_false]
  rw [if_pos (by simp; omega)]; simp
theorem bisect_spec {i : Nat} {ns : List Int} {x : Int} (ho : H[i]? = some (.list (intsOf ns))) (hs : ns.Pairwise (· ≤ ·)) (hz : ns.length < 1000) :
    XC B.W (d + 1) (.fn 74) [.loc i, .int x, .int 0, .none] [] H fun v H' => H' = H ∧ ∃ k : Nat, v = .int k ∧ IsCut ns x k := by
  have hlen := intsOf_len (ns := ns)
  refine XC.fn (bs := [("a", .loc i), ("x", .int x), ("lo", .int 0), ("hi", .none), ("key", .none)]) (vars0 := [some (.loc i), some (.int x), some (.int 0), some .none, some .none, none]) (cl0 := []) (H0 := H) ["a", "x", "lo", "hi", "key", "mid"] (by rfl) (by kernel_rfl) ?_ (by kernel_rfl) (by kernel_rfl) (by decide +kernel) (by kernel_rfl) rfl (List.append_nil _).symm ?_
  · intro ρ s As Ks hk hA hK
    cases hA with | cons h1 t => cases t with | cons h2 t => cases t with | cons h3 t => cases t with | cons h4 t =>
      cases t; cases hK
      refine ⟨[("a", _), ("x", _), ("lo", _), ("hi", _), ("key", .none)], ?_, .cons h1 (.cons h2 (.cons h3 (.cons h4 (.cons .none .nil))))⟩
      exact kp_binds (B.kin.keeps hk) (fun _ => rfl)
  · refine XB.cons (XS.ifs (XT.cmp (XE.lv 2 (XE.int ⟨_, _, .ltI, fun h => ?_, fun _ => ?_⟩))))
    · cases h
    refine XB.nil (XB.cons (XS.ifs (XT.cmp (XE.lv 3 (XE.none ⟨_, _, .isNone, fun _ => ?_, fun h => ?_⟩)))))
    rotate_left
    · cases h
    refine XB.cons (XS.assign 3 (XE.call (XE.bv "len" (XEs.cons (XE.lv 0 (XEs.nil ⟨.bi, _, _, CallV.lenL ho (by rw [hlen]; omega), ?_⟩))))))
    refine XB.nil (XB.cons (XS.ifs (XT.cmp (XE.lv 4 (XE.none ⟨_, _, .isNone, fun _ => ?_, fun h => ?_⟩)))))
    rotate_left
    · cases h
    refine XB.cons (XS.while (XW.inv (fun n vars H' => ∃ (lo hi : Nat) (m : Option AV), vars = [some (.loc i), some (.int x), some (.int lo), some (.int hi), some .none, m] ∧ H' = H ∧ n = hi - lo ∧ lo ≤ hi ∧ hi ≤ ns.length ∧
      (∀ (j : Nat) (y : Int), j < lo → ns[j]? = some y → y ≤ x) ∧ ∀ (j : Nat) (y : Int), hi ≤ j → ns[j]? = some y → x < y) ?_ (ns.length - 0) _ _ ⟨0, ns.length, none, by rw [hlen]; rfl, rfl, rfl, Nat.zero_le _, Nat.le_refl _, fun j y h => by omega, fun j y h e => ?_⟩))
    · rintro n vars H' ⟨lo, hi, m, rfl, rfl, rfl, h1, h2, h3, h4⟩
      refine XT.cmp (XE.lv 2 (XE.lv 3 ⟨_, _, .ltI, fun h => ?_, fun h => ?_⟩))
      · simp only [decide_eq_false_iff_not] at h
        exact XB.nil (XB.cons (XS.ret (XE.lv 2 ⟨rfl, lo, rfl, by omega, h3, fun j y hj => h4 j y (by omega)⟩)))
      · have h' : lo < hi := by simpa using h
        refine XB.cons (XS.assign 5 (XE.bin (XE.bin (XE.lv 2 (XE.lv 3 ⟨_, _, .addI, XE.int ⟨_, _, .divI rfl (by decide), ?_⟩⟩)))))
        have e : ((lo : Int) + hi).fdiv 2 = ((lo + hi) / 2 : Nat) := by rw [Int.fdiv_eq_ediv_of_nonneg _ (by decide)]; omega
        rw [e]
        have hm : (lo + hi) / 2 < ns.length := by omega
        have hg : ns[(lo + hi) / 2]? = some ns[(lo + hi) / 2] := List.getElem?_eq_getElem hm
        refine XB.cons (XS.ifs (XT.cmp (XE.lv 1 (XE.item (XE.lv 0 (XE.lv 5 ⟨.int ns[(lo + hi) / 2], _, .list ho (seq_nat (by rw [hlen]; exact hm)) (intsOf_get hg) (by rw [hlen]; omega), _, _, .ltI, fun h => ?_, fun h => ?_⟩))))))
        · have q : x < ns[(lo + hi) / 2] := by simpa using h
          exact XB.cons (XS.assign 3 (XE.lv 5 (XB.nil (XB.nil ⟨_, (by omega : (lo + hi) / 2 - lo < hi - lo), lo, (lo + hi) / 2, _, rfl, rfl, rfl, by omega, by omega, h3, fun j y hj hy => Int.lt_of_lt_of_le q (sorted_get hs hj hg hy)⟩))))
        · have q : ns[(lo + hi) / 2] ≤ x := by simpa using h
          refine XB.cons (XS.assign 2 (XE.bin (XE.lv 5 (XE.int ⟨_, _, .addI, XB.nil (XB.nil ⟨hi - ((lo + hi) / 2 + 1), by omega, (lo + hi) / 2 + 1, hi, _, rfl, rfl, rfl, by omega, by omega, fun j y hj hy => Int.le_trans (sorted_get hs (by omega) hy hg) q, h4⟩)⟩))))
    · rw [List.getElem?_eq_none h] at e; cases e
end Mine

/- part -/
namespace Mine
open PySem.Calls
variable {p : Params} {B : Bs (K02 p)} {d : Nat} {H H1 H2 : List AO}

/- x laid behind all that are not more -/
noncomputable def ins (x : Int) (ns : List Int) : List Int := ns.takeWhile (fun y => decide (y ≤ x)) ++ x :: ns.dropWhile (fun y => decide (y ≤ x))
theorem cut_ins {x : Int} : ∀ {ns : List Int} {k : Nat}, IsCut ns x k → ns.take k ++ x :: ns.drop k = ins x ns
  | [], k, h => by simp [ins]
  | y :: ns, 0, h => by
    have : x < y := h.2.2 0 y (Nat.le_refl _) rfl
    have q : decide (y ≤ x) = false := by simp; omega
    simp [ins, List.takeWhile_cons, List.dropWhile_cons, q]
  | y :: ns, k + 1, h => by
    have : y ≤ x := h.2.1 0 y (Nat.succ_pos _) rfl
    have q : decide (y ≤ x) = true := by simpa using this
    have ih := cut_ins (x := x) (ns := ns) (k := k) ⟨by have := h.1; simp at this; omega, fun j z hj e => h.2.1 (j + 1) z (by omega) (by simpa using e), fun j z hj e => h.2.2 (j + 1) z (by omega) (by simpa using e)⟩
    have e1 : ins x (y :: ns) = y :: ins x ns := by simp [ins, List.takeWhile_cons, List.dropWhile_cons, q]
    rw [e1, ← ih]; rfl
theorem ins_len (x : Int) (ns : List Int) : (ins x ns).length = ns.length + 1 := by
  unfold ins
  have := congrArg List.length (List.takeWhile_append_dropWhile (p := fun y => decide (y ≤ x)) (l := ns))
  rw [List.length_append] at this ⊢
  rw [List.length_cons]; omega
theorem ins_sorted {x : Int} : ∀ {ns : List Int}, ns.Pairwise (· ≤ ·) → (ins x ns).Pairwise (· ≤ ·)
  | [], _ => by simp [ins]
  | y :: ns, h => by
    rw [List.pairwise_cons] at h
    by_cases q : y ≤ x
    · have e1 : ins x (y :: ns) = y :: ins x ns := by simp [ins, List.takeWhile_cons, List.dropWhile_cons, q]
      rw [e1, List.pairwise_cons]
      refine ⟨fun z hz => ?_, ins_sorted h.2⟩
      unfold ins at hz
      rcases List.mem_append.mp hz with hz | hz
      · exact h.1 z (List.takeWhile_subset _ hz)
      · rcases List.mem_cons.mp hz with rfl | hz
        · exact q
        · exact h.1 z ((List.dropWhile_sublist _).subset hz)
    · have e1 : ins x (y :: ns) = x :: y :: ns := by simp [ins, List.takeWhile_cons, List.dropWhile_cons, q]
      rw [e1, List.pairwise_cons, List.pairwise_cons]
      refine ⟨fun z hz => ?_, h⟩
      rcases List.mem_cons.mp hz with rfl | hz
      · omega
      · have := h.1 z hz; omega
theorem intsOf_ins {x : Int} {ns : List Int} {k : Nat} (h : IsCut ns x k) : (intsOf ns).take k ++ AV.int x :: (intsOf ns).drop k = intsOf (ins x ns) := by
  rw [← cut_ins h]; simp [intsOf, List.map_take, List.map_drop]

theorem keep_fn {W : SW} {g : Nat} (hk : keepIn W.K (.ref g) = true := by kernel_rfl) : Keepr W (.fn g) H := .fn hk

theorem insort_spec {i : Nat} {ns : List Int} {x : Int} (ho : H[i]? = some (.list (intsOf ns))) (hs : ns.Pairwise (· ≤ ·)) (hz : ns.length < 1000) :
    XC B.W (d + 2) (.fn 65) [.loc i, .int x] [] H fun v H' => v = .none ∧ H' = H.set i (.list (intsOf (ins x ns))) := by
  have hlen := intsOf_len (ns := ns)
  refine XC.fn (bs := [("a", .loc i), ("x", .int x), ("lo", .int 0), ("hi", .none), ("key", .none)]) (vars0 := [some (.loc i), some (.int x), some (.int 0), some .none, some .none]) (cl0 := []) (H0 := H) ["a", "x", "lo", "hi", "key"] (by rfl) (by kernel_rfl) ?_ (by kernel_rfl) (by kernel_rfl) (by decide +kernel) (by kernel_rfl) rfl (List.append_nil _).symm ?_
  · intro ρ s As Ks hk hA hK
    cases hA with | cons h1 t => cases t with | cons h2 t =>
      cases t; cases hK
      exact ⟨_, kp_binds (B.kin.keeps hk) (fun _ => rfl), .cons h1 (.cons h2 (.cons (.int 0 _) (.cons .none (.cons .none .nil))))⟩
  · refine XB.cons (XS.ifs (XT.cmp (XE.lv 4 (XE.none ⟨_, _, .isNone, fun _ => ?_, fun h => ?_⟩))))
    rotate_left
    · cases h
    refine XB.cons (XS.assign 2 (XE.call (XE.gv 74 (XEs.cons (XE.lv 0 (XEs.cons (XE.lv 1 (XEs.cons (XE.lv 2 (XEs.cons (XE.lv 3 (XEs.nil ⟨keep_fn, XC.call ?_⟩)))))))))))) 
    obtain ⟨v, H', h1, rfl, k, rfl, hc⟩ := bisect_spec (B := B) (d := d) (x := x) ho hs hz
    refine ⟨_, _, h1, ?_⟩
    refine XB.nil (XB.cons (XS.expr (XE.meth (pl := _) (XE.lv 0 ⟨_, _, _, GetM.list ho PySem.F.slot_list_insert (by kernel_rfl), XEs.cons (XE.lv 2 (XEs.cons (XE.lv 1 (XEs.nil ⟨.bi, _, _, CallV.insert ho (by rw [hlen]; exact hc.1) (by rw [hlen, sizeLine_eq]; omega), XB.nil ⟨rfl, ?_⟩⟩))))⟩))))
    rw [intsOf_ins hc]
end Mine

/- part -/
namespace Mine
open PySem.Calls
variable {p : Params} {B : Bs (K02 p)} {d : Nat} {H H1 H2 : List AO}

/- the number told from octets, the first one taken in -/
noncomputable def vdec (b val : Nat) : List Nat → Option (Nat × Nat)
  | [] => if b.testBit 6 then none else some (val, 0)
  | c :: cs => if b.testBit 6 then (vdec c (val * 64 + c % 64) cs).map fun r => (r.1, r.2 + 1) else some (val, 0)
theorem and63 (b : Nat) : Builtin.bitAnd (b : Int) 63 = ((b % 64 : Nat) : Int) := by rw [bitAnd_m6]; omega
theorem and64 (b : Nat) : (Builtin.bitAnd (b : Int) 64 != 0) = b.testBit 6 := by
  rw [bitAnd_pp (by omega) (by decide)]
  have : ((64 : Int).toNat) = 2 ^ 6 := rfl
  rw [Int.toNat_natCast, this]
  cases h : b.testBit 6 with
  | false =>
    have e : b &&& 2 ^ 6 = 0 := by
      refine Nat.eq_of_testBit_eq fun i => ?_
      rw [Nat.testBit_and, Nat.testBit_two_pow, Nat.zero_testBit]
      by_cases q : 6 = i
      · subst q; rw [h]; rfl
      · simp [q]
    rw [e]; rfl
  | true =>
    have e : b &&& 2 ^ 6 ≠ 0 := fun q => by
      have := congrArg (·.testBit 6) q
      simp [Nat.testBit_and, h] at this
      exact absurd this (by decide)
    simpa using e
theorem or64 (v r : Nat) (h : r < 64) : Builtin.bitOr ((v : Int) * 2 ^ (6 : Int).toNat) (r : Int) = ((v * 64 + r : Nat) : Int) := by
  have e : ((v : Int) * 2 ^ (6 : Int).toNat) = ((v * 64 : Nat) : Int) := by
    show (v : Int) * 2 ^ 6 = _
    omega
  rw [e, bitOr_and, bitAnd_pp (by omega) (by omega), Int.toNat_natCast, Int.toNat_natCast]
  have h1 := nat_or_add_and (v * 64) r
  have h2 : v * 64 ||| r = v * 64 + r := by
    have := Nat.two_pow_add_eq_or_of_lt (i := 6) (b := r) (by simpa using h) v
    rw [show 2 ^ 6 * v = v * 64 by omega] at this
    exact this.symm
  have h3 : v * 64 &&& r = 0 := by omega
  rw [h3]; omega
theorem bits_le {v k : Nat} (h : v < 64 ^ k) : Builtin.Int.intBits (v : Int) ≤ 6 * k := by
  unfold Builtin.Int.intBits
  split
  · omega
  · rename_i q
    have q' : v ≠ 0 := by simpa using q
    have : v < 2 ^ (6 * k) := by rw [Nat.pow_mul]; exact h
    rw [Int.natAbs_natCast]
    have := (Nat.log2_lt q').mpr this
    omega
theorem ne_kind {i l : Nat} {o o' : AO} (h1 : H[i]? = some o) (h2 : H[l]? = some o') (h : o ≠ o') : i ≠ l := fun q => by subst q; rw [h1] at h2; cases h2; exact h rfl

noncomputable def natsOf (ns : List Nat) : List AV := ns.map fun (n : Nat) => AV.int (n : Int)
theorem natsOf_get {ns : List Nat} {k b : Nat} {cs : List Nat} (h : ns.drop k = b :: cs) : (natsOf ns)[k]? = some (.int b) := by
  have : ns[k]? = some b := by
    have := congrArg (·[0]?) h
    simpa using this
  unfold natsOf; rw [List.getElem?_map, this]; rfl
theorem varint_spec {i l k v n b : Nat} {ns cs : List Nat} (ho : H[i]? = some (.liter l k)) (hl : H[l]? = some (.list (natsOf ns))) (hd : ns.drop k = b :: cs) (hv : vdec b (b % 64) cs = some (v, n)) (hz : ns.length ≤ 1000) :
    XC B.W (d + 1) (.fn 81) [.loc i] [] H fun r H' => r = .int v ∧ H' = H.set i (.liter l (k + 1 + n)) := by
  have hil : i ≠ l := ne_kind ho hl (by intro h; cases h)
  refine XC.fn (bs := [("iterator", .loc i)]) (vars0 := [some (.loc i), none, none]) (cl0 := []) (H0 := H) ["iterator", "b", "val"] (by rfl) (by kernel_rfl) ?_ (by kernel_rfl) (by kernel_rfl) (by decide +kernel) (by kernel_rfl) rfl (List.append_nil _).symm ?_
  · exact bind1 B.kin (fun _ _ => rfl)
  · refine XB.cons (XS.assign 1 (XE.call (XE.bv "next" (XEs.cons (XE.lv 0 (XEs.nil ⟨.bi, _, _, CallV.nextL ho hl (natsOf_get hd), ?_⟩))))))
    refine XB.cons (XS.assign 2 (XE.bin (XE.lv 1 (XE.int ⟨_, _, .andI, ?_⟩))))
    rw [and63]
    refine XB.cons (XS.while (XW.inv (fun m vars H' => ∃ (b val k' : Nat) (cs : List Nat) (n' : Nat), vars = [some (.loc i), some (.int b), some (.int val)] ∧ H' = H.set i (.liter l k') ∧ ns.drop k' = cs ∧ vdec b val cs = some (v, n') ∧ k' + n' = k + 1 + n ∧ m = cs.length ∧ val < 64 ^ k' ∧ k' ≤ ns.length) ?_ cs.length _ _
      ⟨b, b % 64, k + 1, cs, n, rfl, rfl, by rw [← List.drop_drop, hd]; rfl, hv, rfl, rfl, ?_, ?_⟩))
    · rintro m vars H' ⟨b, val, k', cs, n', rfl, rfl, h1, h2, h3, rfl, h4, h5⟩
      refine XT.val (XE.bin (XE.lv 1 (XE.int ⟨_, _, .andI, _, .int, fun h => ?_, fun h => ?_⟩)))
      · rw [and64] at h
        have : v = val ∧ n' = 0 := by
          cases cs with
          | nil => simp only [vdec, h] at h2; cases h2; exact ⟨rfl, rfl⟩
          | cons c cs => simp only [vdec, h] at h2; cases h2; exact ⟨rfl, rfl⟩
        obtain ⟨rfl, rfl⟩ := this
        refine XB.cons (XS.ret (XE.lv 2 ⟨rfl, ?_⟩))
        rw [← h3]; rfl
      · rw [and64] at h
        cases cs with
        | nil => simp [vdec, h] at h2
        | cons c cs =>
          simp only [vdec, h, if_true, Option.map_eq_some_iff] at h2
          obtain ⟨⟨r1, r2⟩, h2, h6⟩ := h2
          simp only [Prod.mk.injEq] at h6
          obtain ⟨rfl, rfl⟩ := h6
          have hk : k' < ns.length := by
            have := congrArg List.length h1
            simp at this; omega
          have hb := bits_le h4
          refine XB.cons (XS.aug 2 (XE.int ⟨_, _, .ishlI (x := (val : Int)) (y := 6) (by decide) (by omega), ?_⟩))
          refine XB.cons (XS.assign 1 (XE.call (XE.bv "next" (XEs.cons (XE.lv 0 (XEs.nil ⟨.bi, _, _, CallV.nextL (gn ho) (gs hil hl) (natsOf_get h1), ?_⟩))))))
          refine XB.cons (XS.aug 2 (XE.bin (XE.lv 1 (XE.int ⟨_, _, .andI, _, _, .iorI, XB.nil ?_⟩))))
          rw [and63, or64 _ _ (Nat.mod_lt _ (by decide))]
          refine ⟨cs.length, by simp, c, val * 64 + c % 64, k' + 1, cs, r2, rfl, by rw [List.set_set], by rw [← List.drop_drop, h1]; rfl, h2, by omega, rfl, ?_, by omega⟩
          have := Nat.mod_lt c (show 64 > 0 by decide)
          rw [Nat.pow_succ]; omega
    · have := Nat.mod_lt b (show 64 > 0 by decide)
      rw [Nat.pow_succ]
      have : 64 ^ k ≥ 1 := Nat.one_le_pow _ _ (by decide)
      omega
    · have := congrArg List.length hd
      simp at this; omega
end Mine

/- part -/
namespace Mine
open PySem.Calls
variable {p : Params} {B : Bs (K02 p)} {d : Nat} {H H1 H2 : List AO}

theorem told_spec {x : List Nat} {v n b : Nat} {cs : List Nat} (hx : x = b :: cs) (hv : vdec b (b % 64) cs = some (v, n)) (hz : x.length ≤ 1000) :
    XC B.W (d + 2) (.fn 105) [.str x] [] H fun r H' => r = .int v ∧ Ext [] H H' := by
  refine XC.fn (bs := [("word", .str x)]) (vars0 := [some (.str x)]) (cl0 := []) (H0 := H) ["word"] (by rfl) (by kernel_rfl) ?_ (by kernel_rfl) (by kernel_rfl) (by decide +kernel) (by kernel_rfl) rfl (List.append_nil _).symm ?_
  · exact bind1 B.kin (fun _ _ => rfl)
  · refine XB.cons (XS.ret (XE.call (XE.gv 81 (XEs.cons (XE.call (XE.bv "iter" (XEs.cons (XE.comp ["sign"] [] (XE.lv 0 ⟨_, .str, rfl, ?_⟩) (fun j y h => by cases j <;> cases h)))))))))
    refine XL.pure 0 (vs := x.map fun c => AV.str [c]) (fun _ => true) (fun a => match a with | .str [c] => .int c | a => a) (fun vars => vars.length = 1)
      (fun v hv vars hI => ⟨by simpa using hI, XTs.nil ⟨rfl, rfl⟩⟩)
      (fun v hv _ vars hI => ?_)
      (by rw [List.length_map, sizeLine_eq]; omega) rfl rfl ?_
    · obtain ⟨c, _, rfl⟩ := List.mem_map.mp hv
      obtain ⟨m, rfl⟩ : ∃ m, vars = [m] := by cases vars with | nil => cases hI | cons m t => cases t with | nil => exact ⟨m, rfl⟩ | cons => cases hI
      exact XE.call (XE.bv "ord" (XEs.cons (XE.lv 0 (XEs.nil ⟨.bi, _, _, .ord, rfl, rfl⟩))))
    have e : (((x.map fun c => AV.str [c]).filter fun _ => true).map fun a => match a with | .str [c] => AV.int c | a => a) = natsOf x := by
      rw [List.filter_eq_self.mpr (fun _ _ => rfl), List.map_map]; rfl
    rw [e]
    refine XEs.nil ⟨.bi, _, _, CallV.iterL gl, XEs.nil ⟨keep_fn, XC.call ?_⟩⟩
    obtain ⟨r, H', h1, rfl, rfl⟩ := varint_spec (B := B) (d := d) (i := H.length + 1) (l := H.length) (H := H ++ [.list (natsOf x)] ++ [.liter H.length 0]) (by simp) (by simp) (k := 0) (by simpa using hx) hv hz
    have e2 : (H ++ [AO.list (natsOf x)]).length = H.length + 1 := by simp
    rw [e2]
    exact ⟨_, _, h1, rfl, (Ext.refl.app.app).set (.inr (Nat.le_succ _))⟩
end Mine

/- part -/
namespace Mine
open PySem.Calls
variable {p : Params} {B : Bs (K02 p)} {d : Nat} {H H1 H2 : List AO}

noncomputable def wsp : List Nat := [10, 9, 13, 32]
theorem init_spec {i j : Nat} {fp : AV} (I : InstIs H i 52 j []) :
    XC B.W (d + 1) (.fn 28) [.loc i, fp] [] H fun v H' => v = .none ∧ H'.length = H.length + 1 ∧ Ext [j] H H' ∧ H'[H.length]? = some (.list []) ∧ H'[j]? = some (.idict [("lineno", .int 1), ("instream", fp), ("whitespace", .str wsp), ("pushback", .loc H.length)]) := by
  have hij : j ≠ i := ne_kind I.dict I.inst (by intro h; cases h)
  refine XC.fn (bs := [("self", .loc i), ("fp", fp)]) (vars0 := [some (.loc i), some fp]) (cl0 := []) (H0 := H) ["self", "fp"] (by rfl) (by kernel_rfl) ?_ (by kernel_rfl) (by kernel_rfl) (by decide +kernel) (by kernel_rfl) rfl (List.append_nil _).symm ?_
  · exact bind2 B.kin (fun _ _ _ => rfl)
  · refine XB.cons (XS.assignA 52 (XE.int (XE.lv 0 ⟨_, j, _, rfl, I, by decide, ?_⟩)))
    refine XB.cons (XS.assignA 52 (XE.lv 1 (XE.lv 0 ⟨_, j, _, rfl, ⟨gs hij I.inst, gn I.dict⟩, Nat.le_of_ble_eq_true (by kernel_rfl), ?_⟩)))
    refine XB.cons (XS.assignA 52 (XE.str wsp (XE.lv 0 ⟨_, j, _, rfl, ⟨gs hij (gs hij I.inst), gn (gn I.dict)⟩, Nat.le_of_ble_eq_true (by kernel_rfl), ?_⟩)))
    refine XB.cons (XS.assignA 52 (XE.list (XEs.nil ⟨by decide, XE.lv 0 ⟨_, j, _, rfl, ⟨ga (gs hij (gs hij (gs hij I.inst))), ga (gn (gn (gn I.dict)))⟩, Nat.le_of_ble_eq_true (by kernel_rfl), ?_⟩⟩)))
    refine XB.nil ⟨rfl, by simp, ?_, ?_, ?_⟩
    · exact (((Ext.refl.set (.inl (by simp))).set (.inl (by simp))).set (.inl (by simp))).app.set (.inl (by simp))
    · have : j < H.length := (List.getElem?_eq_some_iff.mp I.dict).1
      refine gs (by omega) ?_
      simp
    · rw [gn (ga (gn (gn (gn I.dict))))]
      simp only [List.length_set]
      exact congrArg (fun x => some (AO.idict x)) (by kernel_rfl)
end Mine

/- part -/
namespace Mine
open PySem.Calls
variable {p : Params} {B : Bs (K02 p)} {d : Nat} {H H1 H2 : List AO}

noncomputable def lamOf (K : Frag) (f : Nat) : Option (Arguments × PySem.Expr × Scope × Pos) := match K.lookup f with
  | some ⟨_, _, .func fd, _⟩ => (match fd.body with
    | .stmts [_, _, .Assign [_] (.Lambda a b s q) _, _] => some (a, b, s, q)
    | _ => none)
  | _ => none
noncomputable def lamQ : Str := Str.ofString "_law_lexer" ++ Str.ofString ".<locals>." ++ Str.ofString "<lambda>"

structure LX where
  lx : Nat
  dl : Nat
  st : Nat
  ds : Nat
  pb : Nat
  sg : Nat
  c : Nat
  f : Nat
  cd : Nat
noncomputable def LX.all (L : LX) : List Nat := [L.lx, L.dl, L.st, L.ds, L.pb, L.sg, L.c, L.f, L.cd]
noncomputable abbrev charsOf (x : List Nat) : List AV := x.map fun c => AV.str [c]
structure Lex (K : Frag) (L : LX) (H : List AO) (line : Int) (pend : List (List Nat)) (rest : List Nat) : Prop where
  lx : H[L.lx]? = some (.inst 52 L.dl)
  dl : H[L.dl]? = some (.idict [("lineno", .int line), ("instream", .loc L.st), ("whitespace", .str wsp), ("pushback", .loc L.pb)])
  st : H[L.st]? = some (.inst 52 L.ds)
  ds : ∃ es, H[L.ds]? = some (.idict es) ∧ es.lookup ("read" : Str) = some (AV.loc L.f)
  f : ∃ a b s q, lamOf K 95 = some (a, b, s, q) ∧ H[L.f]? = some (.clo lamQ a b s [("signs", L.c)] L.cd)
  cd : H[L.cd]? = some (.code lamQ)
  c : H[L.c]? = some (.cell (some (.loc L.sg)))
  sg : H[L.sg]? = some (.list (charsOf rest))
  pb : H[L.pb]? = some (.list (strsOf pend))
  n1 : L.dl ≠ L.ds
  n2 : L.sg ≠ L.pb
theorem Lex.ext {K : Frag} {L : LX} {S : List Nat} {line : Int} {pend : List (List Nat)} {rest : List Nat} (x : Lex K L H line pend rest) (e : Ext S H H1) (hS : ∀ i ∈ L.all, i ∉ S) : Lex K L H1 line pend rest := by
  have k : ∀ (i : Nat) (o : AO), i ∈ L.all → H[i]? = some o → H1[i]? = some o := fun i o h q => e.2 i o (hS i h) q
  refine ⟨k _ _ (by simp [LX.all]) x.lx, k _ _ (by simp [LX.all]) x.dl, k _ _ (by simp [LX.all]) x.st, ?_, ?_, k _ _ (by simp [LX.all]) x.cd, k _ _ (by simp [LX.all]) x.c, k _ _ (by simp [LX.all]) x.sg, k _ _ (by simp [LX.all]) x.pb, x.n1, x.n2⟩
  · obtain ⟨es, h1, h2⟩ := x.ds; exact ⟨es, k _ _ (by simp [LX.all]) h1, h2⟩
  · obtain ⟨a, b, s, q, h1, h2⟩ := x.f; exact ⟨a, b, s, q, h1, k _ _ (by simp [LX.all]) h2⟩

noncomputable def TabOk (K : Frag) (t : Nat) (H : List AO) : Prop := ∃ es, H[t]? = some (.tab 90 es) ∧ ∀ a b s q j, lamOf K 95 = some (a, b, s, q) → tabFind es q.line q.col = some j → H[j]? = some (.code lamQ)

theorem lexer_spec {t : Nat} {x : List Nat} (C : CodeHd B.h₀ 94 90) (hT : TabOk (K02 p) t H) (hz : x.length ≤ sizeLine) :
    XC B.W (d + 3) (.fn 95) [.str x] [] H fun v H' => ∃ L : LX, v = .loc L.lx ∧ Lex (K02 p) L H' 1 [] x ∧ TabOk (K02 p) t H' ∧ Ext [t] H H' ∧ ∀ i ∈ L.all, H.length ≤ i ∨ i = L.cd := by
  refine XC.fn (bs := [("text", .str x)]) (vars0 := [some (.str x), none]) (cl0 := [H.length]) (H0 := H ++ [.cell none]) ["text", "stream"] (by rfl) (by kernel_rfl) ?_ (by kernel_rfl) (by kernel_rfl) (by decide +kernel) (by kernel_rfl) rfl rfl ?_
  · exact bind1 B.kin (fun _ _ => rfl)
  · refine XB.cons (XS.assignC 0 (c := H.length) (XE.call (XE.ty "list" (XEs.cons (XE.lv 0 (XEs.nil ⟨.ty, _, _, CallV.listS hz, ⟨_, ga gl⟩, ?_⟩)))))) 
    have e0 : (H ++ [AO.cell none]).length = H.length + 1 := by simp
    rw [e0]
    generalize hG : (H ++ [AO.cell none] ++ [AO.list (charsOf x)]).set H.length (.cell (some (.loc (H.length + 1)))) = G
    have g0 : Ext [] H G := by rw [← hG]; exact (Ext.refl.app.app).set (.inr (Nat.le_refl _))
    have gc : G[H.length]? = some (.cell (some (.loc (H.length + 1)))) := by rw [← hG]; exact gn (ga gl)
    have gsg : G[H.length + 1]? = some (.list (charsOf x)) := by rw [← hG]; exact gs (by omega) (by rw [← e0]; exact gl)
    have gl0 : G.length = H.length + 2 := by rw [← hG]; simp
    clear hG
    obtain ⟨es, hT1, hT2⟩ := hT
    have gt : G[t]? = some (.tab 90 es) := g0.2 _ _ (by simp) hT1
    have htl : t < H.length := (List.getElem?_eq_some_iff.mp hT1).1
    -- the stream
    refine XB.cons (XS.assign 1 (XE.call (XE.gv 52 (XEs.cons (XE.none (XEs.nil ⟨keep_fn, XC.call (XC.make (fI := 28) ?_)⟩))))))
    obtain ⟨v, H1, h1, rfl, l1, e1, pb1, d1⟩ := init_spec (B := B) (d := d) (H := G ++ [.idict []] ++ [.inst 52 G.length]) (i := G.length + 1) (j := G.length) (fp := .none) ⟨by simp, by simp⟩
    refine ⟨_, _, h1, rfl, ?_⟩
    have E1 : Ext [] G H1 := ((Ext.refl (S := [G.length]) (H := G)).app.app.trans e1).wide (by simp)
    have E01 : Ext [] H H1 := g0.trans E1
    simp only [List.length_append, List.length_singleton] at l1 pb1 d1
    have len1 : H1.length = G.length + 3 := by omega
    have i1 : InstIs H1 (G.length + 1) 52 G.length _ := ⟨e1.2 _ _ (by simp) (by simp), d1⟩
    have t1 : H1[t]? = some (.tab 90 es) := E1.2 _ _ (by simp) gt
    -- the lambda
    refine XB.cons (XS.assignA 52 (XE.lamTab 94 90 t es [("signs", H.length)] C t1 (fun j hj => E01.2 _ _ (by simp) (hT2 _ _ _ _ j rfl hj)) (fun g cd es' G2 E2 hg fg fcd ft fall _ => ?_) (hcl := by intro q hq; rw [List.mem_singleton] at hq; subst hq; exact ⟨0, rfl, rfl⟩)))
    have n1 : t ≠ G.length := by omega
    refine XE.lv 1 ⟨G.length + 1, G.length, _, rfl, ⟨E2.2 _ _ (by simp; omega) i1.inst, E2.2 _ _ (by simp; omega) i1.dict⟩, Nat.le_of_ble_eq_true (by kernel_rfl), ?_⟩
    generalize hK : G2.set G.length _ = K1
    have E3 : Ext [t, G.length] H1 K1 := by rw [← hK]; exact (E2.wide (by simp)).set (.inl (by simp))
    have kds : ∃ es, K1[G.length]? = some (.idict es) ∧ es.lookup ("read" : Str) = some (AV.loc g) := by
      rw [← hK]; exact ⟨_, gn (E2.2 _ _ (by simp; omega) i1.dict), by kernel_rfl⟩
    have hd2 : G2[G.length]? = some (.idict _) := E2.2 _ _ (by simp; omega) i1.dict
    have st : ∀ (i : Nat) (o : AO), i ≠ G.length → G2[i]? = some o → K1[i]? = some o := fun i o hi e => by rw [← hK]; exact gs (fun q => hi q.symm) e
    have kg := st g _ (by omega) fg
    have kcd := st cd _ (ne_kind fcd hd2 (by intro h; cases h)) fcd
    have kt := st t _ n1 ft
    have kall := fun j hj => st j _ (ne_kind (fall j hj) hd2 (by intro h; cases h)) (fall j hj)
    have klen : H1.length ≤ K1.length := E3.1
    clear hK
    -- the lexer
    refine XB.cons (XS.ret (XE.call (XE.gv 52 (XEs.cons (XE.lv 1 (XEs.nil ⟨keep_fn, XC.call (XC.make (fI := 28) ?_)⟩))))))
    obtain ⟨v, H3, h3, rfl, l3, e3, pb3, d3⟩ := init_spec (B := B) (d := d) (H := K1 ++ [.idict []] ++ [.inst 52 K1.length]) (i := K1.length + 1) (j := K1.length) (fp := .loc (G.length + 1)) ⟨by simp, by simp⟩
    refine ⟨_, _, h3, rfl, ?_⟩
    simp only [List.length_append, List.length_singleton] at l3 pb3 d3
    have E4 : Ext [] K1 H3 := ((Ext.refl (S := [K1.length]) (H := K1)).app.app.trans e3).wide (by simp)
    refine ⟨⟨K1.length + 1, K1.length, G.length + 1, G.length, K1.length + 2, H.length + 1, H.length, g, cd⟩, rfl, ?_, ?_, ?_, ?_⟩
    · refine ⟨e3.2 _ _ (by simp) (by simp), d3, E4.2 _ _ (by simp) (E3.2 _ _ (by simp; omega) i1.inst), ?_, ?_, E4.2 _ _ (by simp) kcd, ?_, ?_, pb3, ?_, ?_⟩
      · obtain ⟨es, h1, h2⟩ := kds; exact ⟨es, E4.2 _ _ (by simp) h1, h2⟩
      · exact ⟨_, _, _, _, rfl, E4.2 _ _ (by simp) kg⟩
      · exact E4.2 _ _ (by simp) (E3.2 _ _ (by simp; omega) (E1.2 _ _ (by simp) gc))
      · exact E4.2 _ _ (by simp) (E3.2 _ _ (by simp; omega) (E1.2 _ _ (by simp) gsg))
      · show K1.length ≠ G.length; omega
      · show H.length + 1 ≠ K1.length + 2; omega
    · exact ⟨es', E4.2 _ _ (by simp) kt, fun a b s q j ha hj => E4.2 _ _ (by simp) (by cases ha; exact kall j hj)⟩
    · exact (((E01.wide (by simp)).trans (E3.wide (by simp))).trans (E4.wide (by simp))).wide (T := [t]) (S := [t, G.length]) (by simp; omega)
    · intro i hi
      simp only [LX.all, List.mem_cons, List.not_mem_nil, or_false] at hi
      rcases hi with rfl | rfl | rfl | rfl | rfl | rfl | rfl | rfl | rfl
      all_goals first | exact .inr rfl | (left; omega)
end Mine

/- part -/
namespace Mine
open PySem.Calls
variable {p : Params} {B : Bs (K02 p)} {d : Nat} {H H1 H2 : List AO} {L : LX} {line : Int} {pend : List (List Nat)} {rest : List Nat}

theorem read_spec {n : Int} (x : Lex (K02 p) L H line pend rest) (hz : rest.length ≤ 100000) :
    XC B.W (d + 1) (.loc L.f) [.int n] [] H fun v H' => match rest with | [] => v = .str [] ∧ H' = H | c :: r => v = .str [c] ∧ H' = H.set L.sg (.list (charsOf r)) := by
  obtain ⟨a, b, s, q, h1, h2⟩ := x.f
  cases h1
  refine XC.clo (bs := [("count", .int n)]) (vars0 := [some (.int n)]) ["count"] h2 x.cd ?_ (by kernel_rfl) (by decide +kernel) (by simp) (by kernel_rfl) ?_
  · intro ρ As rcl pm C ctv hA
    cases hA with | cons h1 t =>
      cases t
      exact ⟨_, rfl, .cons h1 .nil⟩
  · cases rest with
    | nil => exact ⟨_, _, fun cv => .ifF (.val (.free 0 rfl rfl rfl x.c) (TrV.list x.sg (by decide))) (.cstr (l := []) (by kernel_rfl)), rfl, rfl⟩
    | cons c r =>
      refine ⟨_, _, fun cv => .ifT (.val (.free 0 rfl rfl rfl x.c) (TrV.list (xs := charsOf (c :: r)) x.sg ?_)) (.meth (pl := _) (.free 0 rfl rfl rfl x.c) (GetM.list x.sg PySem.F.slot_list_pop (by kernel_rfl)) (.cons .cint .nil) .bi (CallV.pop0 (a := .str [c]) (xs := charsOf r) x.sg ?_)), rfl, rfl⟩
      · rw [List.length_map]; omega
      · rw [List.length_map, sizeLine_eq]; simp at hz; omega

theorem Lex.setSg {K : Frag} {r : List Nat} (x : Lex K L H line pend rest) : Lex K L (H.set L.sg (.list (charsOf r))) line pend r := by
  have k : ∀ (i : Nat) (o : AO), H[i]? = some o → o ≠ .list (charsOf rest) → (H.set L.sg (.list (charsOf r)))[i]? = some o := fun i o h1 h2 => gs (fun q => h2 (by subst q; rw [x.sg] at h1; exact (Option.some.inj h1).symm)) h1
  obtain ⟨es, e1, e2⟩ := x.ds
  obtain ⟨a, b, s, q, f1, f2⟩ := x.f
  exact ⟨k _ _ x.lx (by intro h; cases h), k _ _ x.dl (by intro h; cases h), k _ _ x.st (by intro h; cases h), ⟨es, k _ _ e1 (by intro h; cases h), e2⟩, ⟨a, b, s, q, f1, k _ _ f2 (by intro h; cases h)⟩, k _ _ x.cd (by intro h; cases h), k _ _ x.c (by intro h; cases h), gn x.sg, gs x.n2 x.pb, x.n1, x.n2⟩
theorem Lex.setPb {K : Frag} {pend' : List (List Nat)} (x : Lex K L H line pend rest) : Lex K L (H.set L.pb (.list (strsOf pend'))) line pend' rest := by
  have k : ∀ (i : Nat) (o : AO), H[i]? = some o → o ≠ .list (strsOf pend) → (H.set L.pb (.list (strsOf pend')))[i]? = some o := fun i o h1 h2 => gs (fun q => h2 (by subst q; rw [x.pb] at h1; exact (Option.some.inj h1).symm)) h1
  obtain ⟨es, e1, e2⟩ := x.ds
  obtain ⟨a, b, s, q, f1, f2⟩ := x.f
  exact ⟨k _ _ x.lx (by intro h; cases h), k _ _ x.dl (by intro h; cases h), k _ _ x.st (by intro h; cases h), ⟨es, k _ _ e1 (by intro h; cases h), e2⟩, ⟨a, b, s, q, f1, k _ _ f2 (by intro h; cases h)⟩, k _ _ x.cd (by intro h; cases h), k _ _ x.c (by intro h; cases h), gs (fun q => x.n2 q.symm) x.sg, gn x.pb, x.n1, x.n2⟩
theorem Lex.setDl {K : Frag} {line' : Int} (x : Lex K L H line pend rest) : Lex K L (H.set L.dl (.idict [("lineno", .int line'), ("instream", .loc L.st), ("whitespace", .str wsp), ("pushback", .loc L.pb)])) line' pend rest := by
  have k : ∀ (i : Nat) (o : AO), H[i]? = some o → (∀ es, o ≠ .idict es) → (H.set L.dl (.idict [("lineno", .int line'), ("instream", .loc L.st), ("whitespace", .str wsp), ("pushback", .loc L.pb)]))[i]? = some o := fun i o h1 h2 => gs (fun q => h2 _ (by subst q; rw [x.dl] at h1; exact (Option.some.inj h1).symm)) h1
  obtain ⟨es, e1, e2⟩ := x.ds
  obtain ⟨a, b, s, q, f1, f2⟩ := x.f
  exact ⟨k _ _ x.lx (by intro _ h; cases h), gn x.dl, k _ _ x.st (by intro _ h; cases h), ⟨es, gs x.n1 e1, e2⟩, ⟨a, b, s, q, f1, k _ _ f2 (by intro _ h; cases h)⟩, k _ _ x.cd (by intro _ h; cases h), k _ _ x.c (by intro _ h; cases h), k _ _ x.sg (by intro _ h; cases h), k _ _ x.pb (by intro _ h; cases h), x.n1, x.n2⟩
noncomputable def LX.own (L : LX) : List Nat := [L.dl, L.sg, L.pb]
noncomputable def nlc (c : Nat) : Int := if c = 10 then 1 else 0

theorem read_char_spec (x : Lex (K02 p) L H line pend rest) (hz : rest.length ≤ 100000) :
    XC B.W (d + 2) (.fn 35) [.loc L.lx] [] H fun v H' => Ext L.own H H' ∧ match rest with | [] => v = .str [] ∧ Lex (K02 p) L H' line pend [] | c :: r => v = .str [c] ∧ Lex (K02 p) L H' (line + nlc c) pend r := by
  refine XC.fn (bs := [("self", .loc L.lx)]) (vars0 := [some (.loc L.lx), none]) (cl0 := []) (H0 := H) ["self", "ch"] (by rfl) (by kernel_rfl) ?_ (by kernel_rfl) (by kernel_rfl) (by decide +kernel) (by kernel_rfl) rfl (List.append_nil _).symm ?_
  · exact bind1 B.kin (fun _ _ => rfl)
  · obtain ⟨es, e1, e2⟩ := x.ds
    obtain ⟨a, b, s, q, f1, f2⟩ := x.f
    refine XB.cons (XS.assign 1 (XE.meth (pl := _) (XE.attr (XE.lv 0 ⟨_, _, GetA.own ⟨x.lx, x.dl⟩ (v := .loc L.st) (by kernel_rfl) (by kernel_rfl) (by kernel_rfl) (attr := none) (by kernel_rfl) rfl, ?_⟩))))
    refine ⟨.loc L.f, [], H, GetM.own ⟨x.st, e1⟩ e2 (by kernel_rfl) (by kernel_rfl) (by kernel_rfl), XEs.cons (XE.int (XEs.nil ⟨.clo f2, XC.call ?_⟩))⟩
    obtain ⟨v, H', h1, hD⟩ := read_spec (B := B) (d := d) (n := 1) x hz
    refine ⟨v, H', h1, ?_⟩
    cases rest with
    | nil =>
      obtain ⟨rfl, rfl⟩ := hD
      refine XB.cons (XS.ifs (XT.cmp (XE.lv 1 (XE.str [10] ⟨_, _, .eqS, fun h => ?_, fun _ => ?_⟩))))
      · cases h
      · exact XB.nil (XB.cons (XS.ret (XE.lv 1 ⟨.refl, rfl, x⟩)))
    | cons c r =>
      obtain ⟨rfl, rfl⟩ := hD
      have x1 := x.setSg (r := r)
      have E1 : Ext L.own H (H.set L.sg (.list (charsOf r))) := Ext.refl.set (.inl (by simp [LX.own]))
      refine XB.cons (XS.ifs (XT.cmp (XE.lv 1 (XE.str [10] ⟨_, _, .eqS, fun h => ?_, fun h => ?_⟩))))
      · have hc : c = 10 := by simpa using h
        subst hc
        refine XB.cons (XS.augA 52 (XE.lv 0 ⟨_, rfl, _, _, GetA.own ⟨x1.lx, x1.dl⟩ (v := .int line) (by kernel_rfl) (by kernel_rfl) (by kernel_rfl) (attr := none) (by kernel_rfl) rfl, XE.int ⟨_, _, L.dl, _, .iaddI, ⟨x1.lx, x1.dl⟩, Nat.le_of_ble_eq_true (by kernel_rfl), ?_⟩⟩))
        refine XB.nil (XB.cons (XS.ret (XE.lv 1 ⟨E1.set (.inl (by simp [LX.own])), rfl, ?_⟩)))
        exact x1.setDl (line' := line + 1)
      · have hc : c ≠ 10 := by simpa using h
        refine XB.nil (XB.cons (XS.ret (XE.lv 1 ⟨E1, rfl, ?_⟩)))
        rw [show line + nlc c = line by simp [nlc, hc]]
        exact x1
end Mine

/- part -/
namespace Mine
open PySem.Calls
variable {p : Params} {B : Bs (K02 p)} {d : Nat} {H H1 H2 : List AO} {L : LX} {line : Int} {pend : List (List Nat)} {rest : List Nat}

theorem push_spec {w : List Nat} (x : Lex (K02 p) L H line pend rest) (hz : pend.length ≤ 100000) :
    XC B.W (d + 1) (.fn 49) [.loc L.lx, .str w] [] H fun v H' => v = .none ∧ Ext L.own H H' ∧ Lex (K02 p) L H' line (pend ++ [w]) rest := by
  refine XC.fn (bs := [("self", .loc L.lx), ("token", .str w)]) (vars0 := [some (.loc L.lx), some (.str w)]) (cl0 := []) (H0 := H) ["self", "token"] (by rfl) (by kernel_rfl) ?_ (by kernel_rfl) (by kernel_rfl) (by decide +kernel) (by kernel_rfl) rfl (List.append_nil _).symm ?_
  · exact bind2 B.kin (fun _ _ _ => rfl)
  · refine XB.cons (XS.expr (XE.meth (pl := _) (XE.attr (XE.lv 0 ⟨_, _, GetA.own ⟨x.lx, x.dl⟩ (v := .loc L.pb) (by kernel_rfl) (by kernel_rfl) (by kernel_rfl) (attr := none) (by kernel_rfl) rfl,
      _, _, _, GetM.list x.pb PySem.F.slot_list_append (by kernel_rfl), XEs.cons (XE.lv 1 (XEs.nil ⟨.bi, _, _, CallV.append x.pb (by rw [List.length_map, sizeLine_eq]; omega), ?_⟩))⟩))))
    refine XB.nil ⟨rfl, Ext.refl.set (.inl (by simp [LX.own])), ?_⟩
    have := x.setPb (pend' := pend ++ [w])
    simpa using this

noncomputable def inWs (c : Nat) : Bool := wsp.contains c
theorem occ_ws (c : Nat) : occ wsp [c] = inWs c := by
  have := StrLaws.found_one (sp wsp) c
  unfold occ
  rw [show (⟨[c].toArray⟩ : Str) = ⟨#[c]⟩ from rfl, this]
  unfold inWs
  simp
noncomputable def qT : Bool → List Nat → List Nat → Option (List Nat × List Nat)
  | _, _, [] => none
  | true, acc, c :: r => qT false (acc ++ [c]) r
  | false, acc, c :: r => if c = 34 then some (acc, r) else if c = 92 then qT true acc r else qT false (acc ++ [c]) r
noncomputable def bT : Bool → List Nat → List Nat → Option (List Nat × List Nat)
  | _, _, [] => none
  | true, acc, c :: r => bT false (acc ++ [c]) r
  | false, acc, c :: r => if inWs c then some (acc, r) else if c = 92 then bT true acc r else bT false (acc ++ [c]) r
noncomputable def tok : List Nat → Option (List Nat × List Nat)
  | [] => some ([], [])
  | c :: r => if inWs c then tok r else if c = 34 then qT false [] r else if c = 92 then bT true [] r else bT false [c] r
noncomputable def nls (l : List Nat) : Int := (l.map nlc).sum
theorem nls_cons (c : Nat) (l : List Nat) : nls (c :: l) = nlc c + nls l := by simp [nls]

structure St (K : Frag) (L : LX) (H0 : List AO) (k m : Nat) (tot : Int) (G : List AO) (rest : List Nat) : Prop where
  lex : ∃ line, Lex K L G line [] rest ∧ line + nls rest = tot
  ext : Ext L.own H0 G
  ci : G[k]? = some (.citer m [])
  me : G[m]? = some (.meth 35 L.lx)
  out : H0.length ≤ k
  small : rest.length ≤ 100000
variable {k m : Nat} {tot : Int} {G : List AO}
theorem St.read {c : Nat} (x : St (K02 p) L H k m tot G (c :: rest)) : XC B.W (d + 2) (.fn 35) [.loc L.lx] [] G fun v G' => v = .str [c] ∧ St (K02 p) L H k m tot G' rest := by
  obtain ⟨line, y, hl⟩ := x.lex
  obtain ⟨v, G', h1, h2, rfl, h4⟩ := read_char_spec (B := B) (d := d) y x.small
  have nk : ∀ (i : Nat) (o : AO), G[i]? = some o → (∀ es, o ≠ .idict es) → (∀ xs, o ≠ .list xs) → i ∉ L.own := fun i o e n1 n2 hi => by
    simp only [LX.own, List.mem_cons, List.not_mem_nil, or_false] at hi
    rcases hi with rfl | rfl | rfl
    · rw [y.dl] at e; exact n1 _ (Option.some.inj e).symm
    · rw [y.sg] at e; exact n2 _ (Option.some.inj e).symm
    · rw [y.pb] at e; exact n2 _ (Option.some.inj e).symm
  refine ⟨_, G', h1, rfl, ⟨_, h4, by rw [← hl, nls_cons]; omega⟩, x.ext.trans h2, h2.2 _ _ (nk _ _ x.ci (by intro _ h; cases h) (by intro _ h; cases h)) x.ci, h2.2 _ _ (nk _ _ x.me (by intro _ h; cases h) (by intro _ h; cases h)) x.me, x.out, by have := x.small; simp at this; omega⟩
theorem St.next {c : Nat} (x : St (K02 p) L H k m tot G (c :: rest)) : ∃ G', NextV B.W (d + 3) (.citer k) G (some (.str [c], .citer k)) G' ∧ St (K02 p) L H k m tot G' rest := by
  obtain ⟨v, G', h1, rfl, h2⟩ := x.read (B := B) (d := d)
  have := NextV.citer x.ci x.me (by kernel_rfl) h1 h2.ci h2.me
  rw [if_neg (by simp), if_neg (by simp)] at this
  exact ⟨G', this, h2⟩
theorem St.stop (x : St (K02 p) L H k m tot G []) : ∃ G', NextV B.W (d + 3) (.citer k) G none G' ∧ Ext L.own H G' ∧ ∃ line, Lex (K02 p) L G' line [] [] ∧ line + nls [] = tot := by
  obtain ⟨line, y, hl⟩ := x.lex
  obtain ⟨v, G', h1, h2, rfl, h4⟩ := read_char_spec (B := B) (d := d) y x.small
  have nk : ∀ (i : Nat) (o : AO), G[i]? = some o → (∀ es, o ≠ .idict es) → (∀ xs, o ≠ .list xs) → i ∉ L.own := fun i o e n1 n2 hi => by
    simp only [LX.own, List.mem_cons, List.not_mem_nil, or_false] at hi
    rcases hi with rfl | rfl | rfl
    · rw [y.dl] at e; exact n1 _ (Option.some.inj e).symm
    · rw [y.sg] at e; exact n2 _ (Option.some.inj e).symm
    · rw [y.pb] at e; exact n2 _ (Option.some.inj e).symm
  have ci' := h2.2 _ _ (nk _ _ x.ci (by intro _ h; cases h) (by intro _ h; cases h)) x.ci
  have := NextV.citer x.ci x.me (by kernel_rfl) h1 ci' (h2.2 _ _ (nk _ _ x.me (by intro _ h; cases h) (by intro _ h; cases h)) x.me)
  rw [if_pos rfl, if_pos rfl] at this
  refine ⟨_, this, (x.ext.trans h2).set (.inr x.out), line, ?_, hl⟩
  refine h4.ext (S := [k]) (Ext.refl.set (.inl (by simp))) fun i hi => ?_
  rw [List.mem_singleton]
  rintro rfl
  simp only [LX.all, List.mem_cons, List.not_mem_nil, or_false] at hi
  obtain ⟨es, e1, _⟩ := h4.ds
  obtain ⟨a, b, s, q, _, f2⟩ := h4.f
  rcases hi with h | h | h | h | h | h | h | h | h
  · have := h4.lx; rw [← h, ci'] at this; cases this
  · have := h4.dl; rw [← h, ci'] at this; cases this
  · have := h4.st; rw [← h, ci'] at this; cases this
  · rw [← h, ci'] at e1; cases e1
  · have := h4.pb; rw [← h, ci'] at this; cases this
  · have := h4.sg; rw [← h, ci'] at this; cases this
  · have := h4.c; rw [← h, ci'] at this; cases this
  · rw [← h, ci'] at f2; cases f2
  · have := h4.cd; rw [← h, ci'] at this; cases this
end Mine

/- part -/
namespace Mine
open PySem.Calls
variable {p : Params} {B : Bs (K02 p)} {d : Nat} {H H1 H2 : List AO} {L : LX} {line : Int} {pend : List (List Nat)} {rest : List Nat}

theorem get_pend {w : List Nat} {ws : List (List Nat)} (x : Lex (K02 p) L H line (w :: ws) rest) (hz : ws.length ≤ 100000) :
    XC B.W (d + 4) (.fn 42) [.loc L.lx] [] H fun v H' => v = .str w ∧ Ext L.own H H' ∧ Lex (K02 p) L H' line ws rest := by
  refine XC.fn (bs := [("self", .loc L.lx)]) (vars0 := [some (.loc L.lx), none, none, none]) (cl0 := []) (H0 := H) ["self", "token", "fiter", "ch"] (by rfl) (by kernel_rfl) ?_ (by kernel_rfl) (by kernel_rfl) (by decide +kernel) (by kernel_rfl) rfl (List.append_nil _).symm ?_
  · exact bind1 B.kin (fun _ _ => rfl)
  · have hg : ∀ {G : List AO}, G = H → GetA B.W (.loc L.lx) "pushback" G (.loc L.pb) G := fun e => by subst e; exact GetA.own ⟨x.lx, x.dl⟩ (by kernel_rfl) (by kernel_rfl) (by kernel_rfl) (attr := none) (by kernel_rfl) rfl
    refine XB.cons (XS.ifs (XT.val (XE.attr (XE.lv 0 ⟨_, _, hg rfl, _, TrV.list x.pb (by rw [List.length_map]; simp; omega), fun _ => ?_, fun h => ?_⟩))))
    · refine XB.cons (XS.ret (XE.meth (pl := _) (XE.attr (XE.lv 0 ⟨_, _, hg rfl, _, _, _, GetM.list x.pb PySem.F.slot_list_pop (by kernel_rfl), XEs.cons (XE.int (XEs.nil ⟨.bi, _, _, CallV.pop0 (a := .str w) (xs := strsOf ws) x.pb (by rw [List.length_map, sizeLine_eq]; omega), ?_⟩))⟩))))
      exact ⟨rfl, Ext.refl.set (.inl (by simp [LX.own])), x.setPb⟩
    · cases h

theorem get_spec {t r' : List Nat} (x : Lex (K02 p) L H line [] rest) (hz : rest.length ≤ 100000) (ht : tok rest = some (t, r')) :
    XC B.W (d + 4) (.fn 42) [.loc L.lx] [] H fun v H' => v = .str t ∧ Ext L.own H H' ∧ ∃ line', Lex (K02 p) L H' line' [] r' ∧ line' + nls r' = line + nls rest := by
  refine XC.fn (bs := [("self", .loc L.lx)]) (vars0 := [some (.loc L.lx), none, none, none]) (cl0 := []) (H0 := H) ["self", "token", "fiter", "ch"] (by rfl) (by kernel_rfl) ?_ (by kernel_rfl) (by kernel_rfl) (by decide +kernel) (by kernel_rfl) rfl (List.append_nil _).symm ?_
  · exact bind1 B.kin (fun _ _ => rfl)
  · have hg : ∀ {G : List AO}, G = H → GetA B.W (.loc L.lx) "pushback" G (.loc L.pb) G := fun e => by subst e; exact GetA.own ⟨x.lx, x.dl⟩ (by kernel_rfl) (by kernel_rfl) (by kernel_rfl) (attr := none) (by kernel_rfl) rfl
    refine XB.cons (XS.ifs (XT.val (XE.attr (XE.lv 0 ⟨_, _, hg rfl, _, TrV.list x.pb (by decide), fun h => ?_, fun _ => ?_⟩))))
    · cases h
    refine XB.nil (XB.cons (XS.assign 1 (XE.str [] ?_)))
    refine XB.cons (XS.assign 2 (XE.call (XE.bv "iter" (XEs.cons (XE.attr (XE.lv 0 ⟨_, _, GetA.bound (g := 35) ⟨x.lx, x.dl⟩ (by kernel_rfl) (by kernel_rfl) (by kernel_rfl) (by kernel_rfl) (by kernel_rfl) (by kernel_rfl) (by kernel_rfl) (by decide +kernel), XEs.cons (XE.str [] (XEs.nil ⟨.bi, _, _, CallV.iter2 gl, ?_⟩))⟩))))))
    have e0 : (H ++ [AO.meth 35 L.lx]).length = H.length + 1 := by simp
    have x0 : St (K02 p) L H (H.length + 1) H.length (line + nls rest) (H ++ [AO.meth 35 L.lx] ++ [AO.citer H.length []]) rest :=
      ⟨⟨line, x.ext (S := []) (Ext.refl.app.app) (by simp), rfl⟩, Ext.refl.app.app, by rw [← e0]; exact gl, ga gl, Nat.le_succ _, hz⟩
    rw [e0]
    generalize H ++ [AO.meth 35 L.lx] ++ [AO.citer H.length []] = G at x0
    generalize H.length + 1 = k at x0
    generalize line + nls rest = tot at x0
    generalize H.length = m at x0
    clear x e0 hg
    refine XB.cons (XS.for (XE.lv 2 ⟨_, IterV.citer x0.ci, XF.inv 3 (fun n vars G it => ∃ (rest : List Nat) (u : Option AV), vars = [some (.loc L.lx), some (.str []), some (.loc k), u] ∧ it = .citer k ∧ St (K02 p) L H k m tot G rest ∧ tok rest = some (t, r') ∧ n = rest.length) ?_ (by rfl) (by rfl) (by decide +kernel) _ _ _ _ ⟨rest, _, rfl, rfl, x0, ht, rfl⟩⟩))
    intro n vars G it hh0
    refine Classical.byContradiction fun hn0 => ?_
    obtain ⟨rest, u, rfl, rfl, y, ht, rfl⟩ := hh0
    refine hn0 ?_
    clear hn0
    cases rest with
    | nil =>
      refine Classical.byContradiction fun hn0 => ?_
      obtain ⟨G', h1, h2, line', h3, h4⟩ := y.stop (B := B) (d := d)
      refine hn0 ?_
      clear hn0
      cases ht
      exact .inl ⟨G', h1, XB.cons (XS.ret (XE.lv 1 ⟨rfl, h2, line', h3, h4⟩))⟩
    | cons c r =>
      refine Classical.byContradiction fun hn0 => ?_
      obtain ⟨G', h1, y1⟩ := y.next (B := B) (d := d)
      refine hn0 ?_
      clear hn0
      refine .inr ⟨_, _, G', h1, ?_⟩
      have hws : ∀ {G : List AO} {rest : List Nat}, St (K02 p) L H k m tot G rest → GetA B.W (.loc L.lx) "whitespace" G (.str wsp) G := fun y => by
        refine Classical.byContradiction fun hn0 => ?_
        obtain ⟨ln, x, _⟩ := y.lex
        refine hn0 ?_
        clear hn0
        exact GetA.own ⟨x.lx, x.dl⟩ (by kernel_rfl) (by kernel_rfl) (by kernel_rfl) (attr := none) (by kernel_rfl) rfl
      have hrd : ∀ {G : List AO} {rest : List Nat}, St (K02 p) L H k m tot G rest → GetM B.W (.loc L.lx) "_read_char" G (.fn 35) [.loc L.lx] G := fun y => by
        refine Classical.byContradiction fun hn0 => ?_
        obtain ⟨ln, x, _⟩ := y.lex
        refine hn0 ?_
        clear hn0
        exact GetM.inst ⟨x.lx, x.dl⟩ (by kernel_rfl) (by kernel_rfl) (by kernel_rfl) (by kernel_rfl)
      refine XB.cons (XS.ifs (XT.cmp (XE.lv 3 (XE.attr (XE.lv 0 ⟨_, _, hws y1, _, _, .inS, fun h => ?_, fun h => ?_⟩)))))
      · rw [occ_ws] at h
        refine XB.cons (XS.cont ⟨r.length, by simp, r, _, rfl, rfl, y1, ?_, rfl⟩)
        rw [tok, if_pos h] at ht; exact ht
      rw [occ_ws] at h
      rw [tok, h] at ht
      simp only [Bool.false_eq_true, if_false] at ht
      refine XB.nil (XB.cons (XS.ifs (XT.cmp (XE.lv 3 (XE.str [34] ⟨_, _, .eqS, fun hq => ?_, fun hq => ?_⟩)))))
      · have hc : c = 34 := by simpa using hq
        rw [if_pos hc] at ht
        have hb := y1.small
        refine XB.cons (XS.for (XE.lv 2 ⟨_, IterV.citer y1.ci, XF.inv 3 (fun n vars G it => ∃ (acc rest : List Nat) (u : Option AV), vars = [some (.loc L.lx), some (.str acc), some (.loc k), u] ∧ it = .citer k ∧ St (K02 p) L H k m tot G rest ∧ qT false acc rest = some (t, r') ∧ n = rest.length ∧ acc.length + rest.length ≤ 100000) ?_ (by rfl) (by rfl) (by decide +kernel) _ _ _ _ ⟨[], r, _, rfl, rfl, y1, ht, rfl, by simpa using hb⟩⟩))
        intro n vars G it hh0
        refine Classical.byContradiction fun hn0 => ?_
        obtain ⟨acc, rest, u, rfl, rfl, y, ht, rfl, hz⟩ := hh0
        refine hn0 ?_
        clear hn0
        cases rest with
        | nil => simp [qT] at ht
        | cons c r =>
          refine Classical.byContradiction fun hn0 => ?_
          obtain ⟨G', h1, y1⟩ := y.next (B := B) (d := d)
          refine hn0 ?_
          clear hn0
          refine .inr ⟨_, _, G', h1, ?_⟩
          rw [qT] at ht
          refine XB.cons (XS.ifs (XT.cmp (XE.lv 3 (XE.str [34] ⟨_, _, .eqS, fun hq => ?_, fun hq => ?_⟩))))
          · have hc : c = 34 := by simpa using hq
            rw [if_pos hc] at ht
            cases ht
            refine Classical.byContradiction fun hn0 => ?_
            obtain ⟨ln, z1, z2⟩ := y1.lex
            refine hn0 ?_
            clear hn0
            exact XB.cons (XS.ret (XE.lv 1 ⟨rfl, y1.ext, ln, z1, z2⟩))
          have hc : c ≠ 34 := by simpa using hq
          rw [if_neg hc] at ht
          refine XB.cons (XS.ifs (XT.cmp (XE.lv 3 (XE.str [92] ⟨_, _, .eqS, fun hq => ?_, fun hq => ?_⟩))))
          · have hc : c = 92 := by simpa using hq
            rw [if_pos hc] at ht
            cases r with
            | nil => simp [qT] at ht
            | cons c' r2 =>
              rw [qT] at ht
              simp at hz
              refine XB.cons (XS.assign 3 (XE.meth0 (pl := _) (XE.lv 0 ⟨_, _, _, hrd y1, keep_fn, XC.call ?_⟩)))
              refine Classical.byContradiction fun hn0 => ?_
              obtain ⟨v, G2, h2, rfl, y2⟩ := y1.read (B := B) (d := d + 1)
              refine hn0 ?_
              clear hn0
              refine ⟨_, _, h2, XB.nil ?_⟩
              refine XB.nil (XB.cons (XS.aug 1 (XE.lv 3 ⟨_, _, .iaddS (by rw [sizeLine_eq]; simp; omega), XB.nil ⟨r2.length, by simp; omega, acc ++ [c'], r2, _, rfl, rfl, y2, ht, rfl, by simp; omega⟩⟩)))
          · have hc : c ≠ 92 := by simpa using hq
            rw [if_neg hc] at ht
            simp at hz
            exact XB.nil (XB.nil (XB.cons (XS.aug 1 (XE.lv 3 ⟨_, _, .iaddS (by rw [sizeLine_eq]; simp; omega), XB.nil ⟨r.length, by simp, acc ++ [c], r, _, rfl, rfl, y1, ht, rfl, by simp; omega⟩⟩))))
      · have hc : c ≠ 34 := by simpa using hq
        rw [if_neg hc] at ht
        have hb := y1.small
        refine XB.cons (XS.ifs (XT.cmp (XE.lv 3 (XE.str [92] ⟨_, _, .eqS, fun hq => ?_, fun hq => ?_⟩))))
        · have hc : c = 92 := by simpa using hq
          rw [if_pos hc] at ht
          cases r with
          | nil => simp [bT] at ht
          | cons c' r2 =>
            rw [bT] at ht
            refine XB.cons (XS.assign 3 (XE.meth0 (pl := _) (XE.lv 0 ⟨_, _, _, hrd y1, keep_fn, XC.call ?_⟩)))
            refine Classical.byContradiction fun hn0 => ?_
            obtain ⟨v, G2, h2, rfl, y2⟩ := y1.read (B := B) (d := d + 1)
            refine hn0 ?_
            clear hn0
            refine ⟨_, _, h2, XB.nil ?_⟩
            refine XB.cons (XS.aug 1 (XE.lv 3 ⟨_, _, .iaddS (x := []) (y := [c']) (by rw [sizeLine_eq]; simp), ?_⟩))
            have hb2 := y2.small
            refine XB.cons (XS.for (XE.lv 2 ⟨_, IterV.citer y2.ci, XF.inv 3 (fun n vars G it => ∃ (acc rest : List Nat) (u : Option AV), vars = [some (.loc L.lx), some (.str acc), some (.loc k), u] ∧ it = .citer k ∧ St (K02 p) L H k m tot G rest ∧ bT false acc rest = some (t, r') ∧ n = rest.length ∧ acc.length + rest.length ≤ 100001) ?_ (by rfl) (by rfl) (by decide +kernel) _ _ _ _ ⟨[c'], r2, _, rfl, rfl, y2, ht, rfl, by simp; omega⟩⟩))
            intro n vars G it hh0
            refine Classical.byContradiction fun hn0 => ?_
            obtain ⟨acc, rest, u, rfl, rfl, y, ht, rfl, hz⟩ := hh0
            refine hn0 ?_
            clear hn0
            cases rest with
            | nil => simp [bT] at ht
            | cons c r =>
              refine Classical.byContradiction fun hn0 => ?_
              obtain ⟨G', h1, y1⟩ := y.next (B := B) (d := d)
              refine hn0 ?_
              clear hn0
              refine .inr ⟨_, _, G', h1, ?_⟩
              rw [bT] at ht
              refine XB.cons (XS.ifs (XT.cmp (XE.lv 3 (XE.attr (XE.lv 0 ⟨_, _, hws y1, _, _, .inS, fun h => ?_, fun h => ?_⟩)))))
              · rw [occ_ws] at h
                rw [if_pos h] at ht
                cases ht
                refine Classical.byContradiction fun hn0 => ?_
                obtain ⟨ln, z1, z2⟩ := y1.lex
                refine hn0 ?_
                clear hn0
                exact XB.cons (XS.ret (XE.lv 1 ⟨rfl, y1.ext, ln, z1, z2⟩))
              rw [occ_ws] at h
              rw [h] at ht
              simp only [Bool.false_eq_true, if_false] at ht
              refine XB.cons (XS.ifs (XT.cmp (XE.lv 3 (XE.str [92] ⟨_, _, .eqS, fun hq => ?_, fun hq => ?_⟩))))
              · have hc : c = 92 := by simpa using hq
                rw [if_pos hc] at ht
                cases r with
                | nil => simp [bT] at ht
                | cons c' r2 =>
                  rw [bT] at ht
                  simp at hz
                  refine XB.cons (XS.assign 3 (XE.meth0 (pl := _) (XE.lv 0 ⟨_, _, _, hrd y1, keep_fn, XC.call ?_⟩)))
                  refine Classical.byContradiction fun hn0 => ?_
                  obtain ⟨v, G2, h2, rfl, y2⟩ := y1.read (B := B) (d := d + 1)
                  refine hn0 ?_
                  clear hn0
                  refine ⟨_, _, h2, XB.nil ?_⟩
                  refine XB.nil (XB.cons (XS.aug 1 (XE.lv 3 ⟨_, _, .iaddS (by rw [sizeLine_eq]; simp; omega), XB.nil ⟨r2.length, by simp; omega, acc ++ [c'], r2, _, rfl, rfl, y2, ht, rfl, by simp; omega⟩⟩)))
              · have hc : c ≠ 92 := by simpa using hq
                rw [if_neg hc] at ht
                simp at hz
                exact XB.nil (XB.nil (XB.cons (XS.aug 1 (XE.lv 3 ⟨_, _, .iaddS (by rw [sizeLine_eq]; simp; omega), XB.nil ⟨r.length, by simp, acc ++ [c], r, _, rfl, rfl, y1, ht, rfl, by simp; omega⟩⟩))))
        · have hc : c ≠ 92 := by simpa using hq
          rw [if_neg hc] at ht
          refine XB.nil (XB.cons (XS.aug 1 (XE.lv 3 ⟨_, _, .iaddS (x := []) (y := [c]) (by rw [sizeLine_eq]; simp), ?_⟩)))
          refine XB.cons (XS.for (XE.lv 2 ⟨_, IterV.citer y1.ci, XF.inv 3 (fun n vars G it => ∃ (acc rest : List Nat) (u : Option AV), vars = [some (.loc L.lx), some (.str acc), some (.loc k), u] ∧ it = .citer k ∧ St (K02 p) L H k m tot G rest ∧ bT false acc rest = some (t, r') ∧ n = rest.length ∧ acc.length + rest.length ≤ 100001) ?_ (by rfl) (by rfl) (by decide +kernel) _ _ _ _ ⟨[c], r, _, rfl, rfl, y1, ht, rfl, by simp; omega⟩⟩))
          intro n vars G it hh0
          refine Classical.byContradiction fun hn0 => ?_
          obtain ⟨acc, rest, u, rfl, rfl, y, ht, rfl, hz⟩ := hh0
          refine hn0 ?_
          clear hn0
          cases rest with
          | nil => simp [bT] at ht
          | cons c r =>
            refine Classical.byContradiction fun hn0 => ?_
            obtain ⟨G', h1, y1⟩ := y.next (B := B) (d := d)
            refine hn0 ?_
            clear hn0
            refine .inr ⟨_, _, G', h1, ?_⟩
            rw [bT] at ht
            refine XB.cons (XS.ifs (XT.cmp (XE.lv 3 (XE.attr (XE.lv 0 ⟨_, _, hws y1, _, _, .inS, fun h => ?_, fun h => ?_⟩)))))
            · rw [occ_ws] at h
              rw [if_pos h] at ht
              cases ht
              refine Classical.byContradiction fun hn0 => ?_
              obtain ⟨ln, z1, z2⟩ := y1.lex
              refine hn0 ?_
              clear hn0
              exact XB.cons (XS.ret (XE.lv 1 ⟨rfl, y1.ext, ln, z1, z2⟩))
            rw [occ_ws] at h
            rw [h] at ht
            simp only [Bool.false_eq_true, if_false] at ht
            refine XB.cons (XS.ifs (XT.cmp (XE.lv 3 (XE.str [92] ⟨_, _, .eqS, fun hq => ?_, fun hq => ?_⟩))))
            · have hc : c = 92 := by simpa using hq
              rw [if_pos hc] at ht
              cases r with
              | nil => simp [bT] at ht
              | cons c' r2 =>
                rw [bT] at ht
                simp at hz
                refine XB.cons (XS.assign 3 (XE.meth0 (pl := _) (XE.lv 0 ⟨_, _, _, hrd y1, keep_fn, XC.call ?_⟩)))
                refine Classical.byContradiction fun hn0 => ?_
                obtain ⟨v, G2, h2, rfl, y2⟩ := y1.read (B := B) (d := d + 1)
                refine hn0 ?_
                clear hn0
                refine ⟨_, _, h2, XB.nil ?_⟩
                refine XB.nil (XB.cons (XS.aug 1 (XE.lv 3 ⟨_, _, .iaddS (by rw [sizeLine_eq]; simp; omega), XB.nil ⟨r2.length, by simp; omega, acc ++ [c'], r2, _, rfl, rfl, y2, ht, rfl, by simp; omega⟩⟩)))
            · have hc : c ≠ 92 := by simpa using hq
              rw [if_neg hc] at ht
              simp at hz
              exact XB.nil (XB.nil (XB.cons (XS.aug 1 (XE.lv 3 ⟨_, _, .iaddS (by rw [sizeLine_eq]; simp; omega), XB.nil ⟨r.length, by simp, acc ++ [c], r, _, rfl, rfl, y1, ht, rfl, by simp; omega⟩⟩))))
end Mine

/- part -/
namespace Mine
open PySem.Calls
variable {p : Params} {B : Bs (K02 p)} {d : Nat} {H H1 H2 : List AO}

noncomputable def enc (k : Nat) (w : List Nat) : List Nat := if k % 2 = 0 then 34 :: (w ++ [34, 10]) else (w.map fun c => [92, c]).flatten ++ [10]
noncomputable def wr : Nat → List (List Nat) → List Nat
  | _, [] => []
  | k, w :: ws => enc k w ++ wr (k + 1) ws
theorem enc_len (k : Nat) (w : List Nat) : (enc k w).length ≤ 2 * w.length + 3 := by
  unfold enc
  split
  · simp; omega
  · simp [List.length_flatten, List.map_map]
    have key : ∀ l : List Nat, (l.map fun _ => 2).sum = 2 * l.length := fun l => by
      induction l with
      | nil => rfl
      | cons c l ih => simp only [List.map_cons, List.sum_cons, ih, List.length_cons]; omega
    have : ((fun l : List Nat => l.length) ∘ fun c : Nat => [92, c]) = fun _ => 2 := rfl
    rw [this, key]; omega
theorem mod2_nat (k : Nat) : (((k : Int).fmod 2) == 0) = decide (k % 2 = 0) := by
  rw [Int.fmod_eq_emod_of_nonneg _ (by decide), Bool.eq_iff_iff, beq_iff_eq, decide_eq_true_eq]; omega
theorem strsOf_get {ws : List (List Nat)} {k : Nat} {w : List Nat} (h : ws[k]? = some w) : (strsOf ws)[k]? = some (.str w) := by rw [List.getElem?_map, h]; rfl
theorem wr_step {k : Nat} {ws : List (List Nat)} {w : List Nat} (h : ws[k]? = some w) (j : Nat) : wr j (ws.drop k) = enc j w ++ wr (j + 1) (ws.drop (k + 1)) := by
  obtain ⟨h1, rfl⟩ := List.getElem?_eq_some_iff.mp h
  rw [List.drop_eq_getElem_cons h1]; rfl
theorem written_spec {i : Nat} {ws : List (List Nat)} (ho : H[i]? = some (.list (strsOf ws))) (hz : ws.length ≤ 1000) (hw : ∀ w ∈ ws, w.length ≤ 1000) (ht : (wr 0 ws).length ≤ 100000) :
    XC B.W (d + 1) (.fn 100) [.loc i] [] H fun v H' => v = .str (wr 0 ws) ∧ Ext [] H H' := by
  have hlen : (strsOf ws).length = ws.length := by simp
  refine XC.fn (bs := [("words", .loc i)]) (vars0 := [some (.loc i), none, none]) (cl0 := []) (H0 := H) ["words", "text", "place"] (by rfl) (by kernel_rfl) ?_ (by kernel_rfl) (by kernel_rfl) (by decide +kernel) (by kernel_rfl) rfl (List.append_nil _).symm ?_
  · exact bind1 B.kin (fun _ _ => rfl)
  · refine XB.cons (XS.assign 1 (XE.str [] ?_))
    refine XB.cons (XS.for (XE.call (XE.ty "range" (XEs.cons (XE.call (XE.bv "len" (XEs.cons (XE.lv 0 (XEs.nil ⟨.bi, _, _, CallV.lenL ho (by rw [hlen]; omega), XEs.nil ⟨.ty, _, _, CallV.range1, _, IterV.rng gl (by decide) (by decide) (by omega) (by rw [hlen]; omega), ?_⟩⟩)))))))))
    rw [hlen]
    have : (((ws.length : Nat) : Int) - 0).toNat = ws.length := by omega
    rw [this]
    refine XF.rng 2 (fun k vars H' => Ext [] H H' ∧ ∃ (text : List Nat) (u : Option AV), vars = [some (.loc i), some (.str text), u] ∧ text ++ wr k (ws.drop k) = wr 0 ws) ?_ ?_ ⟨Ext.refl.app, [], _, rfl, rfl⟩
    · rintro k hk vars H' ⟨E1, text, u, rfl, h1⟩
      obtain ⟨w, hw1⟩ : ∃ w, ws[k]? = some w := ⟨_, List.getElem?_eq_getElem hk⟩
      have hwl : w.length ≤ 1000 := hw w (List.mem_of_getElem? hw1)
      have hel := enc_len k w
      rw [wr_step hw1] at h1
      have htl := congrArg List.length h1
      simp only [List.length_append] at htl
      have ho' := E1.2 _ _ (by simp) ho
      rw [Int.zero_add]
      have fits : ∀ n, n ≤ 1000000 → n ≤ sizeLine := fun n h => by rw [sizeLine_eq]; omega
      refine XB.cons (XS.ifs (XT.cmp (XE.bin (XE.lv 2 (XE.int ⟨_, _, .modI (by decide), XE.int ⟨_, _, .eqI, fun h => ?_, fun h => ?_⟩⟩)))))
      · rw [mod2_nat] at h
        have h' : k % 2 = 0 := by simpa using h
        have he : enc k w = 34 :: (w ++ [34, 10]) := by unfold enc; rw [if_pos h']
        refine XB.cons ?_
        refine XS.assign 1 ?_
        refine XE.bin ?_
        refine XE.bin ?_
        refine XE.bin ?_
        refine XE.lv 1 ?_
        refine XE.str [34] ?_
        refine ⟨_, _, .addS (fits _ (by simp; omega)), ?_⟩
        refine XE.item ?_
        refine XE.lv 0 ?_
        refine XE.lv 2 ?_
        refine ⟨.str w, _, .list ho' (seq_nat (by rw [hlen]; exact hk)) (strsOf_get hw1) (by rw [hlen]; omega), ?_⟩
        refine ⟨_, _, .addS (fits _ (by simp; omega)), ?_⟩
        refine XE.str [34, 10] ?_
        refine ⟨_, _, .addS (fits _ (by simp; omega)), ?_⟩
        refine XB.nil (XB.nil ⟨E1, _, _, rfl, ?_⟩)
        rw [← h1, he]; simp
      · rw [mod2_nat] at h
        have h' : ¬ k % 2 = 0 := by simpa using h
        have he : enc k w = (w.map fun c => [92, c]).flatten ++ [10] := by unfold enc; rw [if_neg h']
        refine XB.cons ?_
        refine XS.assign 1 ?_
        refine XE.bin ?_
        refine XE.bin ?_
        refine XE.lv 1 ?_
        refine XE.meth ?_ (pl := _)
        refine XE.str [] ?_
        refine ⟨_, _, _, GetM.str PySem.F.slot_str_join (by kernel_rfl), ?_⟩
        refine XEs.cons ?_
        refine XE.comp ["sign"] [] ?_ (fun j y h => by cases j <;> cases h)
        refine XE.item ?_
        refine XE.lv 0 ?_
        refine XE.lv 2 ?_
        refine ⟨.str w, _, .list ho' (seq_nat (by rw [hlen]; exact hk)) (strsOf_get hw1) (by rw [hlen]; omega), _, .str, rfl, ?_⟩
        refine XL.chars 0 (fun c => AV.str [92, c]) (fun vars => vars.length = 1) (fun vars v h => by simpa using h) (fun c hc vars hI => ?_) (fits _ (by omega)) rfl ?_
        · obtain ⟨m, rfl⟩ : ∃ m, vars = [m] := by cases vars with | nil => cases hI | cons m t => cases t with | nil => exact ⟨m, rfl⟩ | cons => cases hI
          exact XE.bin (XE.str [92] (XE.lv 0 ⟨_, _, .addS (fits _ (by simp)), rfl, rfl⟩))
        · have e1 : (w.map fun c => AV.str [92, c]) = strsOf (w.map fun c => [92, c]) := by simp
          rw [e1]
          have hfl : ((w.map fun c => [92, c]).flatten).length ≤ 2010 := by
            rw [he, List.length_append] at hel
            omega
          refine XEs.nil ?_
          refine ⟨.bi, _, _, CallV.join0 gl (by omega), ?_⟩
          refine ⟨_, _, .addS (fits _ (by omega)), ?_⟩
          refine XE.str [10] ?_
          refine ⟨_, _, .addS (fits _ (by simp only [List.length_append, List.length_cons, List.length_nil]; omega)), ?_⟩
          refine XB.nil (XB.nil ⟨E1.app, _, _, rfl, ?_⟩)
          rw [← h1, he]; simp
    · rintro vars H' ⟨E1, text, u, rfl, h1⟩
      rw [List.drop_of_length_le (Nat.le_refl _)] at h1
      simp only [wr, List.append_nil] at h1
      subst h1
      exact XB.cons (XS.ret (XE.lv 1 ⟨rfl, E1⟩))
end Mine

/- part -/
namespace Mine
open PySem.Calls
variable {p : Params} {B : Bs (K02 p)} {d : Nat} {H H1 H2 : List AO}

noncomputable def pstep (ps : List Nat) (b : Bool) : List Nat := if b then ps ++ [1] else ps.set (ps.length - 1) (ps.getD (ps.length - 1) 0 + 1)
noncomputable def bitAt (number : Int) (k : Nat) : Bool := (number.fdiv (2 ^ k)).fmod 2 == 1
noncomputable def pilesTo (number : Int) : Nat → List Nat
  | 0 => [1]
  | k + 1 => pstep (pilesTo number k) (bitAt number k)
theorem pilesTo_len (number : Int) : ∀ k, 1 ≤ (pilesTo number k).length ∧ (pilesTo number k).length ≤ k + 1
  | 0 => by simp [pilesTo]
  | k + 1 => by
    have := pilesTo_len number k
    unfold pilesTo pstep
    split <;> simp <;> omega
theorem natsOf_len (ps : List Nat) : (natsOf ps).length = ps.length := by simp [natsOf]
theorem natsOf_set (ps : List Nat) (m x : Nat) : (natsOf ps).set m (.int x) = natsOf (ps.set m x) := by simp [natsOf, List.map_set]
theorem natsOf_app (ps : List Nat) (x : Nat) : natsOf ps ++ [.int x] = natsOf (ps ++ [x]) := by simp [natsOf]
theorem seq_last {n : Nat} (h : 1 ≤ n) : seqIndex? (-1) n = some (n - 1) := by
  unfold seqIndex?
  simp only [show (-1 : Int) < 0 by decide, if_true]
  rw [if_pos (by simp; omega)]
  congr 1; omega
theorem piles_spec {total : Nat} {number : Int} (h1 : 1 ≤ total) (h2 : total ≤ 20) :
    XC B.W (d + 1) (.fn 112) [.int total, .int number] [] H fun v H' => ∃ j, v = .loc j ∧ H.length ≤ j ∧ H'[j]? = some (.list (natsOf (pilesTo number (total - 1)))) ∧ Ext [] H H' := by
  refine XC.fn (bs := [("total", .int total), ("number", .int number)]) (vars0 := [some (.int total), some (.int number), none, none]) (cl0 := []) (H0 := H) ["total", "number", "piles", "place"] (by rfl) (by kernel_rfl) ?_ (by kernel_rfl) (by kernel_rfl) (by decide +kernel) (by kernel_rfl) rfl (List.append_nil _).symm ?_
  · exact bind2 B.kin (fun _ _ _ => rfl)
  · refine XB.cons ?_
    refine XS.assign 2 ?_
    refine XE.list ?_
    refine XEs.cons ?_
    refine XE.int ?_
    refine XEs.nil ?_
    refine ⟨by decide, ?_⟩
    refine XB.cons ?_
    refine XS.for ?_
    refine XE.call ?_
    refine XE.ty "range" ?_
    refine XEs.cons ?_
    refine XE.bin ?_
    refine XE.lv 0 ?_
    refine XE.int ?_
    refine ⟨_, _, .subI, ?_⟩
    refine XEs.nil ?_
    refine ⟨.ty, _, _, CallV.range1, ?_⟩
    refine ⟨_, IterV.rng gl (by decide) (by decide) (by omega) (by omega), ?_⟩
    have e : ((total : Int) - 1 - 0).toNat = total - 1 := by omega
    rw [e]
    refine XF.rng 3 (fun k vars H' => Ext [] H H' ∧ H'[H.length]? = some (.list (natsOf (pilesTo number k))) ∧ ∃ u, vars = [some (.int total), some (.int number), some (.loc H.length), u]) ?_ ?_ ⟨Ext.refl.app.app, ga gl, _, rfl⟩
    · rintro k hk vars H' ⟨E1, hp, u, rfl⟩
      rw [Int.zero_add]
      have hl := pilesTo_len number k
      have hl2 := natsOf_len (pilesTo number k)
      have hpow : ((2 : Int) ^ k).natAbs < 1073741824 := by
        have : (2 : Int) ^ k = ((2 ^ k : Nat) : Int) := by simp
        rw [this, Int.natAbs_natCast]
        exact Nat.lt_of_le_of_lt (Nat.pow_le_pow_right (by decide) (show k ≤ 20 by omega)) (by decide)
      have hpow0 : (((2 : Int) ^ k) == 0) = false := by
        have : (2 : Int) ^ k = ((2 ^ k : Nat) : Int) := by simp
        have h0 : 0 < 2 ^ k := Nat.two_pow_pos k
        rw [this, beq_eq_false_iff_ne]; omega
      refine XB.cons ?_
      refine XS.ifs ?_
      refine XT.cmp ?_
      refine XE.bin ?_
      refine XE.bin ?_
      refine XE.lv 1 ?_
      refine XE.bin ?_
      refine XE.int ?_
      refine XE.lv 3 ?_
      refine ⟨_, _, .pow2 (by omega), ?_⟩
      refine ⟨_, _, .divI hpow0 hpow, ?_⟩
      refine XE.int ?_
      refine ⟨_, _, .modI (by decide), ?_⟩
      refine XE.int ?_
      refine ⟨_, _, .eqI, fun h => ?_, fun h => ?_⟩
      · refine XB.cons ?_
        refine XS.expr ?_
        refine XE.meth ?_ (pl := _)
        refine XE.lv 2 ?_
        refine ⟨_, _, _, GetM.list hp PySem.F.slot_list_append (by kernel_rfl), ?_⟩
        refine XEs.cons ?_
        refine XE.int ?_
        refine XEs.nil ?_
        refine ⟨.bi, _, _, CallV.append hp (by rw [hl2, sizeLine_eq]; omega), ?_⟩
        refine XB.nil (XB.nil ⟨E1.set (.inr (Nat.le_refl _)), ?_, _, rfl⟩)
        rw [gn hp]
        have hb : bitAt number k = true := h
        rw [pilesTo, pstep, if_pos hb]
        exact congrArg (fun x => some (AO.list x)) (natsOf_app _ 1)
      · have hlast : (pilesTo number k)[(pilesTo number k).length - 1]? = some ((pilesTo number k).getD ((pilesTo number k).length - 1) 0) := by
          rw [List.getD_eq_getElem?_getD, List.getElem?_eq_getElem (by omega)]; rfl
        have hg : (natsOf (pilesTo number k))[(pilesTo number k).length - 1]? = some (.int ((pilesTo number k).getD ((pilesTo number k).length - 1) 0 : Nat)) := by
          unfold natsOf; rw [List.getElem?_map, hlast]; rfl
        refine XB.cons ?_
        refine XS.setI ?_
        refine XE.bin ?_
        refine XE.item ?_
        refine XE.lv 2 ?_
        refine XE.un ?_
        refine XE.int ?_
        refine ⟨_, _, .negI, ?_⟩
        refine ⟨_, _, .list hp (by rw [hl2]; exact seq_last hl.1) hg (by rw [hl2]; omega), ?_⟩
        refine XE.int ?_
        refine ⟨_, _, .addI, ?_⟩
        refine XE.lv 2 ?_
        refine XE.un ?_
        refine XE.int ?_
        refine ⟨_, _, .negI, ?_⟩
        refine ⟨_, _, _, _, _, rfl, rfl, hp, by rw [hl2]; exact seq_last hl.1, by rw [hl2]; omega, rfl, ?_⟩
        refine XB.nil (XB.nil ⟨E1.set (.inr (Nat.le_refl _)), ?_, _, rfl⟩)
        rw [gn hp]
        have hb : bitAt number k = false := h
        rw [pilesTo, pstep, hb]
        simp only [Bool.false_eq_true, if_false]
        rw [← natsOf_set]; rfl
    · rintro vars H' ⟨E1, hp, u, rfl⟩
      refine XB.cons ?_
      refine XS.ret ?_
      refine XE.lv 2 ?_
      refine ⟨_, rfl, Nat.le_refl _, hp, E1⟩
end Mine

/- part -/
namespace Mine
open PySem.Calls
variable {p : Params} {B : Bs (K02 p)} {d : Nat} {H H1 H2 : List AO} {L : LX} {line : Int} {rest : List Nat}

noncomputable abbrev WP := Nat × Nat
noncomputable def wd (x : WP) : List Nat := List.replicate x.1 64 ++ [x.2]
noncomputable def Good (x : WP) : Prop := x.1 ≤ 2 ∧ 1 ≤ x.2 % 64 ∧ x.2 % 128 < 64 ∧ x.2 < 256
theorem bit6 (c : Nat) : c.testBit 6 = decide (64 ≤ c % 128) := by
  rw [Nat.testBit_eq_decide_div_mod_eq, Bool.eq_iff_iff, decide_eq_true_eq, decide_eq_true_eq]
  simp only [show 2 ^ 6 = 64 by rfl]
  omega
theorem told_wd {m c : Nat} (hc : c % 128 < 64) : ∃ b cs n, wd (m, c) = b :: cs ∧ vdec b (b % 64) cs = some (c % 64, n) := by
  have h0 : c.testBit 6 = false := by rw [bit6]; simp; omega
  cases m with
  | zero => exact ⟨c, [], 0, rfl, by simp [vdec, h0]⟩
  | succ m =>
    have key : ∀ k, ∃ n, vdec 64 0 (List.replicate k 64 ++ [c]) = some (c % 64, n) := by
      intro k
      induction k with
      | zero => exact ⟨1, by simp [vdec, h0]; decide⟩
      | succ k ih =>
        refine Classical.byContradiction fun hn0 => ?_
        obtain ⟨n, ih⟩ := ih
        refine hn0 ?_
        clear hn0
        refine ⟨n + 1, ?_⟩
        rw [List.replicate_succ, List.cons_append, vdec]
        rw [if_pos (by decide), show 0 * 64 + 64 % 64 = 0 by rfl, ih]; rfl
    refine Classical.byContradiction fun hn0 => ?_
    obtain ⟨n, h⟩ := key m
    refine hn0 ?_
    clear hn0
    exact ⟨64, List.replicate m 64 ++ [c], n, rfl, h⟩
theorem wd_len (x : WP) : (wd x).length = x.1 + 1 := by simp [wd]
theorem wd_last (x : WP) : (wd x)[x.1]? = some x.2 := by simp [wd]
theorem wd_pk (x : WP) : pk (wd x) none (some (-1)) = List.replicate x.1 64 := by
  unfold pk
  rw [wd_len]
  have : kms_hi (some (-1)) (x.1 + 1) = x.1 := by simp [kms_hi]
  rw [this]
  simp [kms_lo, wd]
theorem Lex.lt {K : Frag} {pend : List (List Nat)} (x : Lex K L H line pend rest) : ∀ i ∈ L.all, i < H.length := by
  intro i hi
  simp only [LX.all, List.mem_cons, List.not_mem_nil, or_false] at hi
  refine Classical.byContradiction fun hn0 => ?_
  obtain ⟨es, e1, _⟩ := x.ds
  refine hn0 ?_
  clear hn0
  refine Classical.byContradiction fun hn0 => ?_
  obtain ⟨a, b, s, q, _, f2⟩ := x.f
  refine hn0 ?_
  clear hn0
  rcases hi with rfl | rfl | rfl | rfl | rfl | rfl | rfl | rfl | rfl
  · exact (List.getElem?_eq_some_iff.mp x.lx).1
  · exact (List.getElem?_eq_some_iff.mp x.dl).1
  · exact (List.getElem?_eq_some_iff.mp x.st).1
  · exact (List.getElem?_eq_some_iff.mp e1).1
  · exact (List.getElem?_eq_some_iff.mp x.pb).1
  · exact (List.getElem?_eq_some_iff.mp x.sg).1
  · exact (List.getElem?_eq_some_iff.mp x.c).1
  · exact (List.getElem?_eq_some_iff.mp f2).1
  · exact (List.getElem?_eq_some_iff.mp x.cd).1
theorem own_all {i : Nat} (h : i ∈ L.own) : i ∈ L.all := by
  simp only [LX.own, List.mem_cons, List.not_mem_nil, or_false] at h
  rcases h with rfl | rfl | rfl <;> simp [LX.all]

noncomputable def lessQ : List WP → List WP
  | [] => []
  | x :: q => if 1 < x.2 % 64 then (x.1, x.2 - 1) :: lessQ q else lessQ q
noncomputable def rowQ (row : List Int) : List WP → List Int
  | [] => row
  | x :: q => if 1 < x.2 % 64 then rowQ (ins ((x.2 % 64 - 1 : Nat) : Int) row) q else rowQ row q
noncomputable def dealQ (q : List WP) : List WP := lessQ q ++ [(0, q.length)]
noncomputable def dealRow (q : List WP) : List Int := ins q.length (rowQ [] q)
theorem lessQ_snoc (q : List WP) (x : WP) : lessQ (q ++ [x]) = if 1 < x.2 % 64 then lessQ q ++ [(x.1, x.2 - 1)] else lessQ q := by
  induction q with
  | nil => simp only [List.nil_append, lessQ]
  | cons y q ih =>
    simp only [List.cons_append, lessQ, ih]
    split <;> split <;> rfl
theorem rowQ_snoc (q : List WP) (x : WP) (row : List Int) : rowQ row (q ++ [x]) = if 1 < x.2 % 64 then ins ((x.2 % 64 - 1 : Nat) : Int) (rowQ row q) else rowQ row q := by
  induction q generalizing row with
  | nil => simp only [List.nil_append, rowQ]
  | cons y q ih =>
    simp only [List.cons_append, rowQ]
    split <;> exact ih _
theorem rowQ_sorted {q : List WP} {row : List Int} (h : row.Pairwise (· ≤ ·)) : (rowQ row q).Pairwise (· ≤ ·) := by
  induction q generalizing row with
  | nil => exact h
  | cons y q ih => unfold rowQ; split; exact ih (ins_sorted h); exact ih h
theorem rowQ_len {q : List WP} {row : List Int} : (rowQ row q).length ≤ row.length + q.length := by
  induction q generalizing row with
  | nil => exact Nat.le_refl _
  | cons y q ih =>
    unfold rowQ
    split
    · have := ih (row := ins ((y.2 % 64 - 1 : Nat) : Int) row); rw [ins_len] at this; simp; omega
    · have := ih (row := row); simp; omega
theorem lessQ_len (q : List WP) : (lessQ q).length ≤ q.length := by
  induction q with
  | nil => exact Nat.le_refl _
  | cons y q ih => unfold lessQ; split <;> simp <;> omega

theorem deal_spec {q : List WP} (x : Lex (K02 p) L H line (q.map wd) rest) (hg : ∀ y ∈ q, Good y) (hq : 1 ≤ q.length) (hz : q.length ≤ 60) :
    XC B.W (d + 5) (.fn 119) [.loc L.lx, .int q.length] [] H fun v H' => ∃ j, v = .loc j ∧ H.length ≤ j ∧ H'[j]? = some (.list (intsOf (dealRow q))) ∧ Lex (K02 p) L H' line ((dealQ q).map wd) rest ∧ Ext L.own H H' := by
  refine XC.fn (bs := [("lexer", .loc L.lx), ("count", .int q.length)]) (vars0 := [some (.loc L.lx), some (.int q.length), none, none, none, none]) (cl0 := []) (H0 := H) ["lexer", "count", "row", "step", "word", "size"] (by rfl) (by kernel_rfl) ?_ (by kernel_rfl) (by kernel_rfl) (by decide +kernel) (by kernel_rfl) rfl (List.append_nil _).symm ?_
  · exact bind2 B.kin (fun _ _ _ => rfl)
  · have hlt := x.lt
    refine XB.cons ?_
    refine XS.assign 2 ?_
    refine XE.list ?_
    refine XEs.nil ?_
    refine ⟨by decide, ?_⟩
    refine XB.cons ?_
    refine XS.for ?_
    refine XE.call ?_
    refine XE.ty "range" ?_
    refine XEs.cons ?_
    refine XE.lv 1 ?_
    refine XEs.nil ?_
    refine ⟨.ty, _, _, CallV.range1, ?_⟩
    refine ⟨_, IterV.rng gl (by decide) (by decide) (by omega) (by omega), ?_⟩
    have e : ((q.length : Int) - 0).toNat = q.length := by omega
    rw [e]
    have outRow : ∀ i ∈ L.all, i ∉ [H.length] := fun i hi => by have := hlt i hi; simp; omega
    refine XF.rng 3 (fun k vars H' => Ext L.own H H' ∧ H'[H.length]? = some (.list (intsOf (rowQ [] (q.take k)))) ∧ Lex (K02 p) L H' line ((q.drop k ++ lessQ (q.take k)).map wd) rest ∧ ∃ a b c, vars = [some (.loc L.lx), some (.int q.length), some (.loc H.length), a, b, c]) ?_ ?_ ⟨Ext.refl.app.app, ga gl, by rw [List.drop_zero, List.take_zero, show lessQ [] = [] from rfl, List.append_nil]; exact x.ext (S := []) Ext.refl.app.app (by simp), _, _, _, rfl⟩
    · intro k hk vars H' hh0
      refine Classical.byContradiction fun hn0 => ?_
      obtain ⟨E1, hr, y, a, b, c, rfl⟩ := hh0
      refine hn0 ?_
      clear hn0
      refine Classical.byContradiction fun hn0 => ?_
      obtain ⟨w, hw⟩ : ∃ w, q[k]? = some w := ⟨_, List.getElem?_eq_getElem hk⟩
      refine hn0 ?_
      clear hn0
      have gw := hg w (List.mem_of_getElem? hw)
      have hd : q.drop k = w :: q.drop (k + 1) := by
        refine Classical.byContradiction fun hn0 => ?_
        obtain ⟨h1, rfl⟩ := List.getElem?_eq_some_iff.mp hw
        refine hn0 ?_
        clear hn0
        exact List.drop_eq_getElem_cons h1
      have ht : q.take (k + 1) = q.take k ++ [w] := by rw [List.take_add_one, hw]; rfl
      rw [hd, List.cons_append, List.map_cons] at y
      have hll := lessQ_len (q.take k)
      have hlen : ((q.drop (k + 1) ++ lessQ (q.take k)).map wd).length ≤ 1000 := by simp at hll ⊢; omega
      refine XB.cons ?_
      refine XS.assign 4 ?_
      refine XE.meth0 ?_ (pl := _)
      refine XE.lv 0 ?_
      refine ⟨_, _, _, GetM.inst (g := 42) ⟨y.lx, y.dl⟩ (by kernel_rfl) (by kernel_rfl) (by kernel_rfl) (by kernel_rfl), keep_fn, XC.call ?_⟩
      refine Classical.byContradiction fun hn0 => ?_
      obtain ⟨v, G1, h1, rfl, E2, y2⟩ := get_pend (B := B) (d := d) y (by omega)
      refine hn0 ?_
      clear hn0
      refine ⟨_, _, h1, ?_⟩
      have hr1 := E2.2 _ _ (fun h => by have := hlt _ (own_all h); omega) hr
      have E12 := E1.trans E2
      refine Classical.byContradiction fun hn0 => ?_
      obtain ⟨gm1, gc1, gc2, gc3⟩ := gw
      refine hn0 ?_
      clear hn0
      have hwl := wd_len w
      have e1 : ((w.2 : Int) - 1) = ((w.2 - 1 : Nat) : Int) := by omega
      refine XB.cons ?_
      refine XS.assign 4 ?_
      refine XE.bin ?_
      refine XE.slice ?_
      refine XE.lv 4 ?_
      refine XP.none ?_
      refine XP.some ?_
      refine XE.un ?_
      refine XE.int ?_
      refine ⟨_, _, .negI, ?_⟩
      refine ⟨_, rfl, ?_⟩
      refine .inr ⟨_, rfl, by rw [hwl, sizeLine_eq]; omega, ?_⟩
      refine XE.call ?_
      refine XE.bv "chr" ?_
      refine XEs.cons ?_
      refine XE.bin ?_
      refine XE.call ?_
      refine XE.bv "ord" ?_
      refine XEs.cons ?_
      refine XE.item ?_
      refine XE.lv 4 ?_
      refine XE.un ?_
      refine XE.int ?_
      refine ⟨_, _, .negI, ?_⟩
      refine ⟨_, _, .str (by rw [hwl]; exact seq_last (by omega)) (by rw [Nat.add_sub_cancel]; exact wd_last w) (by rw [hwl]; omega), ?_⟩
      refine XEs.nil ?_
      refine ⟨.bi, _, _, .ord, ?_⟩
      refine XE.int ?_
      refine ⟨_, _, .subI, ?_⟩
      rw [e1]
      refine XEs.nil ?_
      refine ⟨.bi, _, _, .chr (by omega), ?_⟩
      refine ⟨_, _, .addS (by rw [sizeLine_eq, wd_pk]; simp; omega), ?_⟩
      have e2 : pk (wd w) none (some (-1)) ++ [w.2 - 1] = wd (w.1, w.2 - 1) := by rw [wd_pk]; rfl
      rw [e2]
      refine Classical.byContradiction fun hn0 => ?_
      obtain ⟨tb, tcs, tn, ht1, ht2⟩ := told_wd (m := w.1) (c := w.2 - 1) (by omega)
      refine hn0 ?_
      clear hn0
      refine XB.cons ?_
      refine XS.assign 5 ?_
      refine XE.call ?_
      refine XE.gv 105 ?_
      refine XEs.cons ?_
      refine XE.lv 4 ?_
      refine XEs.nil ?_
      refine ⟨keep_fn, XC.call ?_⟩
      refine Classical.byContradiction fun hn0 => ?_
      obtain ⟨v, G2, h2, rfl, E3⟩ := told_spec (B := B) (d := d + 2) (H := G1) ht1 ht2 (by rw [wd_len]; show w.1 + 1 ≤ 1000; omega)
      refine hn0 ?_
      clear hn0
      refine ⟨_, _, h2, ?_⟩
      have y3 := y2.ext E3 (by simp)
      have hr2 := E3.2 _ _ (by simp) hr1
      have E13 := E12.trans (E3.wide (by simp))
      have e3 : (w.2 - 1) % 64 = w.2 % 64 - 1 := by omega
      rw [e3]
      refine XB.cons ?_
      refine XS.ifs ?_
      refine XT.cmp ?_
      refine XE.lv 5 ?_
      refine XE.int ?_
      refine ⟨_, _, .gtI, fun h => ?_, fun h => ?_⟩
      · have h' : 1 < w.2 % 64 := by
          have : (((w.2 % 64 - 1 : Nat) : Int) > 0) := by simpa using h
          omega
        have hrl := rowQ_len (q := q.take k) (row := [])
        have hrl2 : (rowQ [] (q.take k)).length ≤ 60 := by simp at hrl; omega
        refine XB.cons ?_
        refine XS.expr ?_
        refine XE.call ?_
        refine XE.gv 65 ?_
        refine XEs.cons ?_
        refine XE.lv 2 ?_
        refine XEs.cons ?_
        refine XE.lv 5 ?_
        refine XEs.nil ?_
        refine ⟨keep_fn, XC.call ?_⟩
        refine Classical.byContradiction fun hn0 => ?_
        obtain ⟨v, G3, h3, rfl, rfl⟩ := insort_spec (B := B) (d := d + 2) (x := ((w.2 % 64 - 1 : Nat) : Int)) hr2 (rowQ_sorted List.Pairwise.nil) (by omega)
        refine hn0 ?_
        clear hn0
        refine ⟨_, _, h3, ?_⟩
        have E4 : Ext [H.length] G2 (G2.set H.length (.list (intsOf (ins ((w.2 % 64 - 1 : Nat) : Int) (rowQ [] (q.take k)))))) := Ext.refl.set (.inl (by simp))
        have y4 := y3.ext E4 outRow
        have hr3 := gn (x := AO.list (intsOf (ins ((w.2 % 64 - 1 : Nat) : Int) (rowQ [] (q.take k))))) hr2
        have E14 : Ext L.own H (G2.set H.length (.list (intsOf (ins ((w.2 % 64 - 1 : Nat) : Int) (rowQ [] (q.take k)))))) := E13.set (.inr (Nat.le_refl _))
        generalize G2.set H.length (.list (intsOf (ins ((w.2 % 64 - 1 : Nat) : Int) (rowQ [] (q.take k))))) = G3 at y4 hr3 E14
        refine XB.cons ?_
        refine XS.expr ?_
        refine XE.meth ?_ (pl := _)
        refine XE.lv 0 ?_
        refine ⟨_, _, _, GetM.inst (g := 49) ⟨y4.lx, y4.dl⟩ (by kernel_rfl) (by kernel_rfl) (by kernel_rfl) (by kernel_rfl), ?_⟩
        refine XEs.cons ?_
        refine XE.lv 4 ?_
        refine XEs.nil ?_
        refine ⟨keep_fn, XC.call ?_⟩
        refine Classical.byContradiction fun hn0 => ?_
        obtain ⟨v, G4, h4, rfl, E5, y5⟩ := push_spec (B := B) (d := d + 3) (w := wd (w.1, w.2 - 1)) y4 (by omega)
        refine hn0 ?_
        clear hn0
        refine ⟨_, _, h4, XB.nil (XB.nil ⟨E14.trans E5, ?_, ?_, _, _, _, rfl⟩)⟩
        · rw [ht, rowQ_snoc, if_pos h']
          exact E5.2 _ _ (fun h => by have := hlt _ (own_all h); omega) hr3
        · rw [ht, lessQ_snoc, if_pos h']
          have e5 : (q.drop (k + 1) ++ (lessQ (q.take k) ++ [(w.1, w.2 - 1)])).map wd = (q.drop (k + 1) ++ lessQ (q.take k)).map wd ++ [wd (w.1, w.2 - 1)] := by simp
          rw [e5]; exact y5
      · have h' : ¬ 1 < w.2 % 64 := by
          have : ¬ (((w.2 % 64 - 1 : Nat) : Int) > 0) := by simpa using h
          omega
        refine XB.nil (XB.nil ⟨E13, ?_, ?_, _, _, _, rfl⟩)
        · rw [ht, rowQ_snoc, if_neg h']; exact hr2
        · rw [ht, lessQ_snoc, if_neg h']; exact y3
    · intro vars H' hh0
      refine Classical.byContradiction fun hn0 => ?_
      obtain ⟨E1, hr, y, a, b, c, rfl⟩ := hh0
      refine hn0 ?_
      clear hn0
      rw [List.take_length] at hr y
      rw [List.drop_length, List.nil_append] at y
      have hrl := rowQ_len (q := q) (row := [])
      have hrl2 : (rowQ [] q).length ≤ 60 := by simp at hrl; omega
      have hll := lessQ_len q
      refine XB.cons ?_
      refine XS.expr ?_
      refine XE.call ?_
      refine XE.gv 65 ?_
      refine XEs.cons ?_
      refine XE.lv 2 ?_
      refine XEs.cons ?_
      refine XE.lv 1 ?_
      refine XEs.nil ?_
      refine ⟨keep_fn, XC.call ?_⟩
      refine Classical.byContradiction fun hn0 => ?_
      obtain ⟨v, G3, h3, rfl, rfl⟩ := insort_spec (B := B) (d := d + 2) (x := (q.length : Int)) hr (rowQ_sorted List.Pairwise.nil) (by omega)
      refine hn0 ?_
      clear hn0
      refine ⟨_, _, h3, ?_⟩
      have E4 : Ext [H.length] H' (H'.set H.length (.list (intsOf (ins (q.length : Int) (rowQ [] q))))) := Ext.refl.set (.inl (by simp))
      have y4 := y.ext E4 outRow
      have hr3 := gn (x := AO.list (intsOf (ins (q.length : Int) (rowQ [] q)))) hr
      have E14 : Ext L.own H (H'.set H.length (.list (intsOf (ins (q.length : Int) (rowQ [] q))))) := E1.set (.inr (Nat.le_refl _))
      generalize H'.set H.length (.list (intsOf (ins (q.length : Int) (rowQ [] q)))) = G3 at y4 hr3 E14
      refine XB.cons ?_
      refine XS.expr ?_
      refine XE.meth ?_ (pl := _)
      refine XE.lv 0 ?_
      refine ⟨_, _, _, GetM.inst (g := 49) ⟨y4.lx, y4.dl⟩ (by kernel_rfl) (by kernel_rfl) (by kernel_rfl) (by kernel_rfl), ?_⟩
      refine XEs.cons ?_
      refine XE.call ?_
      refine XE.bv "chr" ?_
      refine XEs.cons ?_
      refine XE.lv 1 ?_
      refine XEs.nil ?_
      refine ⟨.bi, _, _, .chr (by omega), ?_⟩
      refine XEs.nil ?_
      refine ⟨keep_fn, XC.call ?_⟩
      refine Classical.byContradiction fun hn0 => ?_
      obtain ⟨v, G4, h4, rfl, E5, y5⟩ := push_spec (B := B) (d := d + 3) (w := [q.length]) y4 (by simp; omega)
      refine hn0 ?_
      clear hn0
      refine ⟨_, _, h4, ?_⟩
      refine XB.cons ?_
      refine XS.ret ?_
      refine XE.lv 2 ?_
      refine ⟨_, rfl, Nat.le_refl _, E5.2 _ _ (fun h => by have := hlt _ (own_all h); omega) hr3, ?_, E14.trans E5⟩
      have e5 : (dealQ q).map wd = (lessQ q).map wd ++ [[q.length]] := by simp [dealQ, wd]
      rw [e5]; exact y5
end Mine

/- part -/
namespace Mine
open PySem.Calls

theorem XL.rngMap {W : SW} {d : Nat} {fi : FI} {elt : PySem.Expr} {vars : List (Option AV)} {cl : List Nat} {H : List AO} {DL : List AV → List AO → Prop} {x : Str} {z : Int} {n : Nat} (i : Nat) (g : Nat → AV) (I : List (Option AV) → Prop)
    (hI2 : ∀ vars v, I vars → I (vars.set i (some v)))
    (hg : ∀ k, k < n → ∀ vars, I vars → XE W d fi elt (vars.set i (some (.int (z + k)))) cl H fun y H2 => y = g k ∧ H2 = H)
    (hz : n ≤ sizeLine) (hI : I vars) (hD : DL ((List.range n).map g) H)
    (hn : fi.ns[i]? = some x := by rfl) (hk : fi.kof x = some .local := by rfl) (hnd : fi.ns.Nodup := by decide +kernel) :
    XL W d fi elt x [] vars cl H (.rng z n) [] DL := by
  refine XL.pure i (vs := (List.range n).map fun (k : Nat) => AV.int (z + k)) (fun _ => true) (fun a => match a with | .int y => g (y - z).toNat | a => a) I (fun v hv vars hI => ⟨hI2 _ _ hI, XTs.nil ⟨rfl, rfl⟩⟩) (fun v hv _ vars hI => ?_) (by simpa using hz) rfl hI ?_ hn hk hnd
  · obtain ⟨k, hk, rfl⟩ := List.mem_map.mp hv
    have e : (z + (k : Int) - z).toNat = k := by omega
    show XE W d fi elt _ cl H fun y H2 => y = g (z + (k : Int) - z).toNat ∧ H2 = H
    rw [e]
    exact hg k (List.mem_range.mp hk) vars hI
  · rw [List.filter_eq_self.mpr (fun _ _ => rfl), List.map_map]
    have : ((fun a => match a with | .int y => g (y - z).toNat | a => a) ∘ fun (k : Nat) => AV.int (z + k)) = g := by
      funext k
      show g (z + (k : Int) - z).toNat = g k
      congr 1; omega
    rw [this]; exact hD
variable {p : Params} {B : Bs (K02 p)} {d : Nat} {H H1 H2 : List AO}

noncomputable def sizesOf (row : List Int) (steps : Nat) : List Int := List.replicate (steps - row.length) 0 ++ row
noncomputable def moreI (row : List Int) (steps : Nat) : List Int := (List.range steps).map fun k => (sizesOf row steps).getD k 0 - k
noncomputable def moreS (row : List Int) (steps : Nat) : List Nat :=
  if steps < row.length then [] else if (moreI row steps).filter (fun o => o != 0 && o != 1) = [] then (moreI row steps).map (fun o => if o = 0 then 97 else 98) else []
theorem intsOf_filter (p : Int → Bool) (q : AV → Bool) (h : ∀ z, q (.int z) = p z) (ns : List Int) : (intsOf ns).filter q = intsOf (ns.filter p) := by
  induction ns with
  | nil => rfl
  | cons n ns ih =>
    simp only [intsOf, List.map_cons, List.filter_cons, h] at ih ⊢
    rw [ih]; split <;> rfl
theorem more_spec {i : Nat} {row : List Int} {steps : Nat} (ho : H[i]? = some (.list (intsOf row))) (hs : steps ≤ 10) (hr : row.length ≤ 100) :
    XC B.W (d + 1) (.fn 124) [.loc i, .int steps] [] H fun v H' => v = .str (moreS row steps) ∧ Ext [] H H' := by
  refine XC.fn (bs := [("row", .loc i), ("steps", .int steps)]) (vars0 := [some (.loc i), some (.int steps), none]) (cl0 := [H.length]) (H0 := H ++ [.cell none]) ["row", "steps", "more"] (by rfl) (by kernel_rfl) ?_ (by kernel_rfl) (by kernel_rfl) (by decide +kernel) (by kernel_rfl) rfl rfl ?_
  · exact bind2 B.kin (fun _ _ _ => rfl)
  · have hlen := intsOf_len (ns := row)
    refine XB.cons ?_
    refine XS.ifs ?_
    refine XT.cmp ?_
    refine XE.call ?_
    refine XE.bv "len" ?_
    refine XEs.cons ?_
    refine XE.lv 0 ?_
    refine XEs.nil ?_
    refine ⟨.bi, _, _, CallV.lenL (ga ho) (by rw [hlen]; omega), ?_⟩
    refine XE.lv 1 ?_
    rw [hlen]
    refine ⟨_, _, .gtI, fun h => ?_, fun h => ?_⟩
    · have h' : steps < row.length := by have : ((row.length : Int) > steps) := by simpa using h
                                         omega
      refine XB.cons ?_
      refine XS.ret ?_
      refine XE.str [] ?_
      refine ⟨by unfold moreS; rw [if_pos h']; rfl, Ext.refl.app⟩
    · have h' : ¬ steps < row.length := by have : ¬ ((row.length : Int) > steps) := by simpa using h
                                           omega
      have e0 : ((steps : Int) - row.length) = ((steps - row.length : Nat) : Int) := by omega
      refine XB.nil ?_
      refine XB.cons ?_
      refine XS.assignC 0 (c := H.length) ?_
      refine XE.bin ?_
      refine XE.bin ?_
      refine XE.list ?_
      refine XEs.cons ?_
      refine XE.int ?_
      refine XEs.nil ?_
      refine ⟨by decide, ?_⟩
      refine XE.bin ?_
      refine XE.lv 1 ?_
      refine XE.call ?_
      refine XE.bv "len" ?_
      refine XEs.cons ?_
      refine XE.lv 0 ?_
      refine XEs.nil ?_
      refine ⟨.bi, _, _, CallV.lenL (ga (ga ho)) (by rw [hlen]; omega), ?_⟩
      rw [hlen]
      refine ⟨_, _, .subI, ?_⟩
      rw [e0]
      refine ⟨_, _, .mulL gl (by omega) (by omega), ?_⟩
      refine XE.lv 0 ?_
      refine ⟨_, _, .addL gl (ga (ga (ga ho))) (by rw [hlen, List.length_replicate, sizeLine_eq]; omega), ?_⟩
      refine ⟨⟨_, ga (ga (ga gl))⟩, ?_⟩
      have e1 : List.replicate (((steps - row.length : Nat) : Int)).toNat (AV.int 0) ++ intsOf row = intsOf (sizesOf row steps) := by
        rw [Int.toNat_natCast]; simp [intsOf, sizesOf]
      rw [e1]
      have hsl : (sizesOf row steps).length = steps := by unfold sizesOf; rw [List.length_append, List.length_replicate]; omega
      generalize hSL : (H ++ [AO.cell none] ++ [AO.list [AV.int 0]] ++ [AO.list (List.replicate (((steps - row.length : Nat) : Int)).toNat (AV.int 0))]).length = sl
      have hs1 : (H ++ [AO.cell none] ++ [AO.list [AV.int 0]] ++ [AO.list (List.replicate (((steps - row.length : Nat) : Int)).toNat (AV.int 0))] ++ [AO.list (intsOf (sizesOf row steps))])[sl]? = some (.list (intsOf (sizesOf row steps))) := by rw [← hSL]; exact gl
      have hsln : H.length ≠ sl := by rw [← hSL]; simp only [List.length_append, List.length_cons, List.length_nil]; omega
      have hs2 := gs (x := AO.cell (some (.loc sl))) hsln hs1
      have hc2 : ((H ++ [AO.cell none] ++ [AO.list [AV.int 0]] ++ [AO.list (List.replicate (((steps - row.length : Nat) : Int)).toNat (AV.int 0))] ++ [AO.list (intsOf (sizesOf row steps))]).set H.length (.cell (some (.loc sl))))[H.length]? = some (.cell (some (.loc sl))) := gn (ga (ga (ga gl)))
      have E2 : Ext [] H ((H ++ [AO.cell none] ++ [AO.list [AV.int 0]] ++ [AO.list (List.replicate (((steps - row.length : Nat) : Int)).toNat (AV.int 0))] ++ [AO.list (intsOf (sizesOf row steps))]).set H.length (.cell (some (.loc sl)))) := Ext.refl.app.app.app.app.set (.inr (Nat.le_refl _))
      generalize (H ++ [AO.cell none] ++ [AO.list [AV.int 0]] ++ [AO.list (List.replicate (((steps - row.length : Nat) : Int)).toNat (AV.int 0))] ++ [AO.list (intsOf (sizesOf row steps))]).set H.length (.cell (some (.loc sl))) = G at hs2 hc2 E2
      clear hs1 hSL hsln
      -- more
      refine XB.cons ?_
      refine XS.compL 2 ["place"] [H.length] ?_ (by intro j y h; cases j with | zero => cases h; exact ⟨0, _, rfl, rfl, rfl⟩ | succ j => cases h)
      refine XE.call ?_
      refine XE.ty "range" ?_
      refine XEs.cons ?_
      refine XE.lv 1 ?_
      refine XEs.nil ?_
      refine ⟨.ty, _, _, CallV.range1, ?_⟩
      refine ⟨_, IterV.rng gl (by decide) (by decide) (by omega) (by omega), rfl, ?_⟩
      have e2 : ((steps : Int) - 0).toNat = steps := by omega
      rw [e2]
      refine XL.rngMap 0 (fun k => AV.int ((sizesOf row steps).getD k 0 - k)) (fun vars => vars.length = 1) (fun vars v h => by simpa using h) (fun k hk vars hI => ?_) (by rw [sizeLine_eq]; omega) rfl ?_
      · obtain ⟨m, rfl⟩ : ∃ m, vars = [m] := by cases vars with | nil => cases hI | cons m t => cases t with | nil => exact ⟨m, rfl⟩ | cons => cases hI
        rw [Int.zero_add]
        have hgk : (sizesOf row steps)[k]? = some ((sizesOf row steps).getD k 0) := by rw [List.getD_eq_getElem?_getD, List.getElem?_eq_getElem (by omega)]; rfl
        refine XE.bin ?_
        refine XE.item ?_
        refine XE.cv 0 (ga hc2) ?_
        refine XE.lv 0 ?_
        refine ⟨_, _, .list (ga hs2) (seq_nat (by rw [intsOf_len]; omega)) (intsOf_get hgk) (by rw [intsOf_len]; omega), ?_⟩
        refine XE.lv 0 ?_
        refine ⟨_, _, .subI, rfl, rfl⟩
      have e3 : (List.range steps).map (fun k => AV.int ((sizesOf row steps).getD k 0 - k)) = intsOf (moreI row steps) := by simp [intsOf, moreI]
      rw [e3]
      dsimp only [CompLK]
      have E3 : Ext [] H (G ++ [.rng 0 steps] ++ [.list (intsOf (moreI row steps))]) := E2.app.app
      have hm : (G ++ [AO.rng 0 steps] ++ [AO.list (intsOf (moreI row steps))])[(G ++ [AO.rng 0 (steps : Int)]).length]? = some (.list (intsOf (moreI row steps))) := gl
      generalize (G ++ [AO.rng 0 (steps : Int)]).length = ml at hm
      generalize G ++ [AO.rng 0 (steps : Int)] ++ [AO.list (intsOf (moreI row steps))] = G3 at hm E3
      have hml : (moreI row steps).length ≤ 10 := by unfold moreI; rw [List.length_map, List.length_range]; exact hs
      have vlen : ∀ vars : List (Option AV), vars.length = 1 → ∃ m, vars = [m] := fun vars hI => by cases vars with | nil => cases hI | cons m t => cases t with | nil => exact ⟨m, rfl⟩ | cons => cases hI
      refine XB.cons ?_
      refine XS.ifs ?_
      refine XT.cmp ?_
      refine XE.comp ["one"] [] ?_ (fun j y h => by cases j <;> cases h)
      refine XE.lv 2 ?_
      refine ⟨_, IterV.list hm, rfl, ?_⟩
      refine XL.pure 0 (vs := intsOf (moreI row steps)) (fun v => match v with | .int z => z != 0 && z != 1 | _ => false) id (fun vars => vars.length = 1) (fun v hv vars hI => ⟨by simpa using hI, ?_⟩) (fun v hv _ vars hI => ?_) (by rw [intsOf_len, sizeLine_eq]; omega) ⟨_, hm, rfl⟩ rfl ?_
      · obtain ⟨z, _, rfl⟩ := List.mem_map.mp hv
        obtain ⟨m, rfl⟩ := vlen vars hI
        refine XTs.one (XT.boolop (XA.and (XT.cmp (XE.lv 0 (XE.int ⟨_, _, .neI, fun h => ?_, fun h => ?_⟩)))))
        · refine XA.and (XT.cmp (XE.lv 0 (XE.int ⟨_, _, .neI, fun h2 => XA.andNil ⟨?_, rfl⟩, fun h2 => ⟨?_, rfl⟩⟩)))
          · show true = (z != 0 && z != 1); rw [h, h2]; rfl
          · show false = (z != 0 && z != 1); rw [h2, Bool.and_false]
        · refine ⟨?_, rfl⟩
          show false = (z != 0 && z != 1); rw [h]; rfl
      · obtain ⟨m, rfl⟩ := vlen vars hI
        exact XE.lv 0 ⟨rfl, rfl⟩
      rw [List.map_id, intsOf_filter (fun z => z != 0 && z != 1) _ (fun z => rfl)]
      refine XE.list ?_
      refine XEs.nil ?_
      refine ⟨by decide, ?_⟩
      refine ⟨_, _, .neD (.list (ga gl) DatL.ints) (.list (ds := []) gl .nil) (by simpa [PyData.canLay0] using canLay_ints _) rfl (by simp [PyData.depth, depth_ints]), fun h => ?_, fun h => ?_⟩
      · have hne : ¬ (moreI row steps).filter (fun z => z != 0 && z != 1) = [] := by
          have := eqv_ints ((moreI row steps).filter (fun z => z != 0 && z != 1)) []
          rw [List.map_nil] at this
          rw [this] at h
          simpa using h
        refine XB.cons ?_
        refine XS.ret ?_
        refine XE.str [] ?_
        refine ⟨by unfold moreS; rw [if_neg h', if_neg hne]; rfl, E3.app.app⟩
      · have he : (moreI row steps).filter (fun z => z != 0 && z != 1) = [] := by
          have := eqv_ints ((moreI row steps).filter (fun z => z != 0 && z != 1)) []
          rw [List.map_nil] at this
          rw [this] at h
          simpa using h
        refine XB.nil ?_
        refine XB.cons ?_
        refine XS.ret ?_
        refine XE.meth ?_ (pl := _)
        refine XE.str [] ?_
        refine ⟨_, _, _, GetM.str PySem.F.slot_str_join (by kernel_rfl), ?_⟩
        refine XEs.cons ?_
        refine XE.comp ["one"] [] ?_ (fun j y h => by cases j <;> cases h)
        refine XE.lv 2 ?_
        refine ⟨_, IterV.list (ga (ga hm)), rfl, ?_⟩
        refine XL.pure 0 (vs := intsOf (moreI row steps)) (fun _ => true) (fun v => match v with | .int z => .str [if z = 0 then 97 else 98] | a => a) (fun vars => vars.length = 1) (fun v hv vars hI => ⟨by simpa using hI, XTs.nil ⟨rfl, rfl⟩⟩) (fun v hv _ vars hI => ?_) (by rw [intsOf_len, sizeLine_eq]; omega) ⟨_, ga (ga hm), rfl⟩ rfl ?_
        · obtain ⟨z, hz, rfl⟩ := List.mem_map.mp hv
          obtain ⟨m, rfl⟩ := vlen vars hI
          have hz01 : z = 0 ∨ z = 1 := by
            have := List.filter_eq_nil_iff.mp he z hz
            simp at this
            by_cases h0 : z = 0
            · exact .inl h0
            · exact .inr (this h0)
          rcases hz01 with rfl | rfl
          · refine XE.item ?_
            refine XE.str [97, 98] ?_
            refine XE.lv 0 ?_
            refine ⟨_, _, .str (j := 0) (by rfl) rfl (by decide), rfl, rfl⟩
          · refine XE.item ?_
            refine XE.str [97, 98] ?_
            refine XE.lv 0 ?_
            refine ⟨_, _, .str (j := 1) (by rfl) rfl (by decide), rfl, rfl⟩
        rw [List.filter_eq_self.mpr (fun _ _ => rfl)]
        have e5 : (intsOf (moreI row steps)).map (fun v => match v with | .int z => AV.str [if z = 0 then 97 else 98] | a => a) = strsOf ((moreI row steps).map fun z => [if z = 0 then 97 else 98]) := by simp [intsOf, List.map_map, Function.comp_def]
        rw [e5]
        have e6 : ((moreI row steps).map fun z => [if z = 0 then 97 else 98]).flatten = (moreI row steps).map (fun o => if o = 0 then 97 else 98) := by
          induction moreI row steps with
          | nil => rfl
          | cons z l ih => simp only [List.map_cons, List.flatten_cons, ih]; rfl
        refine XEs.nil ?_
        refine ⟨.bi, _, _, CallV.join0 gl (by rw [e6, List.length_map]; omega), ?_⟩
        refine ⟨?_, E3.app.app.app⟩
        rw [e6]; unfold moreS; rw [if_neg h', if_pos he]; rfl
end Mine

/- part -/
namespace Mine
open PySem.Calls

/- what is written is read -/
theorem qT_plain {w r : List Nat} (hw : ∀ c ∈ w, c ≠ 34 ∧ c ≠ 92) : ∀ acc, qT false acc (w ++ 34 :: r) = some (acc ++ w, r) := by
  induction w with
  | nil => intro acc; simp [qT]
  | cons c w ih =>
    intro acc
    have := hw c (.head _)
    rw [List.cons_append, qT, if_neg this.1, if_neg this.2, ih fun c hc => hw c (.tail _ hc)]
    simp
theorem bT_esc {w r : List Nat} : ∀ acc, bT false acc ((w.map fun c => [92, c]).flatten ++ 10 :: r) = some (acc ++ w, r) := by
  induction w with
  | nil => intro acc; simp only [List.map_nil, List.flatten_nil, List.nil_append, List.append_nil]; rw [bT, if_pos (by decide)]
  | cons c w ih =>
    intro acc
    simp only [List.map_cons, List.flatten_cons, List.cons_append, List.nil_append, List.append_assoc]
    rw [bT, if_neg (by decide), if_pos rfl, bT, ih]
    simp
noncomputable def restAt (k : Nat) (ws : List (List Nat)) : List Nat := (if k % 2 = 1 then [10] else []) ++ wr k (ws.drop k)
theorem tok_at {k : Nat} {ws : List (List Nat)} {w : List Nat} (h : ws[k]? = some w) (hne : w ≠ []) (hw : k % 2 = 0 → ∀ c ∈ w, c ≠ 34 ∧ c ≠ 92) : tok (restAt k ws) = some (w, restAt (k + 1) ws) := by
  unfold restAt
  rw [wr_step h]
  by_cases hk : k % 2 = 0
  · rw [if_neg (by omega), if_pos (by omega)]
    have e : enc k w = 34 :: (w ++ [34, 10]) := by unfold enc; rw [if_pos hk]
    rw [e]
    simp only [List.nil_append, List.cons_append, List.append_assoc]
    rw [tok, if_neg (by decide), if_pos rfl, qT_plain (hw hk)]
    simp
  · rw [if_pos (by omega), if_neg (by omega)]
    have e : enc k w = (w.map fun c => [92, c]).flatten ++ [10] := by unfold enc; rw [if_neg hk]
    rw [e]
    cases w with
    | nil => exact absurd rfl hne
    | cons c w =>
      simp only [List.map_cons, List.flatten_cons, List.cons_append, List.nil_append, List.append_assoc]
      rw [tok, if_pos (by decide), tok, if_neg (by decide), if_neg (by decide), if_pos rfl, bT, bT_esc]
      simp
theorem tok_end (ws : List (List Nat)) : tok (restAt ws.length ws) = some ([], []) := by
  unfold restAt
  rw [List.drop_length, wr]
  by_cases h : ws.length % 2 = 1
  · rw [if_pos h]; decide
  · rw [if_neg h]; rfl
theorem restAt_len (k : Nat) (ws : List (List Nat)) : (restAt k ws).length ≤ (wr k (ws.drop k)).length + 1 := by
  unfold restAt
  split <;> simp <;> omega
theorem wr_drop_len : ∀ (k j : Nat) (ws : List (List Nat)), (wr (j + k) (ws.drop k)).length ≤ (wr j ws).length
  | 0, j, ws => by simp
  | k + 1, j, [] => by simp [wr]
  | k + 1, j, w :: ws => by
    have := wr_drop_len k (j + 1) ws
    rw [show j + 1 + k = j + (k + 1) by omega] at this
    simp only [List.drop_succ_cons, wr, List.length_append]; omega

theorem OpV.mulS {W : SW} {H : List AO} {c n : Nat} (h : n ≤ 2) : OpV W (binaryOp .Mult) (.str [c]) (.int n) H (.str (List.replicate n c)) H := by
  intro A ρ s X Y Q E rm sr hx hy K
  have : n = 0 ∨ n = 1 ∨ n = 2 := by omega
  rcases this with rfl | rfl | rfl
  · cases hx; cases hy
    exact P.mul_str_none (by decide) (by decide) (K ρ _ _ _ (.refl sr) (.str [] _))
  · cases hx; cases hy
    refine P.mul_str (by decide) (fun _ h => by cases h) (fun _ h => by cases h) ?_
    rw [if_neg (by decide), if_pos (by rfl)]
    exact K ρ _ _ s.toks (.refl sr) (.str [c] _)
  · cases hx; cases hy
    refine P.mul_str (by decide) (fun _ _ => by show ¬ ((1 : Int) > _); decide) (fun _ _ => by show Builtin.Str.tooLong 2 = false; decide) ?_
    rw [if_neg (by decide), if_neg (show ¬ (((2 : Nat) : Int) == 1 || Str.length ⟨#[c]⟩ == 0) = true from Bool.false_ne_true)]
    exact ⟨by show 2 ≤ sizeLine; decide, K ρ _ _ _ (.refl sr) (.str [c, c] _)⟩
end Mine

/- part -/
namespace Mine
open PySem.Calls
variable {p : Params} {B : Bs (K02 p)} {d : Nat} {H H1 H2 : List AO} {L : LX} {line : Int} {rest : List Nat}

noncomputable def wp (piles : List Nat) (k : Nat) : WP := (k % 3, piles.getD k 0 + 128 * (k % 2))
noncomputable def wps (piles : List Nat) : List WP := (List.range piles.length).map (wp piles)
noncomputable def row0 (row : List Int) : List WP → List Int
  | [] => row
  | x :: q => row0 (ins ((x.2 % 64 : Nat) : Int) row) q
noncomputable def rowsGo (steps : Nat) : Nat → List WP → List (List Int) → List Int → List WP × List (List Int) × List Int
  | 0, q, rows, last => (q, rows, last)
  | f + 1, q, rows, last => if moreS last steps = [] then rowsGo steps f (dealQ q) (rows ++ [last]) (dealRow q) else (q, rows, last)
noncomputable def rowsMore : Nat → List WP → List (List Int) → List Int → List WP × List (List Int) × List Int
  | 0, q, rows, last => (q, rows, last)
  | f + 1, q, rows, last => rowsMore f (dealQ q) (rows ++ [last]) (dealRow q)
noncomputable def rowsAll (piles : List Nat) (steps : Nat) : List (List Int) :=
  let a := rowsGo steps 42 (wps piles) [] (row0 [] (wps piles))
  let b := rowsMore steps a.1 a.2.1 a.2.2
  b.2.1 ++ [b.2.2] ++ [b.1.map fun x => ((x.2 % 64 : Nat) : Int)]

structure RowsAt (H : List AO) (out : List Nat) (rl : Nat) (js : List Nat) (rows : List (List Int)) : Prop where
  at_ : H[rl]? = some (.list (js.map AV.loc))
  len : js.length = rows.length
  row : ∀ (k j : Nat) (row : List Int), js[k]? = some j → rows[k]? = some row → H[j]? = some (.list (intsOf row))
  o1 : rl ∉ out
  o2 : ∀ j ∈ js, j ∉ out
  ne : rl ∉ js
theorem RowsAt.ext {out S js : List Nat} {rl : Nat} {rows : List (List Int)} (x : RowsAt H out rl js rows) (e : Ext S H H1) (hS : ∀ i ∈ S, i ∈ out) : RowsAt H1 out rl js rows :=
  ⟨e.2 _ _ (fun h => x.o1 (hS _ h)) x.at_, x.len, fun k j row h1 h2 => e.2 _ _ (fun h => x.o2 j (List.mem_of_getElem? h1) (hS _ h)) (x.row k j row h1 h2), x.o1, x.o2, x.ne⟩
theorem RowsAt.push {out js : List Nat} {rl j : Nat} {rows : List (List Int)} {row : List Int} (x : RowsAt H out rl js rows) (hj : H[j]? = some (.list (intsOf row))) (h1 : j ∉ out) (h2 : j ≠ rl) :
    RowsAt (H.set rl (.list (js.map AV.loc ++ [.loc j]))) out rl (js ++ [j]) (rows ++ [row]) := by
  refine ⟨by rw [gn x.at_]; simp, by simp [x.len], fun k i r hk hr => ?_, x.o1, fun i hi => ?_, fun h => ?_⟩
  · have hi : i ≠ rl := fun q => by
      subst q
      rcases List.mem_append.mp (List.mem_of_getElem? hk) with h | h
      · exact x.ne h
      · rw [List.mem_singleton] at h; exact h2 h.symm
    refine gs (fun q => hi q.symm) ?_
    by_cases hlt : k < js.length
    · rw [List.getElem?_append_left hlt] at hk
      rw [List.getElem?_append_left (by rw [← x.len]; exact hlt)] at hr
      exact x.row k i r hk hr
    · rw [List.getElem?_append_right (by omega)] at hk
      rw [List.getElem?_append_right (by rw [← x.len]; omega)] at hr
      have e1 := List.mem_of_getElem? hk
      have e2 := List.mem_of_getElem? hr
      rw [List.mem_singleton] at e1 e2
      subst e1; subst e2; exact hj
  · rcases List.mem_append.mp hi with h | h
    · exact x.o2 i h
    · rw [List.mem_singleton] at h; subst h; exact h1
  · rcases List.mem_append.mp h with h | h
    · exact x.ne h
    · rw [List.mem_singleton] at h; exact h2 h.symm
theorem good_deal {q : List WP} (hg : ∀ y ∈ q, Good y) (h1 : 1 ≤ q.length) (h2 : q.length ≤ 60) : ∀ y ∈ dealQ q, Good y := by
  intro y hy
  rcases List.mem_append.mp hy with h | h
  · have key : ∀ (q : List WP), (∀ y ∈ q, Good y) → ∀ y ∈ lessQ q, Good y := by
      intro q
      induction q with
      | nil => intro _ y h; cases h
      | cons x q ih =>
        intro hg y hy
        have gx := hg x (.head _)
        unfold lessQ at hy
        split at hy
        · rename_i hx
          rcases List.mem_cons.mp hy with rfl | hy
          · obtain ⟨a, b, c, e⟩ := gx
            exact ⟨a, by show 1 ≤ (x.2 - 1) % 64; omega, by show (x.2 - 1) % 128 < 64; omega, by show x.2 - 1 < 256; omega⟩
          · exact ih (fun y hy => hg y (.tail _ hy)) y hy
        · exact ih (fun y hy => hg y (.tail _ hy)) y hy
    exact key q hg y h
  · rw [List.mem_singleton] at h; subst h
    exact ⟨Nat.zero_le _, by show 1 ≤ q.length % 64; omega, by show q.length % 128 < 64; omega, by show q.length < 256; omega⟩
theorem dealQ_len (q : List WP) : 1 ≤ (dealQ q).length ∧ (dealQ q).length ≤ q.length + 1 := by
  have := lessQ_len q
  unfold dealQ
  simp; omega
end Mine

/- part -/
namespace Mine
open PySem.Calls
variable {p : Params} {B : Bs (K02 p)} {d : Nat} {H H1 H2 : List AO} {L : LX} {line : Int} {rest : List Nat}

theorem one_var {vars : List (Option AV)} (hI : vars.length = 1) : ∃ m, vars = [m] := by cases vars with | nil => cases hI | cons m t => cases t with | nil => exact ⟨m, rfl⟩ | cons => cases hI
noncomputable def PileOk (piles : List Nat) : Prop := 1 ≤ piles.length ∧ piles.length ≤ 10 ∧ ∀ y ∈ piles, 1 ≤ y ∧ y ≤ 10
theorem wps_get {piles : List Nat} {k : Nat} (h : k < piles.length) : (wps piles)[k]? = some (wp piles k) := by
  unfold wps; rw [List.getElem?_map, List.getElem?_range h]; rfl
theorem wps_len (piles : List Nat) : (wps piles).length = piles.length := by simp [wps]
theorem pile_get {piles : List Nat} (hp : PileOk piles) {k : Nat} (h : k < piles.length) : 1 ≤ piles.getD k 0 ∧ piles.getD k 0 ≤ 10 := by
  rw [List.getD_eq_getElem?_getD, List.getElem?_eq_getElem h]
  exact hp.2.2 _ (List.getElem_mem h)
theorem wps_good {piles : List Nat} (hp : PileOk piles) : ∀ y ∈ wps piles, Good y := by
  intro y hy
  unfold wps at hy
  refine Classical.byContradiction fun hn0 => ?_
  obtain ⟨k, hk, rfl⟩ := List.mem_map.mp hy
  refine hn0 ?_
  clear hn0
  have := pile_get hp (List.mem_range.mp hk)
  have h3 : k % 3 < 3 := Nat.mod_lt _ (by decide)
  have h2 : k % 2 < 2 := Nat.mod_lt _ (by decide)
  refine ⟨by show k % 3 ≤ 2; omega, ?_, ?_, ?_⟩
  · show 1 ≤ (piles.getD k 0 + 128 * (k % 2)) % 64; omega
  · show (piles.getD k 0 + 128 * (k % 2)) % 128 < 64; omega
  · show piles.getD k 0 + 128 * (k % 2) < 256; omega
theorem wps_plain {piles : List Nat} (hp : PileOk piles) {k : Nat} (h : k < piles.length) (hk : k % 2 = 0) : ∀ c ∈ wd (wp piles k), c ≠ 34 ∧ c ≠ 92 := by
  intro c hc
  have := pile_get hp h
  unfold wd at hc
  rcases List.mem_append.mp hc with h | h
  · rw [(List.mem_replicate.mp h).2]; decide
  · rw [List.mem_singleton] at h; subst h
    show piles.getD k 0 + 128 * (k % 2) ≠ 34 ∧ piles.getD k 0 + 128 * (k % 2) ≠ 92
    omega
theorem wr_bound : ∀ (ws : List (List Nat)) (j m : Nat), (∀ w ∈ ws, w.length ≤ m) → (wr j ws).length ≤ ws.length * (2 * m + 3)
  | [], _, _, _ => by simp [wr]
  | w :: ws, j, m, h => by
    have h1 := enc_len j w
    have h2 := h w (.head _)
    have h3 := wr_bound ws (j + 1) m fun w hw => h w (.tail _ hw)
    simp only [wr, List.length_append, List.length_cons, Nat.add_mul]
    omega
theorem nat_mod3 (k : Nat) : ((k : Int).fmod 3) = ((k % 3 : Nat) : Int) := by rw [Int.fmod_eq_emod_of_nonneg _ (by decide)]; omega
theorem nat_mod2 (k : Nat) : ((k : Int).fmod 2) = ((k % 2 : Nat) : Int) := by rw [Int.fmod_eq_emod_of_nonneg _ (by decide)]; omega

theorem row0_snoc (q : List WP) (x : WP) (row : List Int) : row0 row (q ++ [x]) = ins ((x.2 % 64 : Nat) : Int) (row0 row q) := by
  induction q generalizing row with
  | nil => rfl
  | cons y q ih => simp only [List.cons_append, row0]; exact ih _
theorem row0_sorted {q : List WP} {row : List Int} (h : row.Pairwise (· ≤ ·)) : (row0 row q).Pairwise (· ≤ ·) := by
  induction q generalizing row with
  | nil => exact h
  | cons y q ih => exact ih (ins_sorted h)
theorem row0_len (q : List WP) (row : List Int) : (row0 row q).length = row.length + q.length := by
  induction q generalizing row with
  | nil => rfl
  | cons y q ih => rw [row0, ih, ins_len]; simp; omega
theorem rowQ_len2 (q : List WP) (row : List Int) : (rowQ row q).length = row.length + (lessQ q).length := by
  induction q generalizing row with
  | nil => rfl
  | cons y q ih =>
    unfold rowQ lessQ
    split
    · rw [ih, ins_len]; simp; omega
    · exact ih row
theorem dealRow_len (q : List WP) : (dealRow q).length = (dealQ q).length := by
  unfold dealRow dealQ
  rw [ins_len, rowQ_len2]; simp
theorem locs_get {js : List Nat} {j : Nat} : ((js ++ [j]).map AV.loc)[js.length]? = some (.loc j) := by simp
theorem TabOk.ext {K : Frag} {t : Nat} {S : List Nat} (x : TabOk K t H) (e : Ext S H H1) (h1 : t ∉ S) (h2 : ∀ (i : Nat) (q : Str), i ∈ S → H[i]? ≠ some (.code q)) : TabOk K t H1 := by
  refine Classical.byContradiction fun hn0 => ?_
  obtain ⟨es, a1, a2⟩ := x
  refine hn0 ?_
  clear hn0
  exact ⟨es, e.2 _ _ h1 a1, fun a b s q j ha hj => e.2 _ _ (fun h => h2 j _ h (a2 a b s q j ha hj)) (a2 a b s q j ha hj)⟩
theorem own_code {K : Frag} {pend : List (List Nat)} (x : Lex K L H line pend rest) : ∀ (i : Nat) (q : Str), i ∈ L.own → H[i]? ≠ some (.code q) := by
  intro i q hi h
  simp only [LX.own, List.mem_cons, List.not_mem_nil, or_false] at hi
  rcases hi with rfl | rfl | rfl
  · rw [x.dl] at h; cases h
  · rw [x.sg] at h; cases h
  · rw [x.pb] at h; cases h
inductive RI (K : Frag) (L : LX) (st wl rd rw rl : Nat) (u : Option AV) (line : Int) (G0 : List AO) (X : List WP → List (List Int) → List Int → Prop) (vars : List (Option AV)) (G : List AO) : Prop
  | mk (q : List WP) (rows : List (List Int)) (last : List Int) (js : List Nat) (jl : Nat) (u2 : Option AV) (hv : vars = [some (.int st), some (.loc wl), some (.loc rd), some (.loc rw), u, some (.loc rl), u2])
      (R : RowsAt G L.all rl (js ++ [jl]) (rows ++ [last])) (lex : Lex K L G line (q.map wd) []) (gq : ∀ y ∈ q, Good y) (q1 : 1 ≤ q.length) (ql : last.length = q.length) (hX : X q rows last) (E : Ext L.own G0 G) : RI K L st wl rd rw rl u line G0 X vars G
inductive CI1 (K : Frag) (L : LX) (wl : Nat) (ws : List (List Nat)) (G0 : List AO) (n : Nat) (vars : List (Option AV)) (G : List AO) (it : It) (outs : List AV) : Prop
  | mk (k : Nat) (line : Int) (u : Option AV) (hv : vars = [u]) (hi : it = .list wl k) (hk : k ≤ ws.length) (ho : outs = strsOf (ws.take k)) (hn : n = ws.length - k) (E : Ext L.own G0 G) (lex : Lex K L G line [] (restAt k ws)) : CI1 K L wl ws G0 n vars G it outs
inductive CI2 (K : Frag) (L : LX) (jl : Nat) (line : Int) (q : List WP) (G0 : List AO) (n : Nat) (vars : List (Option AV)) (G : List AO) (it : It) (outs : List AV) : Prop
  | mk (k : Nat) (u : Option AV) (hv : vars = [u]) (hi : it = .list jl k) (hk : k ≤ q.length) (ho : outs = intsOf ((q.take k).map fun x => ((x.2 % 64 : Nat) : Int))) (hn : n = q.length - k) (E : Ext L.own G0 G) (lex : Lex K L G line ((q.drop k).map wd) []) : CI2 K L jl line q G0 n vars G it outs
inductive FI1 (K : Frag) (L : LX) (st wl rd rw : Nat) (line : Int) (q : List WP) (G0 : List AO) (vars : List (Option AV)) (G : List AO) : Prop
  | mk (E : Ext L.own G0 G) (hrow : G[rw]? = some (.list (intsOf (row0 [] q)))) (lex : Lex K L G line (q.map wd) []) (u : Option AV) (hv : vars = [some (.int st), some (.loc wl), some (.loc rd), some (.loc rw), u, none, none]) : FI1 K L st wl rd rw line q G0 vars G
theorem rows_spec {i t steps : Nat} {piles : List Nat} (C : CodeHd B.h₀ 94 90) (hT : TabOk (K02 p) t H) (ho : H[i]? = some (.list (natsOf piles))) (hp : PileOk piles) (hs : steps ≤ 4) :
    XC B.W (d + 6) (.fn 129) [.loc i, .int steps] [] H fun v H' => ∃ (rl : Nat) (js : List Nat), v = .loc rl ∧ RowsAt H' [] rl js (rowsAll piles steps) ∧ TabOk (K02 p) t H' ∧ Ext [t] H H' := by
  have hnl := natsOf_len piles
  refine Classical.byContradiction fun hn0 => ?_
  obtain ⟨p1, p2, p3⟩ := id hp
  refine hn0 ?_
  clear hn0
  refine XC.fn (bs := [("piles", .loc i), ("steps", .int steps)]) (vars0 := [some (.int steps), none, none, none, none, none, none]) (cl0 := [H.length, H.length + 1]) (H0 := H ++ [.cell (some (.loc i)), .cell none]) ["steps", "words", "read", "row", "word", "rows", "step"] (by rfl) (by kernel_rfl) ?_ (by kernel_rfl) (by kernel_rfl) (by decide +kernel) (by kernel_rfl) rfl rfl ?_
  · exact bind2 B.kin (fun _ _ _ => rfl)
  · have htl : t < H.length := by obtain ⟨es, h, _⟩ := hT; exact (List.getElem?_eq_some_iff.mp h).1
    have hc0 : (H ++ [AO.cell (some (.loc i)), AO.cell none])[H.length]? = some (.cell (some (.loc i))) := by simp
    have hc1 : (H ++ [AO.cell (some (.loc i)), AO.cell none])[H.length + 1]? = some (.cell none) := by simp
    have ho0 : (H ++ [AO.cell (some (.loc i)), AO.cell none])[i]? = some (.list (natsOf piles)) := ga ho
    have E0 : Ext [] H (H ++ [AO.cell (some (.loc i)), AO.cell none]) := Ext.refl.app
    generalize H ++ [AO.cell (some (.loc i)), AO.cell none] = G at hc0 hc1 ho0 E0
    refine XB.cons ?_
    refine XS.compL 1 ["k"] [H.length] ?_ (by intro j y h; cases j with | zero => cases h; exact ⟨0, _, rfl, rfl, rfl⟩ | succ j => cases h)
    refine XE.call ?_
    refine XE.ty "range" ?_
    refine XEs.cons ?_
    refine XE.call ?_
    refine XE.bv "len" ?_
    refine XEs.cons ?_
    refine XE.cv 0 hc0 ?_
    refine XEs.nil ?_
    first | refine exK .bi (CallV.lenL ho0 (by rw [hnl]; omega)) ?_ | refine exN .bi (CallV.lenL ho0 (by rw [hnl]; omega)) ?_ | refine ⟨.bi, _, _, CallV.lenL ho0 (by rw [hnl]; omega), ?_⟩
    refine XEs.nil ?_
    first | refine exK .ty CallV.range1 ?_ | refine exN .ty CallV.range1 ?_ | refine ⟨.ty, _, _, CallV.range1, ?_⟩
    first | refine exI (IterV.rng gl (by decide) (by decide) (by omega) (by omega)) rfl ?_ | refine ⟨_, IterV.rng gl (by decide) (by decide) (by omega) (by omega), rfl, ?_⟩
    rw [hnl]
    have e1 : ((piles.length : Int) - 0).toNat = piles.length := by omega
    rw [e1]
    refine XL.rngMap 0 (fun k => AV.str (wd (wp piles k))) (fun vars => vars.length = 1) (fun vars v h => by simpa using h) (fun k hk vars hI => ?_) (by rw [sizeLine_eq]; omega) rfl ?_
    · refine Classical.byContradiction fun hn0 => ?_
      obtain ⟨m, rfl⟩ := one_var hI
      refine hn0 ?_
      clear hn0
      rw [Int.zero_add]
      have hpk := pile_get hp hk
      have hgk : (natsOf piles)[k]? = some (.int (piles.getD k 0 : Nat)) := by
        unfold natsOf; rw [List.getElem?_map, List.getD_eq_getElem?_getD, List.getElem?_eq_getElem hk]; rfl
      have h3 : k % 3 < 3 := Nat.mod_lt _ (by decide)
      have h2 : k % 2 < 2 := Nat.mod_lt _ (by decide)
      refine XE.bin ?_
      refine XE.bin ?_
      refine XE.str [64] ?_
      refine XE.bin ?_
      refine XE.lv 0 ?_
      refine XE.int ?_
      first | refine ex2 (.modI (by decide)) ?_ | refine ⟨_, _, .modI (by decide), ?_⟩
      rw [nat_mod3]
      first | refine ex2 (.mulS (by omega)) ?_ | refine ⟨_, _, .mulS (by omega), ?_⟩
      refine XE.call ?_
      refine XE.bv "chr" ?_
      refine XEs.cons ?_
      refine XE.bin ?_
      refine XE.item ?_
      refine XE.cv 0 (ga hc0) ?_
      refine XE.lv 0 ?_
      first | refine ex2 (.list (ga ho0) (seq_nat (by rw [hnl]; exact hk)) hgk (by rw [hnl]; omega)) ?_ | refine ⟨_, _, .list (ga ho0) (seq_nat (by rw [hnl]; exact hk)) hgk (by rw [hnl]; omega), ?_⟩
      refine XE.bin ?_
      refine XE.int ?_
      refine XE.bin ?_
      refine XE.lv 0 ?_
      refine XE.int ?_
      first | refine ex2 (.modI (by decide)) ?_ | refine ⟨_, _, .modI (by decide), ?_⟩
      rw [nat_mod2]
      first | refine ex2 (.mulI (.of_left (by decide))) ?_ | refine ⟨_, _, .mulI (.of_left (by decide)), ?_⟩
      first | refine ex2 .addI ?_ | refine ⟨_, _, .addI, ?_⟩
      have e2 : ((piles.getD k 0 : Nat) : Int) + 128 * ((k % 2 : Nat) : Int) = ((piles.getD k 0 + 128 * (k % 2) : Nat) : Int) := by omega
      rw [e2]
      refine XEs.nil ?_
      first | refine exK .bi (.chr (by omega)) ?_ | refine exN .bi (.chr (by omega)) ?_ | refine ⟨.bi, _, _, .chr (by omega), ?_⟩
      first | refine ex2 (.addS (by rw [sizeLine_eq]; simp; omega)) ⟨rfl, rfl⟩ | refine ⟨_, _, .addS (by rw [sizeLine_eq]; simp; omega), rfl, rfl⟩
    have e3 : (List.range piles.length).map (fun k => AV.str (wd (wp piles k))) = strsOf ((wps piles).map wd) := by simp [wps, List.map_map, Function.comp_def]
    rw [e3]
    dsimp only [CompLK]
    have E1 : Ext [] H (G ++ [.rng 0 piles.length] ++ [.list (strsOf ((wps piles).map wd))]) := E0.app.app
    have hc01 : (G ++ [AO.rng 0 piles.length] ++ [AO.list (strsOf ((wps piles).map wd))])[H.length]? = some (.cell (some (.loc i))) := ga (ga hc0)
    have hc11 : (G ++ [AO.rng 0 piles.length] ++ [AO.list (strsOf ((wps piles).map wd))])[H.length + 1]? = some (.cell none) := ga (ga hc1)
    have hw1 : (G ++ [AO.rng 0 piles.length] ++ [AO.list (strsOf ((wps piles).map wd))])[(G ++ [AO.rng 0 (piles.length : Int)]).length]? = some (.list (strsOf ((wps piles).map wd))) := gl
    have hwl : (G ++ [AO.rng 0 (piles.length : Int)]).length < (G ++ [AO.rng 0 piles.length] ++ [AO.list (strsOf ((wps piles).map wd))]).length := by simp
    generalize (G ++ [AO.rng 0 (piles.length : Int)]).length = wl at hw1 hwl
    generalize G ++ [AO.rng 0 (piles.length : Int)] ++ [AO.list (strsOf ((wps piles).map wd))] = G1 at hw1 hwl E1 hc01 hc11
    clear hc0 hc1 ho0 E0
    have hwlen : ((wps piles).map wd).length = piles.length := by rw [List.length_map, wps_len]
    have hwsz : ∀ w ∈ (wps piles).map wd, w.length ≤ 3 := fun w hw => by
      refine Classical.byContradiction fun hn0 => ?_
      obtain ⟨x, hx, rfl⟩ := List.mem_map.mp hw
      refine hn0 ?_
      clear hn0
      have := (wps_good hp x hx).1
      rw [wd_len]; omega
    have hwr : (wr 0 ((wps piles).map wd)).length ≤ 1000 := by
      have := wr_bound ((wps piles).map wd) 0 3 hwsz
      rw [hwlen] at this
      have h10 : piles.length * (2 * 3 + 3) ≤ 10 * (2 * 3 + 3) := Nat.mul_le_mul_right _ p2
      omega
    -- the lexer
    refine XB.cons ?_
    refine XS.assignC 1 (c := H.length + 1) ?_
    refine XE.call ?_
    refine XE.gv 95 ?_
    refine XEs.cons ?_
    refine XE.call ?_
    refine XE.gv 100 ?_
    refine XEs.cons ?_
    refine XE.lv 1 ?_
    refine XEs.nil ?_
    first | refine exC keep_fn ?_ | refine exD keep_fn ?_ | refine ⟨keep_fn, XC.call ?_⟩
    refine Classical.byContradiction fun hn0 => ?_
    obtain ⟨v, G2, h2, rfl, E2⟩ := written_spec (B := B) (d := d + 4) hw1 (by rw [hwlen]; omega) (fun w hw => by have := hwsz w hw; omega) (by omega)
    refine hn0 ?_
    clear hn0
    first | refine ex2 h2 ?_ | refine ⟨_, _, h2, ?_⟩
    refine XEs.nil ?_
    first | refine exC keep_fn ?_ | refine exD keep_fn ?_ | refine ⟨keep_fn, XC.call ?_⟩
    have tab2 : TabOk (K02 p) t G2 := (hT.ext E1 (by simp) (by simp)).ext E2 (by simp) (by simp)
    refine Classical.byContradiction fun hn0 => ?_
    obtain ⟨v, G3, h3, L, rfl, lex, tab3, E3, Lout⟩ := lexer_spec (B := B) (d := d + 2) (H := G2) (x := wr 0 ((wps piles).map wd)) C tab2 (by rw [sizeLine_eq]; omega)
    refine hn0 ?_
    clear hn0
    have E13 : Ext [t] G1 G3 := (E2.wide (by simp)).trans E3
    have E03 : Ext [t] H G3 := (E1.wide (by simp)).trans E13
    refine ⟨_, _, h3, ⟨_, E13.2 _ _ (by simp; omega) hc11⟩, ?_⟩
    have hlG : G1.length ≤ G2.length := E2.1
    have hc1lt : H.length + 1 < G1.length := (List.getElem?_eq_some_iff.mp hc11).1
    have Lown : ∀ i ∈ L.own, G2.length ≤ i := fun i hi => by
      rcases Lout i (own_all hi) with h | h
      · exact h
      · subst h
        exact absurd lex.cd (own_code lex _ _ hi)
    have hcell3 := gn (x := AO.cell (some (.loc L.lx))) (E13.2 _ _ (by simp; omega) hc11)
    have Lall : H.length + 1 ∉ L.all := fun h => by
      rcases Lout _ h with h | h
      · omega
      · have := lex.cd; rw [← h, E13.2 _ _ (by simp; omega) hc11] at this; cases this
    have lex4 : Lex (K02 p) L (G3.set (H.length + 1) (.cell (some (.loc L.lx)))) 1 [] (wr 0 ((wps piles).map wd)) := lex.ext (S := [H.length + 1]) (Ext.refl.set (.inl (by simp))) fun i hi => by
      rw [List.mem_singleton]; rintro rfl; exact Lall hi
    have tab4 : TabOk (K02 p) t (G3.set (H.length + 1) (.cell (some (.loc L.lx)))) := tab3.ext (S := [H.length + 1]) (Ext.refl.set (.inl (by simp))) (by simp; omega) (fun i q hi h => by
      rw [List.mem_singleton] at hi; subst hi; rw [E13.2 _ _ (by simp; omega) hc11] at h; cases h)
    have E4 : Ext [t] H (G3.set (H.length + 1) (.cell (some (.loc L.lx)))) := E03.set (.inr (Nat.le_succ _))
    have hw4 := gs (x := AO.cell (some (.loc L.lx))) (show H.length + 1 ≠ wl from ne_kind hc11 hw1 (by intro h; cases h)) (E13.2 _ _ (by
      rw [List.mem_singleton]; rintro rfl
      refine Classical.byContradiction fun hn0 => ?_
      obtain ⟨es, h, _⟩ := hT.ext E1 (by simp) (by simp)
      refine hn0 ?_
      clear hn0
      rw [hw1] at h; cases h) hw1)
    generalize G3.set (H.length + 1) (.cell (some (.loc L.lx))) = G4 at hcell3 lex4 tab4 E4 hw4
    clear lex tab3 h2 h3 E2 E3 E13 E03 hc11 hw1 tab2
    -- what is read
    have hnl10 : ((wps piles).map wd).length ≤ 10 := by omega
    refine XB.cons ?_
    refine XS.compL 2 ["word"] [H.length + 1] ?_ (by intro j y h; cases j with | zero => cases h; exact ⟨1, _, rfl, rfl, rfl⟩ | succ j => cases h)
    refine XE.lv 1 ?_
    first | refine exI (IterV.list hw4) rfl ?_ | refine ⟨_, IterV.list hw4, rfl, ?_⟩
    refine XL.inv 0 (CI1 (K02 p) L wl ((wps piles).map wd) G4) ?_ (by rfl) (by rfl) (by decide +kernel) _ _ _ _ _ ⟨0, 1, none, rfl, rfl, Nat.zero_le _, rfl, rfl, Ext.refl, by simpa [restAt] using lex4⟩
    · intro n vars G it outs hh0
      refine Classical.byContradiction fun hn0 => ?_
      obtain ⟨k, line, u, rfl, rfl, hk, rfl, rfl, EG, lexG⟩ := hh0
      refine hn0 ?_
      clear hn0
      have hwout : wl ∉ L.own := fun h => by have := Lown _ h; omega
      have hwG := EG.2 _ _ hwout hw4
      refine ⟨by rw [List.length_map, List.length_take, sizeLine_eq]; omega, ?_⟩
      rcases Nat.lt_or_eq_of_le hk with hlt | rfl
      · refine Classical.byContradiction fun hn0 => ?_
        obtain ⟨w, hw⟩ : ∃ w, ((wps piles).map wd)[k]? = some w := ⟨_, List.getElem?_eq_getElem hlt⟩
        refine hn0 ?_
        clear hn0
        refine .inr ⟨_, _, _, NextV.listCons hwG (strsOf_get hw), XTs.nil ⟨fun h => (nomatch h), fun _ => ?_⟩⟩
        have hkp : k < piles.length := by omega
        have hwe : w = wd (wp piles k) := by
          rw [List.getElem?_map, wps_get hkp] at hw; cases hw; rfl
        have htok := tok_at hw (by rw [hwe]; simp [wd]) (fun hk2 => by rw [hwe]; exact wps_plain hp hkp hk2)
        have hrl : (restAt k ((wps piles).map wd)).length ≤ 100000 := by
          have h1 := restAt_len k ((wps piles).map wd)
          have h2 := wr_drop_len k 0 ((wps piles).map wd)
          rw [Nat.zero_add] at h2; omega
        refine XE.meth0 ?_ (pl := _)
        refine XE.cv 0 (EG.2 _ _ (fun h => by have := Lown _ h; omega) hcell3) ?_
        first | refine exO (GetM.inst (g := 42) ⟨lexG.lx, lexG.dl⟩ (by kernel_rfl) (by kernel_rfl) (by kernel_rfl) (by kernel_rfl)) keep_fn ?_ | refine ⟨_, _, _, GetM.inst (g := 42) ⟨lexG.lx, lexG.dl⟩ (by kernel_rfl) (by kernel_rfl) (by kernel_rfl) (by kernel_rfl), keep_fn, XC.call ?_⟩
        refine Classical.byContradiction fun hn0 => ?_
        obtain ⟨v, G', h1, rfl, E5, line', l5, _⟩ := get_spec (B := B) (d := d + 1) lexG hrl htok
        refine hn0 ?_
        clear hn0
        refine ⟨_, _, h1, ((wps piles).map wd).length - (k + 1), by omega, k + 1, line', _, rfl, rfl, hlt, ?_, rfl, EG.trans E5, l5⟩
        rw [List.take_add_one, hw]; simp
      · refine .inl ⟨_, NextV.listNil hwG (List.getElem?_eq_none (by simp)), ?_⟩
        rw [List.take_length]
        have hcan : PyData.canLayAll0 (((wps piles).map wd).map fun y => .str (sp y)) = true := canLay_strs _ (fun w hw c hc => by
          refine Classical.byContradiction fun hn0 => ?_
          obtain ⟨x, hx, rfl⟩ := List.mem_map.mp hw
          refine hn0 ?_
          clear hn0
          have := (wps_good hp x hx).2.2.2
          unfold wd at hc
          rcases List.mem_append.mp hc with h | h
          · rw [(List.mem_replicate.mp h).2]; decide
          · rw [List.mem_singleton] at h; subst h; omega)
        refine XB.cons ?_
        refine XS.ifs ?_
        refine XT.boolop ?_
        refine XA.or ?_
        refine XT.cmp ?_
        refine XE.lv 2 ?_
        refine XE.lv 1 ?_
        refine ⟨_, _, .neD (.list gl DatL.strs) (.list (ga hwG) DatL.strs) (by simpa [PyData.canLay0] using hcan) (by simpa [PyData.canLay0] using hcan) (by rw [PyData.depth, depth_strs]; decide), fun _ => ?_, fun h => ?_⟩
        rotate_left
        · rw [eqv_strs] at h; simp at h
        have lexR := lexG.ext (S := []) (Ext.refl.app (l := [AO.list (strsOf ((wps piles).map wd))])) (by simp)
        refine XA.or ?_
        refine XT.cmp ?_
        refine XE.meth0 ?_ (pl := _)
        refine XE.cv 1 (ga (EG.2 _ _ (fun h => by have := Lown _ h; omega) hcell3)) ?_
        first | refine exO (GetM.inst (g := 42) ⟨lexR.lx, lexR.dl⟩ (by kernel_rfl) (by kernel_rfl) (by kernel_rfl) (by kernel_rfl)) keep_fn ?_ | refine ⟨_, _, _, GetM.inst (g := 42) ⟨lexR.lx, lexR.dl⟩ (by kernel_rfl) (by kernel_rfl) (by kernel_rfl) (by kernel_rfl), keep_fn, XC.call ?_⟩
        have hrl : (restAt ((wps piles).map wd).length ((wps piles).map wd)).length ≤ 100000 := by
          have h1 := restAt_len ((wps piles).map wd).length ((wps piles).map wd)
          rw [List.drop_length, wr] at h1
          simp only [List.length_nil] at h1; omega
        refine Classical.byContradiction fun hn0 => ?_
        obtain ⟨v, G5, h1, rfl, E5, line', lex5, _⟩ := get_spec (B := B) (d := d + 1) lexR hrl (tok_end _)
        refine hn0 ?_
        clear hn0
        first | refine ex2 h1 ?_ | refine ⟨_, _, h1, ?_⟩
        refine XE.str [] ?_
        refine ⟨_, _, .neS, fun _ => XA.orNil ⟨fun h => (nomatch h), fun _ => XB.nil ?_⟩, fun h => (nomatch h)⟩
        have hread := E5.2 _ _ (fun h => by have h2 := Lown _ h; have h3 := lexG.lt _ (own_all h); omega) (gl (H := G) (o := AO.list (strsOf ((wps piles).map wd))))
        have E45 : Ext L.own G4 G5 := (EG.app).trans E5
        have hcell5 := E45.2 _ _ (fun h => by have := Lown _ h; omega) hcell3
        have tab5 : TabOk (K02 p) t G5 := tab4.ext E45 (fun h => by have := Lown _ h; omega) (own_code lex4)
        have E6 : Ext [t] H G5 := by
          refine ⟨Nat.le_trans E4.1 E45.1, fun i o hi e => E45.2 _ _ (fun h => ?_) (E4.2 _ _ hi e)⟩
          have := Lown _ h
          have := (List.getElem?_eq_some_iff.mp e).1
          omega
        have hrdl : G.length < G5.length := by have := E5.1; simp at this; omega
        have hGL : ∀ i ∈ L.all, i < G.length := lexG.lt
        generalize G.length = rd at hread hrdl hGL
        clear E5 lexR hwG lexG EG hcell3 lex4 tab4 E4 hw4
        -- the first row
        have Llt := lex5.lt
        have E56 : Ext [] G5 (G5 ++ [.list []]) := Ext.refl.app
        refine XB.cons ?_
        refine XS.assign 3 ?_
        refine XE.list ?_
        refine XEs.nil ?_
        refine ⟨by decide, ?_⟩
        refine XB.cons ?_
        refine XS.for ?_
        refine XE.lv 2 ?_
        first | refine exF (IterV.list (ga hread)) ?_ | refine ⟨_, IterV.list (ga hread), ?_⟩
        have hwsl : (strsOf ((wps piles).map wd)).length = piles.length := by rw [List.length_map]; exact hwlen
        refine XF.lst 4 (fun k vars G => FI1 (K02 p) L steps wl rd G5.length line' ((wps piles).take k) G5 vars G) (ga hread) ?_ ?_ ?_ ⟨Ext.refl.app, gl, lex5.ext E56 (by simp), _, rfl⟩
        · intro k vars G hh0
          refine Classical.byContradiction fun hn0 => ?_
          obtain ⟨EG, _, _, _⟩ := hh0
          refine hn0 ?_
          clear hn0
          exact EG.2 _ _ (fun h => by have h2 := hGL _ (own_all h); omega) hread
        · intro k v hv vars G hh0
          refine Classical.byContradiction fun hn0 => ?_
          obtain ⟨EG, hrow, lexG, u, rfl⟩ := hh0
          refine hn0 ?_
          clear hn0
          have hk : k < piles.length := by have := (List.getElem?_eq_some_iff.mp hv).1; omega
          have hwk := wps_get hk
          have hve : v = .str (wd (wp piles k)) := by
            have := strsOf_get (ws := (wps piles).map wd) (k := k) (w := wd (wp piles k)) (by rw [List.getElem?_map, hwk]; rfl)
            rw [this] at hv; exact (Option.some.inj hv).symm
          subst hve
          have ht : (wps piles).take (k + 1) = (wps piles).take k ++ [wp piles k] := by rw [List.take_add_one, hwk]; rfl
          have gw := wps_good hp _ (List.mem_of_getElem? hwk)
          refine XB.cons ?_
          refine XS.expr ?_
          refine XE.meth ?_ (pl := _)
          refine XE.cv 1 (EG.2 _ _ (fun h => by have := Lown _ h; omega) hcell5) ?_
          first | refine exM (GetM.inst (g := 49) ⟨lexG.lx, lexG.dl⟩ (by kernel_rfl) (by kernel_rfl) (by kernel_rfl) (by kernel_rfl)) ?_ | refine ⟨_, _, _, GetM.inst (g := 49) ⟨lexG.lx, lexG.dl⟩ (by kernel_rfl) (by kernel_rfl) (by kernel_rfl) (by kernel_rfl), ?_⟩
          refine XEs.cons ?_
          refine XE.lv 4 ?_
          refine XEs.nil ?_
          first | refine exC keep_fn ?_ | refine exD keep_fn ?_ | refine ⟨keep_fn, XC.call ?_⟩
          refine Classical.byContradiction fun hn0 => ?_
          obtain ⟨v, G6, h6, rfl, E7, lex6⟩ := push_spec (B := B) (d := d + 4) (w := wd (wp piles k)) lexG (by simp; omega)
          refine hn0 ?_
          clear hn0
          first | refine ex2 h6 ?_ | refine ⟨_, _, h6, ?_⟩
          have hrow6 := E7.2 _ _ (fun h => by have := Llt _ (own_all h); omega) hrow
          refine Classical.byContradiction fun hn0 => ?_
          obtain ⟨tb, tcs, tn, ht1, ht2⟩ := told_wd (m := (wp piles k).1) (c := (wp piles k).2) gw.2.2.1
          refine hn0 ?_
          clear hn0
          refine XB.cons ?_
          refine XS.expr ?_
          refine XE.call ?_
          refine XE.gv 65 ?_
          refine XEs.cons ?_
          refine XE.lv 3 ?_
          refine XEs.cons ?_
          refine XE.call ?_
          refine XE.gv 105 ?_
          refine XEs.cons ?_
          refine XE.lv 4 ?_
          refine XEs.nil ?_
          first | refine exC keep_fn ?_ | refine exD keep_fn ?_ | refine ⟨keep_fn, XC.call ?_⟩
          refine Classical.byContradiction fun hn0 => ?_
          obtain ⟨v, G7, h7, rfl, E8⟩ := told_spec (B := B) (d := d + 3) (H := G6) ht1 ht2 (by rw [wd_len]; have := gw.1; show (wp piles k).1 + 1 ≤ 1000; omega)
          refine hn0 ?_
          clear hn0
          first | refine ex2 h7 ?_ | refine ⟨_, _, h7, ?_⟩
          refine XEs.nil ?_
          first | refine exC keep_fn ?_ | refine exD keep_fn ?_ | refine ⟨keep_fn, XC.call ?_⟩
          have hrow7 := E8.2 _ _ (by simp) hrow6
          have hlen0 := row0_len ((wps piles).take k) []
          have hl2 := wps_len piles
          refine Classical.byContradiction fun hn0 => ?_
          obtain ⟨v, G8, h8, rfl, rfl⟩ := insort_spec (B := B) (d := d + 3) (x := (((wp piles k).2 % 64 : Nat) : Int)) hrow7 (row0_sorted List.Pairwise.nil) (by rw [hlen0, List.length_take]; simp; omega)
          refine hn0 ?_
          clear hn0
          refine ⟨_, _, h8, XB.nil ?_⟩
          have outR : ∀ i ∈ L.all, i ∉ [G5.length] := fun i hi => by have := Llt i hi; simp; omega
          refine ⟨((EG.trans E7).trans (E8.wide (by simp))).set (.inr (Nat.le_refl _)), ?_, ?_, _, rfl⟩
          · rw [ht, row0_snoc]; exact gn hrow7
          · rw [ht, List.map_append]
            exact (lex6.ext E8 (by simp)).ext (S := [G5.length]) (Ext.refl.set (.inl (by simp))) outR
        intro vars G hh0
        refine Classical.byContradiction fun hn0 => ?_
        obtain ⟨EG, hrow, lexG, u, rfl⟩ := hh0
        refine hn0 ?_
        clear hn0
        rw [hwsl, ← wps_len piles, List.take_length] at hrow lexG
        have hcellG := EG.2 _ _ (fun h => by have := Lown _ h; omega) hcell5
        have tabG : TabOk (K02 p) t G := tab5.ext EG (fun h => by have := Lown _ h; omega) (own_code lex5)
        have EGH : Ext [t] H G := by
          refine ⟨Nat.le_trans E6.1 EG.1, fun i o hi e => EG.2 _ _ (fun h => ?_) (E6.2 _ _ hi e)⟩
          have := Lown _ h
          have := (List.getElem?_eq_some_iff.mp e).1
          omega
        have hGle : G5.length < G.length := (List.getElem?_eq_some_iff.mp hrow).1
        generalize hrow0 : row0 [] (wps piles) = first at hrow
        have hfl : first.length = (wps piles).length := by rw [← hrow0, row0_len]; simp
        -- the rows
        refine XB.cons ?_
        refine XS.assign 5 ?_
        refine XE.list ?_
        refine XEs.cons ?_
        refine XE.lv 3 ?_
        refine XEs.nil ?_
        refine ⟨by rw [sizeLine_eq]; simp, ?_⟩
        have R0 : RowsAt (G ++ [.list [.loc G5.length]]) L.all G.length [G5.length] [first] := by
          refine ⟨gl, rfl, fun k j row h1 h2 => ?_, fun h => ?_, fun j hj h => ?_, ?_⟩
          · cases k with
            | zero => cases h1; cases h2; exact ga hrow
            | succ k => cases h1
          · have := lexG.lt _ h; omega
          · rw [List.mem_singleton] at hj; subst hj; have := Llt _ h; omega
          · rw [List.mem_singleton]; omega
        have lexR := lexG.ext (S := []) (Ext.refl.app (l := [AO.list [AV.loc G5.length]])) (by simp)
        have W0 : Ext L.own G (G ++ [.list [.loc G5.length]]) := Ext.refl.app
        refine XB.cons (XS.while (XW.mono (D1 := (fun f vars G' => f = .next ∧ RI (K02 p) L steps wl rd G5.length G.length u line' G (fun q rows last => q.length ≤ 11 + rows.length ∧ rows.length ≤ 42 ∧ (q, rows, last) = rowsGo steps 42 (wps piles) [] first) vars G')) (XW.inv (fun n vars G' => RI (K02 p) L steps wl rd G5.length G.length u line' G (fun q rows last => q.length ≤ 11 + rows.length ∧ rows.length + n = 42 ∧ rowsGo steps n q rows last = rowsGo steps 42 (wps piles) [] first) vars G') ?_ 42 _ _ ⟨wps piles, [], first, [], G5.length, none, rfl, R0, lexR, wps_good hp, by rw [wps_len]; exact p1, hfl, ⟨by rw [wps_len]; simp; omega, rfl, rfl⟩, W0⟩) ?_))
        · intro n vars G' hh0
          refine Classical.byContradiction fun hn0 => ?_
          obtain ⟨q, rows, last, js, jl, u6, rfl, R, lexW, gq, q1, ql, ⟨q2, hn, hgo⟩, EW⟩ := hh0
          refine hn0 ?_
          clear hn0
          have hjl := R.row js.length jl last (by simp) (by rw [show js.length = rows.length by have := R.len; simp at this; exact this]; simp)
          have hrlen := R.len
          have hlocs : ((js ++ [jl]).map AV.loc).length = rows.length + 1 := by rw [List.length_map, hrlen]; simp
          have hlast : ((js ++ [jl]).map AV.loc)[rows.length]? = some (.loc jl) := by
            have : js.length = rows.length := by simpa using hrlen
            rw [← this]; exact locs_get
          refine XT.boolop ?_
          refine XA.and ?_
          refine XT.cmp ?_
          refine XE.call ?_
          refine XE.gv 124 ?_
          refine XEs.cons ?_
          refine XE.item ?_
          refine XE.lv 5 ?_
          refine XE.un ?_
          refine XE.int ?_
          first | refine ex2 .negI ?_ | refine ⟨_, _, .negI, ?_⟩
          first | refine ex2 (v := .loc jl) (.list R.at_ (by rw [hlocs]; exact seq_last (by omega)) (by rw [Nat.add_sub_cancel]; exact hlast) (by rw [hlocs]; omega)) ?_ | refine ⟨.loc jl, _, .list R.at_ (by rw [hlocs]; exact seq_last (by omega)) (by rw [Nat.add_sub_cancel]; exact hlast) (by rw [hlocs]; omega), ?_⟩
          refine XEs.cons ?_
          refine XE.lv 0 ?_
          refine XEs.nil ?_
          first | refine exC keep_fn ?_ | refine exD keep_fn ?_ | refine ⟨keep_fn, XC.call ?_⟩
          refine Classical.byContradiction fun hn0 => ?_
          obtain ⟨v, G7, h7, rfl, E7⟩ := more_spec (B := B) (d := d + 4) (steps := steps) hjl (by omega) (by omega)
          refine hn0 ?_
          clear hn0
          first | refine ex2 h7 ?_ | refine ⟨_, _, h7, ?_⟩
          refine XE.str [] ?_
          have R7 := R.ext E7 (by simp)
          have lex7 := lexW.ext E7 (by simp)
          have EW7 := EW.trans (E7.wide (by simp))
          first | refine ex2 .eqS ⟨fun h => ?_, fun h => ?_⟩ | refine ⟨_, _, .eqS, fun h => ?_, fun h => ?_⟩
          · have hm : moreS last steps = [] := by simpa using h
            refine XA.and ?_
            refine XT.cmp ?_
            refine XE.call ?_
            refine XE.bv "len" ?_
            refine XEs.cons ?_
            refine XE.lv 5 ?_
            refine XEs.nil ?_
            first | refine exK .bi (CallV.lenL R7.at_ (by rw [hlocs]; omega)) ?_ | refine exN .bi (CallV.lenL R7.at_ (by rw [hlocs]; omega)) ?_ | refine ⟨.bi, _, _, CallV.lenL R7.at_ (by rw [hlocs]; omega), ?_⟩
            refine XE.int ?_
            rw [hlocs]
            refine ⟨_, _, .ltI, fun h2 => XA.andNil ⟨fun h3 => (nomatch h3), fun _ => ?_⟩, fun h2 => ⟨fun _ => ?_, fun h3 => (nomatch h3)⟩⟩
            · have h2' : rows.length + 1 < 43 := by
                have : ((rows.length + 1 : Nat) : Int) < 43 := by simpa using h2
                omega
              have cell7 := EW7.2 _ _ (fun h => by have := Lown _ h; omega) hcellG
              have hjl7 := E7.2 _ _ (by simp) hjl
              refine XB.cons ?_
              refine XS.expr ?_
              refine XE.meth ?_ (pl := _)
              refine XE.lv 5 ?_
              first | refine exM (GetM.list R7.at_ PySem.F.slot_list_append (by kernel_rfl)) ?_ | refine ⟨_, _, _, GetM.list R7.at_ PySem.F.slot_list_append (by kernel_rfl), ?_⟩
              refine XEs.cons ?_
              refine XE.call ?_
              refine XE.gv 119 ?_
              refine XEs.cons ?_
              refine XE.cv 1 cell7 ?_
              refine XEs.cons ?_
              refine XE.call ?_
              refine XE.bv "len" ?_
              refine XEs.cons ?_
              refine XE.item ?_
              refine XE.lv 5 ?_
              refine XE.un ?_
              refine XE.int ?_
              first | refine ex2 .negI ?_ | refine ⟨_, _, .negI, ?_⟩
              first | refine ex2 (v := .loc jl) (.list R7.at_ (by rw [hlocs]; exact seq_last (by omega)) (by rw [Nat.add_sub_cancel]; exact hlast) (by rw [hlocs]; omega)) ?_ | refine ⟨.loc jl, _, .list R7.at_ (by rw [hlocs]; exact seq_last (by omega)) (by rw [Nat.add_sub_cancel]; exact hlast) (by rw [hlocs]; omega), ?_⟩
              refine XEs.nil ?_
              first | refine exK .bi (CallV.lenL hjl7 (by rw [intsOf_len]; omega)) ?_ | refine exN .bi (CallV.lenL hjl7 (by rw [intsOf_len]; omega)) ?_ | refine ⟨.bi, _, _, CallV.lenL hjl7 (by rw [intsOf_len]; omega), ?_⟩
              rw [intsOf_len, ql]
              refine XEs.nil ?_
              first | refine exC keep_fn ?_ | refine exD keep_fn ?_ | refine ⟨keep_fn, XC.call ?_⟩
              refine Classical.byContradiction fun hn0 => ?_
              obtain ⟨v, G8, h8, j, rfl, hj, hjr, lex8, E8⟩ := deal_spec (B := B) (d := d) lex7 gq q1 (by omega)
              refine hn0 ?_
              clear hn0
              first | refine ex2 h8 ?_ | refine ⟨_, _, h8, ?_⟩
              have R8 := R7.ext E8 (fun i hi => own_all hi)
              have hrl7 : G.length < G7.length := (List.getElem?_eq_some_iff.mp R7.at_).1
              have jout : j ∉ L.all := fun h => by have := lex7.lt _ h; omega
              have R9 := R8.push hjr jout (by omega)
              refine XEs.nil ?_
              first | refine exK .bi (CallV.append R8.at_ (by rw [hlocs, sizeLine_eq]; omega)) ?_ | refine exN .bi (CallV.append R8.at_ (by rw [hlocs, sizeLine_eq]; omega)) ?_ | refine ⟨.bi, _, _, CallV.append R8.at_ (by rw [hlocs, sizeLine_eq]; omega), ?_⟩
              have dl := dealQ_len q
              refine XB.nil ⟨n - 1, by omega, dealQ q, rows ++ [last], dealRow q, js ++ [jl], j, _, rfl, R9, lex8.ext (S := [G.length]) (Ext.refl.set (.inl (by simp))) (fun i hi => ?_), good_deal gq q1 (by omega), dl.1, dealRow_len q, ⟨by simp; omega, by simp; omega, ?_⟩, (EW7.trans E8).set (.inr (Nat.le_refl _))⟩
              · rw [List.mem_singleton]; have := lexG.lt i hi; omega
              · refine Classical.byContradiction fun hn0 => ?_
                obtain ⟨m, rfl⟩ : ∃ m, n = m + 1 := ⟨n - 1, by omega⟩
                refine hn0 ?_
                clear hn0
                rw [← hgo, rowsGo, if_pos hm]; rfl
            · have h2' : ¬ rows.length + 1 < 43 := by
                have : ¬ ((rows.length + 1 : Nat) : Int) < 43 := by simpa using h2
                omega
              have hn0 : n = 0 := by omega
              subst hn0
              exact ⟨rfl, q, rows, last, js, jl, _, rfl, R7, lex7, gq, q1, ql, ⟨q2, by omega, by rw [← hgo]; rfl⟩, EW7⟩
          · have hm : moreS last steps ≠ [] := by simpa using h
            refine ⟨fun _ => ⟨rfl, q, rows, last, js, jl, _, rfl, R7, lex7, gq, q1, ql, ⟨q2, by omega, ?_⟩, EW7⟩, fun h3 => (nomatch h3)⟩
            rw [← hgo]
            cases n with
            | zero => rfl
            | succ m => rw [rowsGo, if_neg hm]
        · intro f vars G' hh0
          refine Classical.byContradiction fun hn0 => ?_
          obtain ⟨rfl, q, rows, last, js, jl, u6, rfl, R, lexW, gq, q1, ql, ⟨q2, hn, hgo1⟩, EW⟩ := hh0
          refine hn0 ?_
          clear hn0
          have hsteps : ((steps : Int) - 0).toNat = steps := by omega
          have Ra := R.ext (S := []) (Ext.refl.app (l := [AO.rng 0 steps])) (by simp)
          have lexa := lexW.ext (S := []) (Ext.refl.app (l := [AO.rng 0 steps])) (by simp)
          have EWa : Ext L.own G (G' ++ [AO.rng 0 steps]) := EW.app
          refine XB.cons ?_
          refine XS.for ?_
          refine XE.call ?_
          refine XE.ty "range" ?_
          refine XEs.cons ?_
          refine XE.lv 0 ?_
          refine XEs.nil ?_
          first | refine exK .ty CallV.range1 ?_ | refine exN .ty CallV.range1 ?_ | refine ⟨.ty, _, _, CallV.range1, ?_⟩
          first | refine exF (IterV.rng gl (by decide) (by decide) (by omega) (by omega)) ?_ | refine ⟨_, IterV.rng gl (by decide) (by decide) (by omega) (by omega), ?_⟩
          rw [hsteps]
          refine XF.mono (D1 := fun f vars G' => f = .next ∧ RI (K02 p) L steps wl rd G5.length G.length u line' G (fun q2 rows2 last2 => q2.length ≤ 60 ∧ rows2.length ≤ 50 ∧ (q2, rows2, last2) = rowsMore steps q rows last) vars G') (XF.rng 6 (fun k vars G' => RI (K02 p) L steps wl rd G5.length G.length u line' G (fun q2 rows2 last2 => q2.length ≤ 53 + k ∧ rows2.length ≤ 42 + k ∧ rowsMore (steps - k) q2 rows2 last2 = rowsMore steps q rows last) vars G') ?_ ?_ ⟨q, rows, last, js, jl, u6, rfl, Ra, lexa, gq, q1, ql, ⟨by omega, hn, rfl⟩, EWa⟩) ?_
          · intro k hk vars G' hh0
            refine Classical.byContradiction fun hn0 => ?_
            obtain ⟨q2, rows2, last2, js, jl, u2, rfl, R7, lex7, gq, q1, ql, ⟨q2l, hn, hgo⟩, EW7⟩ := hh0
            refine hn0 ?_
            clear hn0
            have hrlen := R7.len
            have hlocs : ((js ++ [jl]).map AV.loc).length = rows2.length + 1 := by rw [List.length_map, hrlen]; simp
            have hjs : js.length = rows2.length := by simpa using hrlen
            have hlast : ((js ++ [jl]).map AV.loc)[rows2.length]? = some (.loc jl) := by rw [← hjs]; exact locs_get
            have hjl7 := R7.row js.length jl last2 (by simp) (by rw [hjs]; simp)
            have cell7 := EW7.2 _ _ (fun h => by have := Lown _ h; omega) hcellG
            refine XB.cons ?_
            refine XS.expr ?_
            refine XE.meth ?_ (pl := _)
            refine XE.lv 5 ?_
            first | refine exM (GetM.list R7.at_ PySem.F.slot_list_append (by kernel_rfl)) ?_ | refine ⟨_, _, _, GetM.list R7.at_ PySem.F.slot_list_append (by kernel_rfl), ?_⟩
            refine XEs.cons ?_
            refine XE.call ?_
            refine XE.gv 119 ?_
            refine XEs.cons ?_
            refine XE.cv 1 cell7 ?_
            refine XEs.cons ?_
            refine XE.call ?_
            refine XE.bv "len" ?_
            refine XEs.cons ?_
            refine XE.item ?_
            refine XE.lv 5 ?_
            refine XE.un ?_
            refine XE.int ?_
            first | refine ex2 .negI ?_ | refine ⟨_, _, .negI, ?_⟩
            first | refine ex2 (v := .loc jl) (.list R7.at_ (by rw [hlocs]; exact seq_last (by omega)) (by rw [Nat.add_sub_cancel]; exact hlast) (by rw [hlocs]; omega)) ?_ | refine ⟨.loc jl, _, .list R7.at_ (by rw [hlocs]; exact seq_last (by omega)) (by rw [Nat.add_sub_cancel]; exact hlast) (by rw [hlocs]; omega), ?_⟩
            refine XEs.nil ?_
            first | refine exK .bi (CallV.lenL hjl7 (by rw [intsOf_len]; omega)) ?_ | refine exN .bi (CallV.lenL hjl7 (by rw [intsOf_len]; omega)) ?_ | refine ⟨.bi, _, _, CallV.lenL hjl7 (by rw [intsOf_len]; omega), ?_⟩
            rw [intsOf_len, ql]
            refine XEs.nil ?_
            first | refine exC keep_fn ?_ | refine exD keep_fn ?_ | refine ⟨keep_fn, XC.call ?_⟩
            refine Classical.byContradiction fun hn0 => ?_
            obtain ⟨v, G8, h8, j, rfl, hj, hjr, lex8, E8⟩ := deal_spec (B := B) (d := d) lex7 gq q1 (by omega)
            refine hn0 ?_
            clear hn0
            first | refine ex2 h8 ?_ | refine ⟨_, _, h8, ?_⟩
            have R8 := R7.ext E8 (fun i hi => own_all hi)
            have hrl7 : G.length < G'.length := (List.getElem?_eq_some_iff.mp R7.at_).1
            have jout : j ∉ L.all := fun h => by have := lex7.lt _ h; omega
            have R9 := R8.push hjr jout (by omega)
            refine XEs.nil ?_
            first | refine exK .bi (CallV.append R8.at_ (by rw [hlocs, sizeLine_eq]; omega)) ?_ | refine exN .bi (CallV.append R8.at_ (by rw [hlocs, sizeLine_eq]; omega)) ?_ | refine ⟨.bi, _, _, CallV.append R8.at_ (by rw [hlocs, sizeLine_eq]; omega), ?_⟩
            have dl := dealQ_len q2
            refine XB.nil ⟨dealQ q2, rows2 ++ [last2], dealRow q2, js ++ [jl], j, _, rfl, R9, lex8.ext (S := [G.length]) (Ext.refl.set (.inl (by simp))) (fun i hi => ?_), good_deal gq q1 (by omega), dl.1, dealRow_len q2, ⟨by omega, by simp; omega, ?_⟩, (EW7.trans E8).set (.inr (Nat.le_refl _))⟩
            · rw [List.mem_singleton]; have := lexG.lt i hi; omega
            · rw [← hgo]
              refine Classical.byContradiction fun hn0 => ?_
              obtain ⟨m, hm⟩ : ∃ m, steps - k = m + 1 := ⟨steps - k - 1, by omega⟩
              refine hn0 ?_
              clear hn0
              rw [hm, rowsMore, show steps - (k + 1) = m by omega]
          · intro vars G' hh0
            refine Classical.byContradiction fun hn0 => ?_
            obtain ⟨q2, rows2, last2, js, jl, u2, rfl, R, lexW, gq, q1, ql, ⟨q2l, hn, hgo⟩, EW⟩ := hh0
            refine hn0 ?_
            clear hn0
            rw [Nat.sub_self] at hgo
            exact ⟨rfl, q2, rows2, last2, js, jl, u2, rfl, R, lexW, gq, q1, ql, ⟨by omega, by omega, hgo⟩, EW⟩
          · intro f vars G' hh0
            refine Classical.byContradiction fun hn0 => ?_
            obtain ⟨rfl, q2, rows2, last2, js, jl, u2, rfl, R7, lex7, gq, q1, ql, ⟨q2l, hn, hgo⟩, EW7⟩ := hh0
            refine hn0 ?_
            clear hn0
            have hrlen := R7.len
            have hlocs : ((js ++ [jl]).map AV.loc).length = rows2.length + 1 := by rw [List.length_map, hrlen]; simp
            have hjs : js.length = rows2.length := by simpa using hrlen
            have hlast : ((js ++ [jl]).map AV.loc)[rows2.length]? = some (.loc jl) := by rw [← hjs]; exact locs_get
            have hjl7 := R7.row js.length jl last2 (by simp) (by rw [hjs]; simp)
            have cell7 := EW7.2 _ _ (fun h => by have := Lown _ h; omega) hcellG
            have jlo : jl ∉ L.own := fun h => R7.o2 jl (by simp) (own_all h)
            refine XB.cons ?_
            refine XS.expr ?_
            refine XE.meth ?_ (pl := _)
            refine XE.lv 5 ?_
            first | refine exM (GetM.list R7.at_ PySem.F.slot_list_append (by kernel_rfl)) ?_ | refine ⟨_, _, _, GetM.list R7.at_ PySem.F.slot_list_append (by kernel_rfl), ?_⟩
            refine XEs.cons ?_
            refine XE.comp ["size"] [H.length + 1] ?_ (by intro j y h; cases j with | zero => cases h; exact ⟨1, _, rfl, rfl, rfl⟩ | succ j => cases h)
            refine XE.item ?_
            refine XE.lv 5 ?_
            refine XE.un ?_
            refine XE.int ?_
            first | refine ex2 .negI ?_ | refine ⟨_, _, .negI, ?_⟩
            first | refine ex2 (v := .loc jl) (.list R7.at_ (by rw [hlocs]; exact seq_last (by omega)) (by rw [Nat.add_sub_cancel]; exact hlast) (by rw [hlocs]; omega)) ?_ | refine ⟨.loc jl, _, .list R7.at_ (by rw [hlocs]; exact seq_last (by omega)) (by rw [Nat.add_sub_cancel]; exact hlast) (by rw [hlocs]; omega), ?_⟩
            first | refine exI (IterV.list hjl7) rfl ?_ | refine ⟨_, IterV.list hjl7, rfl, ?_⟩
            refine XL.inv 0 (CI2 (K02 p) L jl line' q2 G') ?_ (by rfl) (by rfl) (by decide +kernel) _ _ _ _ _ ⟨0, none, rfl, rfl, Nat.zero_le _, rfl, rfl, Ext.refl, by simpa using lex7⟩
            intro n vars G2 it outs hh0
            refine Classical.byContradiction fun hn0 => ?_
            obtain ⟨k, u, rfl, rfl, hk, rfl, rfl, EG2, lex2⟩ := hh0
            refine hn0 ?_
            clear hn0
            have hjl2 := EG2.2 _ _ jlo hjl7
            refine ⟨by rw [intsOf_len, List.length_map, List.length_take, sizeLine_eq]; omega, ?_⟩
            rcases Nat.lt_or_eq_of_le hk with hlt | rfl
            · refine Classical.byContradiction fun hn0 => ?_
              obtain ⟨w, hw⟩ : ∃ w, q2[k]? = some w := ⟨_, List.getElem?_eq_getElem hlt⟩
              refine hn0 ?_
              clear hn0
              refine Classical.byContradiction fun hn0 => ?_
              obtain ⟨z, hz⟩ : ∃ z, last2[k]? = some z := ⟨_, List.getElem?_eq_getElem (by omega)⟩
              refine hn0 ?_
              clear hn0
              have gw := gq w (List.mem_of_getElem? hw)
              refine .inr ⟨_, _, _, NextV.listCons hjl2 (intsOf_get hz), XTs.nil ⟨fun h => (nomatch h), fun _ => ?_⟩⟩
              have hd : q2.drop k = w :: q2.drop (k + 1) := by
                refine Classical.byContradiction fun hn0 => ?_
                obtain ⟨h1, rfl⟩ := List.getElem?_eq_some_iff.mp hw
                refine hn0 ?_
                clear hn0
                exact List.drop_eq_getElem_cons h1
              rw [hd, List.map_cons] at lex2
              refine XE.call ?_
              refine XE.gv 105 ?_
              refine XEs.cons ?_
              refine XE.meth0 ?_ (pl := _)
              refine XE.cv 0 (EG2.2 _ _ (fun h => by have := Lown _ h; omega) cell7) ?_
              first | refine exO (GetM.inst (g := 42) ⟨lex2.lx, lex2.dl⟩ (by kernel_rfl) (by kernel_rfl) (by kernel_rfl) (by kernel_rfl)) keep_fn ?_ | refine ⟨_, _, _, GetM.inst (g := 42) ⟨lex2.lx, lex2.dl⟩ (by kernel_rfl) (by kernel_rfl) (by kernel_rfl) (by kernel_rfl), keep_fn, XC.call ?_⟩
              refine Classical.byContradiction fun hn0 => ?_
              obtain ⟨v, G3, h3, rfl, E3, lex3⟩ := get_pend (B := B) (d := d + 1) lex2 (by simp; omega)
              refine hn0 ?_
              clear hn0
              first | refine ex2 h3 ?_ | refine ⟨_, _, h3, ?_⟩
              refine Classical.byContradiction fun hn0 => ?_
              obtain ⟨tb, tcs, tn, ht1, ht2⟩ := told_wd (m := w.1) (c := w.2) gw.2.2.1
              refine hn0 ?_
              clear hn0
              refine XEs.nil ?_
              first | refine exC keep_fn ?_ | refine exD keep_fn ?_ | refine ⟨keep_fn, XC.call ?_⟩
              refine Classical.byContradiction fun hn0 => ?_
              obtain ⟨v, G4', h4, rfl, E4'⟩ := told_spec (B := B) (d := d + 3) (H := G3) ht1 ht2 (by rw [wd_len]; have := gw.1; show w.1 + 1 ≤ 1000; omega)
              refine hn0 ?_
              clear hn0
              refine ⟨_, _, h4, q2.length - (k + 1), by omega, k + 1, _, rfl, rfl, hlt, ?_, rfl, (EG2.trans E3).trans (E4'.wide (by simp)), lex3.ext E4' (by simp)⟩
              rw [List.take_add_one, hw]; simp [intsOf]
            · refine .inl ⟨_, NextV.listNil hjl2 (List.getElem?_eq_none (by rw [intsOf_len]; omega)), ?_⟩
              rw [List.take_length]
              have RL := (R7.ext EG2 (fun i hi => own_all hi)).ext (S := []) (Ext.refl.app (l := [AO.list (intsOf (q2.map fun x => ((x.2 % 64 : Nat) : Int)))])) (by simp)
              have hGL2 : G.length < G2.length := (List.getElem?_eq_some_iff.mp (R7.ext EG2 (fun i hi => own_all hi)).at_).1
              have R9 := RL.push (gl (H := G2)) (fun h => by have := lex2.lt _ h; omega) (by omega)
              refine XEs.nil ?_
              first | refine exK .bi (CallV.append RL.at_ (by rw [hlocs, sizeLine_eq]; omega)) ?_ | refine exN .bi (CallV.append RL.at_ (by rw [hlocs, sizeLine_eq]; omega)) ?_ | refine ⟨.bi, _, _, CallV.append RL.at_ (by rw [hlocs, sizeLine_eq]; omega), ?_⟩
              refine XB.cons ?_
              refine XS.ret ?_
              refine XE.lv 5 ?_
              have tabL : TabOk (K02 p) t G2 := (tabG.ext EW7 (fun h => by have := Lown _ h; omega) (own_code lexG)).ext EG2 (fun h => by have := Lown _ h; omega) (own_code lex7)
              have htab := tabL.ext (S := [G.length]) ((Ext.refl.app (l := [AO.list (intsOf (q2.map fun x => ((x.2 % 64 : Nat) : Int)))])).set (i := G.length) (o := AO.list ((js ++ [jl]).map AV.loc ++ [.loc G2.length])) (.inl (by simp))) (by rw [List.mem_singleton]; have := EGH.1; omega) (fun i q hi h => by
                rw [List.mem_singleton] at hi; subst hi
                rw [(R7.ext EG2 (fun i hi => own_all hi)).at_] at h; cases h)
              have hall : rowsAll piles steps = rows2 ++ [last2] ++ [q2.map fun x => ((x.2 % 64 : Nat) : Int)] := by
                unfold rowsAll
                rw [hrow0, ← hgo1]
                dsimp only
                rw [← hgo]
              refine ⟨G.length, js ++ [jl] ++ [G2.length], rfl, ⟨R9.at_, ?_, ?_, by simp, by simp, R9.ne⟩, htab, ?_⟩
              · rw [hall]; exact R9.len
              · rw [hall]; exact R9.row
              · have EX := (EW7.trans EG2)
                refine ⟨Nat.le_trans (Nat.le_trans EGH.1 EX.1) (by simp), fun i o hi e => gs (fun q => ?_) (ga (EX.2 _ _ (fun h => ?_) (EGH.2 _ _ hi e)))⟩
                · have := (List.getElem?_eq_some_iff.mp e).1; have := EGH.1; omega
                · have := (List.getElem?_eq_some_iff.mp e).1; have := Lown _ h; omega
end Mine

/- part -/
namespace Mine
open PySem.Calls
variable {p : Params} {B : Bs (K02 p)} {d : Nat} {H H1 H2 : List AO}

noncomputable def dots : List Nat := [46, 46, 46]
noncomputable def findAll (got : List Nat) (e : Int) : List (List Nat) → Int → Bool
  | [], _ => true
  | w :: ws, s => if findI got w s e < 0 then false else findAll got e ws (findI got w s e + w.length)
noncomputable def startsB (x y : List Nat) : Bool := 0 + (sp y).length ≤ (sp x).length && Builtin.Str.subAt (sp x) (sp y) 0
noncomputable def endsB (x y : List Nat) : Bool := 0 + (sp y).length ≤ (sp x).length && Builtin.Str.subAt (sp x) (sp y) ((sp x).length - (sp y).length)
noncomputable def ell3 (got : List Nat) (ws : List (List Nat)) (s e : Int) : Bool := if s > e then false else findAll got e ws s
noncomputable def ell2 (got : List Nat) (ws : List (List Nat)) (s e : Int) : Bool :=
  let w := ws.getD (ws.length - 1) []
  if w.isEmpty then ell3 got ws s e else if endsB got w then ell3 got (ws.eraseIdx (ws.length - 1)) s (e - w.length) else false
noncomputable def ell1 (got : List Nat) (ws : List (List Nat)) : Bool :=
  let w := ws.getD 0 []
  if w.isEmpty then ell2 got ws 0 got.length else if startsB got w then ell2 got (ws.eraseIdx 0) w.length got.length else false

theorem XE.gs {W : SW} {fi : FI} {vars : List (Option AV)} {cl : List Nat} {D : AV → List AO → Prop} {pos : Pos} {x : Str} (l : List Nat) {V : Value} (hD : D (.str l) H) (hV : ∃ t, V = .str ⟨l.toArray⟩ t) (hg : nsIn W.K mainGlobals x = some (some V)) (hk : fi.kof x = some .globalImplicit := by rfl) (hd : (x == ("__debug__" : Str)) = false := by decide +kernel) : XE W d fi (.Name x pos) vars cl H D := by
  refine Classical.byContradiction fun hn0 => ?_
  obtain ⟨t, rfl⟩ := hV
  refine hn0 ?_
  clear hn0
  exact ⟨_, H, .glob hk hg (fun _ => .str l t) hd, hD⟩
theorem marker {p : Params} : ∃ V : Value, nsIn (K02 p) mainGlobals "ELLIPSIS_MARKER" = some (some V) ∧ ∃ t, V = .str ⟨dots.toArray⟩ t := ⟨_, by rfl, _, by rfl⟩

theorem strsOf_len (ws : List (List Nat)) : (strsOf ws).length = ws.length := List.length_map _
theorem strsOf_getD {ws : List (List Nat)} {k : Nat} (h : k < ws.length) : (strsOf ws)[k]? = some (.str (ws.getD k [])) := strsOf_get (by rw [List.getD_eq_getElem?_getD, List.getElem?_eq_getElem h]; rfl)
theorem strsOf_erase (ws : List (List Nat)) (k : Nat) : (strsOf ws).eraseIdx k = strsOf (ws.eraseIdx k) := by
  induction ws generalizing k with
  | nil => rfl
  | cons w ws ih => cases k with
    | zero => rfl
    | succ k => simp only [List.map_cons, List.eraseIdx_cons_succ]; rw [ih]
theorem ellipsis_spec {want got : List Nat} (hin : occ want dots = true)
    (h1 : (decide ((sp want).length < (sp dots).length) || decide (Builtin.Str.strKind (sp want) < Builtin.Str.strKind (sp dots))) = false)
    (hf : (Builtin.Str.occurrences (sp want) (sp dots) 0 (sp want).length ((sp want).length + 1)).isEmpty = false) (hx : want.length ≤ 1000) (hg : got.length ≤ 1000) (h2 : 2 ≤ (splitI want dots).length) (hn : (splitI want dots).length ≤ 1000) (hw : ∀ w ∈ splitI want dots, w.length ≤ 1000) :
    XC B.W (d + 1) (.fn 88) [.str want, .str got] [] H fun v H' => v = .bool (ell1 got (splitI want dots)) ∧ Ext [] H H' := by
  refine Classical.byContradiction fun hn0 => ?_
  obtain ⟨V, hV1, hV2⟩ := marker (p := p)
  refine hn0 ?_
  clear hn0
  refine XC.fn (bs := [("want", .str want), ("got", .str got)]) (vars0 := [some (.str want), some (.str got), none, none, none, none]) (cl0 := []) (H0 := H) ["want", "got", "ws", "startpos", "endpos", "w"] (by rfl) (by kernel_rfl) ?_ (by kernel_rfl) (by kernel_rfl) (by decide +kernel) (by kernel_rfl) rfl (List.append_nil _).symm ?_
  · exact bind2 B.kin (fun _ _ _ => rfl)
  · refine XB.cons ?_
    refine XS.ifs ?_
    refine XT.cmp ?_
    refine XE.gs dots ?_ hV2 hV1
    refine XE.lv 0 ?_
    refine ⟨_, _, .notinS, fun h => ?_, fun _ => XB.nil ?_⟩
    · rw [hin] at h; cases h
    refine XB.cons ?_
    refine XS.assign 2 ?_
    refine XE.meth ?_ (pl := _)
    refine XE.lv 0 ?_
    first | refine exM (GetM.str PySem.F.slot_str_split (by kernel_rfl)) ?_ | refine ⟨_, _, _, GetM.str PySem.F.slot_str_split (by kernel_rfl), ?_⟩
    refine XEs.cons ?_
    refine XE.gs dots ?_ hV2 hV1
    refine XEs.nil ?_
    first | refine exK .bi (CallV.split h1 rfl hf (by rw [sizeLine_eq]; omega) (by rw [sizeLine_eq]; omega)) ?_ | refine exN .bi (CallV.split h1 rfl hf (by rw [sizeLine_eq]; omega) (by rw [sizeLine_eq]; omega)) ?_ | refine ⟨.bi, _, _, CallV.split h1 rfl hf (by rw [sizeLine_eq]; omega) (by rw [sizeLine_eq]; omega), ?_⟩
    generalize splitI want dots = ws at h2 hn hw
    refine XB.cons ?_
    refine XS.assert ?_
    refine XT.cmp ?_
    refine XE.call ?_
    refine XE.bv "len" ?_
    refine XEs.cons ?_
    refine XE.lv 2 ?_
    refine XEs.nil ?_
    first | refine exK .bi (CallV.lenL gl (by rw [strsOf_len]; omega)) ?_ | refine exN .bi (CallV.lenL gl (by rw [strsOf_len]; omega)) ?_ | refine ⟨.bi, _, _, CallV.lenL gl (by rw [strsOf_len]; omega), ?_⟩
    refine XE.int ?_
    refine ⟨_, _, .geI, by rw [strsOf_len]; simp; omega, ?_⟩
    refine XB.cons ?_
    refine XS.tup2 3 4 ?_ (hw := fun env k1 k2 k3 => by have hb : env.blockKind = .function := (by rw [Env.blockKind, k1]; rfl); delta swappedStores; simp only [hb, k2, k3, List.filterMap_cons, List.filterMap_nil]; rfl)
    refine XEs.cons ?_
    refine XE.int ?_
    refine XEs.cons ?_
    refine XE.call ?_
    refine XE.bv "len" ?_
    refine XEs.cons ?_
    refine XE.lv 1 ?_
    refine XEs.nil ?_
    first | refine exK .bi (CallV.lenS (by omega)) ?_ | refine exN .bi (CallV.lenS (by omega)) ?_ | refine ⟨.bi, _, _, CallV.lenS (by omega), ?_⟩
    refine XEs.nil ?_
    refine ⟨_, _, rfl, ?_⟩
    have e0 : ∀ {X : List AO} {a b : AO}, (X ++ [a] ++ [b]).length = X.length + 2 := by intro X a b; simp
    refine XB.cons (XS.assign 5 (XE.item (XE.lv 2 (XE.int ⟨.str (ws.getD 0 []), _, .list (ga gl) (j := 0) (by rw [strsOf_len]; exact seq_nat (j := 0) (by omega)) (strsOf_getD (k := 0) (by omega)) (by rw [strsOf_len]; omega), ?_⟩))))
    have E1 : Ext [] H (H ++ [AO.list (strsOf ws)] ++ [AO.tup [.int 0, .int got.length]]) := Ext.refl.app.app
    have hl1 : (H ++ [AO.list (strsOf ws)] ++ [AO.tup [.int 0, .int got.length]])[H.length]? = some (.list (strsOf ws)) := ga gl
    generalize H ++ [AO.list (strsOf ws)] ++ [AO.tup [.int 0, .int got.length]] = G at E1 hl1
    have hw0 : (ws.getD 0 []).length ≤ 1000 := by
      rw [List.getD_eq_getElem?_getD, List.getElem?_eq_getElem (by omega)]; exact hw _ (List.getElem_mem _)
    refine XB.cons (XS.mono (D1 := fun f vars G' => (f = .ret (.bool false) ∧ ell1 got ws = false ∧ Ext [] H G') ∨ (f = .next ∧ ∃ (ws' : List (List Nat)) (s : Nat) (u : AV), vars = [some (.str want), some (.str got), some (.loc H.length), some (.int s), some (.int got.length), some u] ∧ G'[H.length]? = some (.list (strsOf ws')) ∧ 1 ≤ ws'.length ∧ ws'.length ≤ ws.length ∧ (∀ w ∈ ws', w ∈ ws) ∧ s ≤ 1000 ∧ ell2 got ws' s got.length = ell1 got ws ∧ Ext [] H G')) (XS.ifs (XT.val (XE.lv 5 ⟨_, TrV.str (x := ws.getD 0 []) (by omega), fun h => ?_, fun h => ?_⟩))) ?_)
    · have hne : (ws.getD 0 []).isEmpty = false := by simpa using h
      have hws1 : (ws.eraseIdx 0).length = ws.length - 1 := by rw [List.length_eraseIdx_of_lt (by omega)]
      refine XB.cons (XS.ifs (XT.val (XE.meth (pl := _) (XE.lv 1 ⟨_, _, _, GetM.str PySem.F.slot_str_startswith (by kernel_rfl), XEs.cons (XE.lv 5 (XEs.nil ⟨.bi, _, _, CallV.startswith, _, TrV.cbool, fun hq => ?_, fun hq => ?_⟩))⟩))))
      · refine XB.cons ?_
        refine XS.assign 3 ?_
        refine XE.call ?_
        refine XE.bv "len" ?_
        refine XEs.cons ?_
        refine XE.lv 5 ?_
        refine XEs.nil ?_
        first | refine exK .bi (CallV.lenS (by omega)) ?_ | refine exN .bi (CallV.lenS (by omega)) ?_ | refine ⟨.bi, _, _, CallV.lenS (by omega), ?_⟩
        refine XB.cons ?_
        refine XS.delI ?_
        refine XE.lv 2 ?_
        refine XE.int ?_
        refine ⟨_, _, _, 0, rfl, rfl, hl1, by rw [strsOf_len]; exact seq_nat (j := 0) (by omega), by rw [strsOf_len, sizeLine_eq]; omega, ?_⟩
        rw [strsOf_erase]
        refine XB.nil (XB.nil (.inr ⟨rfl, ws.eraseIdx 0, (ws.getD 0 []).length, _, rfl, gn hl1, by omega, by omega, fun w hw => List.mem_of_mem_eraseIdx hw, hw0, ?_, E1.set (.inr (Nat.le_refl _))⟩))
        unfold ell1
        simp only [hne, Bool.false_eq_true, if_false]
        rw [if_pos (show startsB got (ws.getD 0 []) = true from hq)]
      · refine XB.cons (XS.ret (XE.bool (.inl ⟨rfl, ?_, E1⟩)))
        unfold ell1
        simp only [hne, Bool.false_eq_true, if_false]
        rw [if_neg (by rw [show startsB got (ws.getD 0 []) = false from hq]; decide)]
    · have he : (ws.getD 0 []).isEmpty = true := by simpa using h
      refine XB.nil (.inr ⟨rfl, ws, 0, _, rfl, hl1, by omega, Nat.le_refl _, fun w hw => hw, by omega, ?_, E1⟩)
      unfold ell1
      simp only [he, if_true]
      rfl
    rintro f vars G' (⟨rfl, he, EG⟩ | ⟨rfl, ws', s, u, rfl, hl, p1, p2, p3, p4, he, EG⟩)
    · exact ⟨by rw [he]; rfl, EG⟩
    have hmem : ∀ {l : List (List Nat)}, 1 ≤ l.length → (∀ w ∈ l, w ∈ ws) → (l.getD (l.length - 1) []).length ≤ 1000 := by
      intro l hl1 hl2
      rw [List.getD_eq_getElem?_getD, List.getElem?_eq_getElem (by omega)]; exact hw _ (hl2 _ (List.getElem_mem _))
    have hw1 := hmem p1 p3
    refine XB.cons ?_
    refine XS.assign 5 ?_
    refine XE.item ?_
    refine XE.lv 2 ?_
    refine XE.un ?_
    refine XE.int ?_
    first | refine ex2 .negI ?_ | refine ⟨_, _, .negI, ?_⟩
    first | refine ex2 (v := .str (ws'.getD (ws'.length - 1) [])) (.list hl (by rw [strsOf_len]; exact seq_last (by omega)) (strsOf_getD (by omega)) (by rw [strsOf_len]; omega)) ?_ | refine ⟨.str (ws'.getD (ws'.length - 1) []), _, .list hl (by rw [strsOf_len]; exact seq_last (by omega)) (strsOf_getD (by omega)) (by rw [strsOf_len]; omega), ?_⟩
    refine XB.cons (XS.mono (D1 := fun f vars G2 => (f = .ret (.bool false) ∧ ell2 got ws' s got.length = false ∧ Ext [] H G2) ∨ (f = .next ∧ ∃ (ws2 : List (List Nat)) (e : Int) (u : AV), vars = [some (.str want), some (.str got), some (.loc H.length), some (.int s), some (.int e), some u] ∧ G2[H.length]? = some (.list (strsOf ws2)) ∧ ws2.length ≤ ws'.length ∧ (∀ w ∈ ws2, w ∈ ws) ∧ ell3 got ws2 s e = ell2 got ws' s got.length ∧ Ext [] H G2)) (XS.ifs (XT.val (XE.lv 5 ⟨_, TrV.str (x := ws'.getD (ws'.length - 1) []) (by omega), fun h => ?_, fun h => ?_⟩))) ?_)
    · have hne : (ws'.getD (ws'.length - 1) []).isEmpty = false := by simpa using h
      refine XB.cons (XS.ifs (XT.val (XE.meth (pl := _) (XE.lv 1 ⟨_, _, _, GetM.str PySem.F.slot_str_endswith (by kernel_rfl), XEs.cons (XE.lv 5 (XEs.nil ⟨.bi, _, _, CallV.endswith, _, TrV.cbool, fun hq => ?_, fun hq => ?_⟩))⟩))))
      · refine XB.cons ?_
        refine XS.aug 4 ?_
        refine XE.call ?_
        refine XE.bv "len" ?_
        refine XEs.cons ?_
        refine XE.lv 5 ?_
        refine XEs.nil ?_
        refine ⟨.bi, _, _, CallV.lenS (by omega), _, _, .isubI, ?_⟩
        refine XB.cons ?_
        refine XS.delI ?_
        refine XE.lv 2 ?_
        refine XE.un ?_
        refine XE.int ?_
        first | refine ex2 .negI ?_ | refine ⟨_, _, .negI, ?_⟩
        refine ⟨_, _, _, ws'.length - 1, rfl, rfl, hl, by rw [strsOf_len]; exact seq_last (by omega), by rw [strsOf_len, sizeLine_eq]; omega, ?_⟩
        rw [strsOf_erase]
        refine XB.nil (XB.nil (.inr ⟨rfl, ws'.eraseIdx (ws'.length - 1), (got.length : Int) - (ws'.getD (ws'.length - 1) []).length, _, rfl, gn hl, by rw [List.length_eraseIdx_of_lt (by omega)]; omega, fun w hw => p3 _ (List.mem_of_mem_eraseIdx hw), ?_, EG.set (.inr (Nat.le_refl _))⟩))
        unfold ell2
        simp only [hne, Bool.false_eq_true, if_false]
        rw [if_pos (show endsB got (ws'.getD (ws'.length - 1) []) = true from hq)]
      · refine XB.cons (XS.ret (XE.bool (.inl ⟨rfl, ?_, EG⟩)))
        unfold ell2
        simp only [hne, Bool.false_eq_true, if_false]
        rw [if_neg (by rw [show endsB got (ws'.getD (ws'.length - 1) []) = false from hq]; decide)]
    · have he : (ws'.getD (ws'.length - 1) []).isEmpty = true := by simpa using h
      refine XB.nil (.inr ⟨rfl, ws', got.length, _, rfl, hl, Nat.le_refl _, p3, ?_, EG⟩)
      unfold ell2
      simp only [he, if_true]
    rintro f vars G2 (⟨rfl, he2, EG2⟩ | ⟨rfl, ws2, e, u, rfl, hl2, q1, q2, he2, EG2⟩)
    · exact ⟨by rw [← he, he2]; rfl, EG2⟩
    have hgl : ell1 got ws = ell3 got ws2 s e := by rw [← he, ← he2]
    rw [hgl]
    refine XB.cons ?_
    refine XS.ifs ?_
    refine XT.cmp ?_
    refine XE.lv 3 ?_
    refine XE.lv 4 ?_
    first | refine ex2 .gtI ⟨fun h => ?_, fun h => ?_⟩ | refine ⟨_, _, .gtI, fun h => ?_, fun h => ?_⟩
    · refine XB.cons (XS.ret (XE.bool ⟨?_, EG2⟩))
      unfold ell3; rw [if_pos (by simpa using h)]; rfl
    · refine XB.nil ?_
      have h3 : ell3 got ws2 s e = findAll got e ws2 s := by unfold ell3; rw [if_neg (by simpa using h)]
      rw [h3]
      have hw2 : ∀ (k : Nat) (w : List Nat), ws2[k]? = some w → w.length ≤ 1000 := fun k w hk => hw _ (q2 _ (List.mem_of_getElem? hk))
      refine XB.cons ?_
      refine XS.for ?_
      refine XE.lv 2 ?_
      first | refine exF (IterV.list hl2) ?_ | refine ⟨_, IterV.list hl2, ?_⟩
      refine XF.lst 5 (fun k vars H' => ∃ (s' : Int) (u : AV), vars = [some (.str want), some (.str got), some (.loc H.length), some (.int s'), some (.int e), some u] ∧ H' = G2 ∧ findAll got e (ws2.drop k) s' = findAll got e ws2 s) hl2 (fun k vars H' ⟨_, _, _, h, _⟩ => by rw [h]; exact hl2) ?_ ?_ ⟨_, _, rfl, rfl, rfl⟩
      · intro k v hv vars _ hh0
        refine Classical.byContradiction fun hn0 => ?_
        obtain ⟨s', u, rfl, rfl, hs⟩ := hh0
        refine hn0 ?_
        clear hn0
        refine Classical.byContradiction fun hn0 => ?_
        obtain ⟨w, hwk⟩ : ∃ w, ws2[k]? = some w := ⟨_, List.getElem?_eq_getElem (by have := (List.getElem?_eq_some_iff.mp hv).1; rwa [strsOf_len] at this)⟩
        refine hn0 ?_
        clear hn0
        have hvv : v = .str w := by rw [strsOf_get hwk] at hv; exact (Option.some.inj hv).symm
        subst hvv
        have hwl := hw2 k w hwk
        have hd : ws2.drop k = w :: ws2.drop (k + 1) := by
          refine Classical.byContradiction fun hn0 => ?_
          obtain ⟨h1, rfl⟩ := List.getElem?_eq_some_iff.mp hwk
          refine hn0 ?_
          clear hn0
          exact List.drop_eq_getElem_cons h1
        rw [hd] at hs
        refine XB.cons ?_
        refine XS.assign 3 ?_
        refine XE.meth ?_ (pl := _)
        refine XE.lv 1 ?_
        first | refine exM (GetM.str PySem.F.slot_str_find (by kernel_rfl)) ?_ | refine ⟨_, _, _, GetM.str PySem.F.slot_str_find (by kernel_rfl), ?_⟩
        refine XEs.cons ?_
        refine XE.lv 5 ?_
        refine XEs.cons ?_
        refine XE.lv 3 ?_
        refine XEs.cons ?_
        refine XE.lv 4 ?_
        refine XEs.nil ?_
        first | refine exK .bi CallV.find ?_ | refine exN .bi CallV.find ?_ | refine ⟨.bi, _, _, CallV.find, ?_⟩
        refine XB.cons ?_
        refine XS.ifs ?_
        refine XT.cmp ?_
        refine XE.lv 3 ?_
        refine XE.int ?_
        first | refine ex2 .ltI ⟨fun h => ?_, fun h => ?_⟩ | refine ⟨_, _, .ltI, fun h => ?_, fun h => ?_⟩
        · refine XB.cons (XS.ret (XE.bool ⟨?_, EG2⟩))
          rw [← hs, findAll, if_pos (by simpa using h)]; rfl
        · refine XB.nil ?_
          refine XB.cons ?_
          refine XS.aug 3 ?_
          refine XE.call ?_
          refine XE.bv "len" ?_
          refine XEs.cons ?_
          refine XE.lv 5 ?_
          refine XEs.nil ?_
          refine ⟨.bi, _, _, CallV.lenS (by omega), _, _, .iaddI, ?_⟩
          refine XB.nil ⟨_, _, rfl, rfl, ?_⟩
          rw [← hs, findAll, if_neg (by simpa using h)]
      · intro vars _ hh0
        refine Classical.byContradiction fun hn0 => ?_
        obtain ⟨s', u, rfl, rfl, hs⟩ := hh0
        refine hn0 ?_
        clear hn0
        rw [strsOf_len, List.drop_length] at hs
        refine XB.cons (XS.ret (XE.bool ⟨?_, EG2⟩))
        rw [← hs]; rfl
end Mine

/- part -/
namespace Mine
open PySem.Calls
variable {W : SW} {d : Nat} {fi fi' : FI} {vars vars' vars'' : List (Option AV)} {cl cl' : List Nat} {H H' H1 H2 H3 H4 : List AO} {a b c v f ov : AV} {e l r elt : PySem.Expr} {pos : Pos} {vs : List AV}
variable {D : AV → List AO → Prop} {DT : Bool → List AO → Prop} {DF : AF → List (Option AV) → List AO → Prop}

theorem OpV.eqB {x y : Bool} : OpV W (compareOp .Eq) (.bool x) (.bool y) H (.bool (x == y)) H := by
  intro A ρ s X Y Q E rm sr hx hy K; cases hx; cases hy; exact SeqAt.RcAt.bool_bool x y _ _ E _ (K ρ _ _ s.toks (.refl sr) (.bool _))
theorem EvE.sliceRo {value : PySem.Expr} {lower upper : Option PySem.Expr} {p : Pos} {lo hi : Option Int} {i : Nat} {xs : List AV} (h1 : EvE W d fi value vars cl H (.loc i) H1) (h2 : EvP W d fi lower vars cl H1 lo H2) (h3 : EvP W d fi upper vars cl H2 hi H3) (ho : H3[i]? = some (.ro xs)) (hz : xs.length ≤ sizeLine) :
    EvE W d fi (.Subscript value (.Slice lower upper Option.none p) pos) vars cl H (.loc H3.length) (H3 ++ [.list (pk xs lo hi)]) := by
  intro A env L ρ s Q E rm eo sr fr K
  refine Subscript_ (h1 A env L ρ s _ E rm eo sr fr fun ρ1 V1 g1 t1 p1 v1 => ?_)
  refine wpAny_Slice (h2.run rm (p1.env eo) p1.sr (p1.fr fr) fun ρ2 V2 g2 t2 p2 _ v2 => ?_)
  have P2 := p1.trans p2
  refine h3.run rm (P2.env eo) p2.sr (P2.fr fr) fun ρ3 V3 g3 t3 p3 _ v3 => ?_
  rw [evalPart_none]
  refine wpAny_pure ?_
  have P3 := P2.trans p3
  cases p3.vrel (p2.vrel v1) with
  | loc hi' =>
    obtain ⟨vs, e0, hv⟩ := p3.sr.obj i _ _ ho hi'
    have hl : ∀ o, (g3.push o).IsList _ vs.toArray := fun o => e0.at fun _ e => Heap.get?_push_of_some _ (p3.sr.base _ _ e)
    refine tail_gen (ops := [_, _]) (hl _).typeIs slot_list_getitem.lookup (wpAny_getItem_list_slice (hl _) (Heap.IsSliceOf.new ..) v2 v3 .none (by simp) ?_ (by simp [← hv.length]; omega)) rfl
    rw [kms_pick_eq]
    exact K _ _ _ _ (P3.trans (p3.sr.alloc ((Grow.push _ _).trans (.push _ _)) (noneAt (by simp [Heap.size_push])) ⟨_, 0, Heap.get?_push_size _ rfl, by simpa using hv.pk.mono⟩)) p3.sr.newLoc
theorem XE.sliceRo {value : PySem.Expr} {lower upper : Option PySem.Expr} {p : Pos} (h : XE W d fi value vars cl H fun a H1 => XP W d fi lower vars cl H1 fun lo H2 => XP W d fi upper vars cl H2 fun hi H3 =>
    ∃ i xs, a = .loc i ∧ H3[i]? = some (.ro xs) ∧ xs.length ≤ sizeLine ∧ D (.loc H3.length) (H3 ++ [.list (pk xs lo hi)])) :
    XE W d fi (.Subscript value (.Slice lower upper Option.none p) pos) vars cl H D := by
  obtain ⟨a, H1, h1, lo, H2, h2, hi, H3, h3, i, xs, rfl, ho, hz, hD⟩ := h
  exact ⟨_, _, .sliceRo h1 h2 h3 ho hz, hD⟩
theorem pk_take {α : Type} (l : List α) (n : Nat) : pk l none (some (n : Int)) = l.take n := by
  unfold pk kms_lo kms_hi
  simp only [List.drop_zero, Nat.sub_zero]
  rw [if_neg (by omega), Int.toNat_natCast]
  by_cases h : n ≤ l.length
  · rw [Nat.min_eq_left h]
  · rw [Nat.min_eq_right (by omega), List.take_of_length_le (Nat.le_refl _), List.take_of_length_le (by omega)]
theorem pk_drop {α : Type} (l : List α) (n : Nat) : pk l (some (n : Int)) none = l.drop n := by
  unfold pk kms_lo kms_hi
  simp only
  rw [if_neg (by omega), Int.toNat_natCast]
  by_cases h : n ≤ l.length
  · rw [Nat.min_eq_left h, List.take_of_length_le (by simp)]
  · rw [Nat.min_eq_right (by omega), List.drop_of_length_le (Nat.le_refl _), List.drop_of_length_le (by omega)]; simp
theorem pk_init {α : Type} (l : List α) : pk l none (some (-1)) = l.dropLast := by
  unfold pk kms_lo kms_hi
  simp only [List.drop_zero, Nat.sub_zero]
  rw [if_pos (by decide), List.dropLast_eq_take]; rfl

/- the list at rl holds the lists of ints rows -/
noncomputable def RowsL (H : List AO) (rl : Nat) (rows : List (List Int)) : Prop := ∃ js : List Nat, H[rl]? = some (.list (js.map AV.loc)) ∧ js.length = rows.length ∧ ∀ (k j : Nat) (row : List Int), js[k]? = some j → rows[k]? = some row → H[j]? = some (.list (intsOf row))
theorem RowsL.ext {S : List Nat} {rl : Nat} {rows : List (List Int)} (x : RowsL H rl rows) (e : Ext S H H1) (h1 : rl ∉ S) (h2 : ∀ i ∈ S, ∀ row ∈ rows, H[i]? ≠ some (.list (intsOf row))) : RowsL H1 rl rows := by
  obtain ⟨js, a1, a2, a3⟩ := x
  refine ⟨js, e.2 _ _ h1 a1, a2, fun k j row hj hr => e.2 _ _ (fun h => h2 j h row (List.mem_of_getElem? hr) (a3 k j row hj hr)) (a3 k j row hj hr)⟩
theorem RowsL.dat {rl : Nat} {rows : List (List Int)} (x : RowsL H rl rows) : Dat H (.loc rl) (.list (rows.map fun row => .list (row.map .int))) := by
  obtain ⟨js, a1, a2, a3⟩ := x
  refine .list a1 ?_
  have key : ∀ (js : List Nat) (rows : List (List Int)), js.length = rows.length → (∀ (k j : Nat) (row : List Int), js[k]? = some j → rows[k]? = some row → H[j]? = some (.list (intsOf row))) → DatL H (js.map AV.loc) (rows.map fun row => .list (row.map .int)) := by
    intro js
    induction js with
    | nil => intro rows h _; cases rows with | nil => exact .nil | cons => cases h
    | cons j js ih => intro rows h hg; cases rows with
      | nil => cases h
      | cons row rows => exact .cons (.list (hg 0 j row rfl rfl) .ints) (ih rows (by simpa using h) fun k j row h1 h2 => hg (k + 1) j row h1 h2)
  exact key js rows a2 a3
theorem canLay_rows (rows : List (List Int)) : PyData.canLayAll0 (rows.map fun row => .list (row.map .int)) = true := by
  induction rows with
  | nil => rfl
  | cons r rows ih => simp [PyData.canLayAll0, PyData.canLay0, ih, canLay_ints]
theorem depth_rows (rows : List (List Int)) : PyData.depthAll (rows.map fun row => .list (row.map .int)) ≤ 1 := by
  induction rows with
  | nil => exact Nat.zero_le _
  | cons r rows ih => simp only [List.map_cons, PyData.depthAll, PyData.depth, depth_ints]; omega
theorem RowsL.len {rl : Nat} {rows : List (List Int)} (x : RowsL H rl rows) : ∃ xs, H[rl]? = some (.list xs) ∧ xs.length = rows.length := by
  obtain ⟨js, a1, a2, _⟩ := x
  exact ⟨_, a1, by rw [List.length_map, a2]⟩
theorem RowsL.item {rl k : Nat} {rows : List (List Int)} (x : RowsL H rl rows) (hk : k < rows.length) : ∃ xs j, H[rl]? = some (.list xs) ∧ xs.length = rows.length ∧ xs[k]? = some (.loc j) ∧ H[j]? = some (.list (intsOf (rows.getD k []))) := by
  obtain ⟨js, a1, a2, a3⟩ := x
  have h1 : k < js.length := by omega
  refine ⟨_, js[k], a1, by rw [List.length_map, a2], by rw [List.getElem?_map, List.getElem?_eq_getElem h1]; rfl, a3 k _ _ (List.getElem?_eq_getElem h1) ?_⟩
  rw [List.getD_eq_getElem?_getD, List.getElem?_eq_getElem hk]; rfl
theorem RowsL.sub {rl : Nat} {rows : List (List Int)} (x : RowsL H rl rows) {xs : List AV} (h : H[rl]? = some (.list xs)) : RowsL (H ++ [.list xs.dropLast]) H.length rows.dropLast ∧ ∀ n, RowsL (H ++ [.list (xs.drop n)]) H.length (rows.drop n) := by
  obtain ⟨js, a1, a2, a3⟩ := x
  rw [h] at a1; cases a1
  refine ⟨⟨js.dropLast, by rw [gl, List.map_dropLast], by simp [a2], fun k j row h1 h2 => ga (a3 k j row ?_ ?_)⟩, fun n => ⟨js.drop n, by rw [gl, List.map_drop], by simp [a2], fun k j row h1 h2 => ga (a3 (n + k) j row ?_ ?_)⟩⟩
  · rw [List.getElem?_dropLast] at h1
    split at h1
    · exact h1
    · cases h1
  · rw [List.getElem?_dropLast] at h2
    split at h2
    · exact h2
    · cases h2
  · rwa [List.getElem?_drop] at h1
  · rwa [List.getElem?_drop] at h2

/- what the law computes of its numbers -/
noncomputable def drawnOf (ns : List Int) : List Int := (ns.take 12).map fun z => z.fmod 1000000
noncomputable def sum1 (ns : List Int) : Int := (drawnOf ns).sum
noncomputable def sum2 (ns : List Int) : Int := 85 + ((drawnOf ns).map fun z => z.fdiv 7).sum
noncomputable def totalOf (ns : List Int) : Nat := (4 + (4 + sum1 ns).fmod 7).toNat
noncomputable def stepsOf (total : Nat) : Nat := if total < 7 then 3 else 4
theorem totalOf_eq (ns : List Int) : 4 + (4 + sum1 ns).fmod 7 = (totalOf ns : Int) ∧ 4 ≤ totalOf ns ∧ totalOf ns ≤ 10 := by
  have h1 : (4 + sum1 ns).fmod 7 = (4 + sum1 ns) % 7 := Int.fmod_eq_emod_of_nonneg _ (by decide)
  unfold totalOf
  rw [h1]
  omega
/- the numbers of the piles, in order -/
noncomputable def srtI (l : List Int) : List Int := l.mergeSort (fun a b => decide (a ≤ b))
/- what the law asks of one way -/
structure Run (piles : List Nat) (steps : Nat) (rows : List (List Int)) (letters : List Nat) : Prop where
  pok : PileOk piles
  all : ∃ last, rowsAll piles steps = rows ++ [last] ∧ rows.getD (rows.length - 1) [] = last
  len : steps + 1 ≤ rows.length
  le : rows.length ≤ 60
  small : ∀ row ∈ rows, 1 ≤ row.length ∧ row.length ≤ 10
  first : rows.getD 0 [] = srtI (piles.map Int.ofNat)
  next : ∀ k, 1 ≤ k → k < rows.length - steps → rows.getD k [] = srtI (((rows.getD (k - 1) []).filter (fun z => decide (z > 1))).map (fun z => z - 1) ++ [((rows.getD (k - 1) []).length : Int)])
  letsLen : letters.length = steps
  lets : letters = (moreS (rows.getD (rows.length - 1 - steps) []) steps ++ List.replicate steps 97).take steps
  ends : (rows.drop (rows.length - 1 - steps)).map (fun row => moreS row steps) = (List.range (steps + 1)).map (fun k => letters.drop k ++ letters.take k)
  ab : ∀ c ∈ letters, c < 200
noncomputable def meets (R1 R2 : List (List Int)) : Bool := R1.any fun r => R2.contains r
noncomputable def tells (l1 l2 : List Nat) : Bool := ell1 (l2 ++ l2) (splitI (dots ++ l1 ++ dots) dots)
theorem OpV.mulS34 {c n : Nat} (h : n = 3 ∨ n = 4) : OpV W (binaryOp .Mult) (.str [c]) (.int n) H (.str (List.replicate n c)) H := by
  intro A ρ s X Y Q E rm sr hx hy K
  rcases h with rfl | rfl
  · cases hx; cases hy
    refine P.mul_str (by decide) (fun _ _ => by show ¬ ((1 : Int) > _); decide) (fun _ _ => by show Builtin.Str.tooLong 3 = false; decide) ?_
    rw [if_neg (by decide), if_neg (show ¬ (((3 : Nat) : Int) == 1 || Str.length ⟨#[c]⟩ == 0) = true from Bool.false_ne_true)]
    exact ⟨by show 3 ≤ sizeLine; decide, K ρ _ _ _ (.refl sr) (.str [c, c, c] _)⟩
  · cases hx; cases hy
    refine P.mul_str (by decide) (fun _ _ => by show ¬ ((1 : Int) > _); decide) (fun _ _ => by show Builtin.Str.tooLong 4 = false; decide) ?_
    rw [if_neg (by decide), if_neg (show ¬ (((4 : Nat) : Int) == 1 || Str.length ⟨#[c]⟩ == 0) = true from Bool.false_ne_true)]
    exact ⟨by show 4 ≤ sizeLine; decide, K ρ _ _ _ (.refl sr) (.str [c, c, c, c] _)⟩
theorem XE.mono {D1 : AV → List AO → Prop} (h : XE W d fi e vars cl H D1) (hD : ∀ v H', D1 v H' → D v H') : XE W d fi e vars cl H D := by
  obtain ⟨v, H', h1, h2⟩ := h; exact ⟨v, H', h1, hD _ _ h2⟩
theorem XL.mono {D1 DL : List AV → List AO → Prop} {x : Str} {ifs : List PySem.Expr} {it : It} {outs : List AV} (h : XL W d fi elt x ifs vars cl H it outs D1) (hD : ∀ v H', D1 v H' → DL v H') : XL W d fi elt x ifs vars cl H it outs DL := by
  obtain ⟨v, H', h1, h2⟩ := h; exact ⟨v, H', h1, hD _ _ h2⟩
theorem Items.ext {it : It} (h : Items H it vs) (e : Ext [] H H1) : Items H1 it vs := by
  cases it with
  | list l i => obtain ⟨xs, h1, h2⟩ := h; exact ⟨xs, e.2 _ _ (by simp) h1, h2⟩
  | tup l i => obtain ⟨xs, h1, h2⟩ := h; exact ⟨xs, e.2 _ _ (by simp) h1, h2⟩
  | rng x n => exact h
  | chars cs => exact h
  | citer k => exact h
/- a comprehension that only lays new objects -/
theorem XL.grow {DL : List AV → List AO → Prop} {x : Str} {it : It} {ys : List AV} (i : Nat) (I : List (Option AV) → Prop)
    (hI2 : ∀ vars v, I vars → I (vars.set i (some v)))
    (hg : ∀ (k : Nat) (v y : AV), vs[k]? = some v → ys[k]? = some y → ∀ vars G, I vars → Ext [] H G → XE W d fi elt (vars.set i (some v)) cl G fun u H2 => u = y ∧ Ext [] G H2)
    (hl : ys.length = vs.length) (hz : vs.length ≤ sizeLine) (hi : Items H it vs) (hI : I vars) (hD : ∀ G, Ext [] H G → DL ys G)
    (hn : fi.ns[i]? = some x := by rfl) (hk : fi.kof x = some .local := by rfl) (hnd : fi.ns.Nodup := by decide +kernel) :
    XL W d fi elt x [] vars cl H it [] DL := by
  refine XL.inv i (fun n vars G it' outs => ∃ k, k ≤ vs.length ∧ Ext [] H G ∧ Items G it' (vs.drop k) ∧ outs = ys.take k ∧ n = vs.length - k ∧ I vars) ?_ hn hk hnd _ _ _ _ _ ⟨0, Nat.zero_le _, Ext.refl, by simpa using hi, by simp, rfl, hI⟩
  rintro n vars G it' outs ⟨k, hk', eG, h1, rfl, rfl, hI⟩
  refine ⟨by rw [List.length_take]; omega, ?_⟩
  rcases Nat.lt_or_eq_of_le hk' with hlt | rfl
  · obtain ⟨v, hv⟩ : ∃ v, vs[k]? = some v := ⟨_, List.getElem?_eq_getElem hlt⟩
    obtain ⟨y, hy⟩ : ∃ y, ys[k]? = some y := ⟨_, List.getElem?_eq_getElem (by omega)⟩
    have hd : vs.drop k = v :: vs.drop (k + 1) := by
      obtain ⟨h1, rfl⟩ := List.getElem?_eq_some_iff.mp hv
      exact List.drop_eq_getElem_cons h1
    rw [hd] at h1
    obtain ⟨h2, h3⟩ := h1.next (W := W) (d := d)
    obtain ⟨u, H2, h4, rfl, h5⟩ := hg k v y hv hy vars G hI eG
    refine .inr ⟨v, _, _, h2, XTs.nil ⟨fun h => (nomatch h), fun _ => ⟨u, H2, h4, vs.length - (k + 1), by omega, k + 1, hlt, eG.trans h5, h3.ext h5, ?_, rfl, hI2 _ _ hI⟩⟩⟩
    rw [List.take_add_one, hy]; rfl
  · refine .inl ⟨G, ?_, ?_⟩
    · rw [List.drop_length] at h1; exact h1.stop
    · rw [← hl, List.take_length]; exact hD _ eG
theorem seq_back {n k : Nat} (h1 : 1 ≤ k) (h : k ≤ n) : seqIndex? (-(k : Int)) n = some (n - k) := by
  unfold seqIndex?
  simp only [show -(k : Int) < 0 by omega, if_true]
  rw [if_pos (by simp; omega)]
  congr 1; omega
end Mine

/- part -/
namespace Mine
open PySem.Calls
variable {p : Params} {B : Bs (K02 p)} {d : Nat} {H H1 H2 : List AO}

/- what _ellipsis_match asks of the first word -/
structure EllOk (want : List Nat) : Prop where
  hin : occ want dots = true
  h1 : (decide ((sp want).length < (sp dots).length) || decide (Builtin.Str.strKind (sp want) < Builtin.Str.strKind (sp dots))) = false
  hf : (Builtin.Str.occurrences (sp want) (sp dots) 0 (sp want).length ((sp want).length + 1)).isEmpty = false
  hx : want.length ≤ 1000
  h2 : 2 ≤ (splitI want dots).length
  hn : (splitI want dots).length ≤ 1000
  hw : ∀ w ∈ splitI want dots, w.length ≤ 1000
theorem tab_ext {K : Frag} {t : Nat} {S : List Nat} (x : TabOk K t H) (e : Ext S H H1) (h : ∀ i ∈ S, ∃ o, H[i]? = some o ∧ (∀ q, o ≠ .code q) ∧ (∀ a b, o ≠ .tab a b)) : TabOk K t H1 := by
  refine x.ext e (fun q => ?_) (fun i q hi h2 => ?_)
  · refine Classical.byContradiction fun hn0 => ?_
    obtain ⟨es, h1, _⟩ := x
    refine hn0 ?_
    clear hn0
    refine Classical.byContradiction fun hn0 => ?_
    obtain ⟨o, h2, _, h3⟩ := h t q
    refine hn0 ?_
    clear hn0
    rw [h1] at h2; cases h2; exact h3 _ _ rfl
  · refine Classical.byContradiction fun hn0 => ?_
    obtain ⟨o, h3, h4, _⟩ := h i hi
    refine hn0 ?_
    clear hn0
    rw [h2] at h3; cases h3; exact h4 _ rfl
theorem tab_ne {K : Frag} {t i : Nat} {o : AO} (x : TabOk K t H) (h : H[i]? = some o) (h3 : ∀ a b, o ≠ .tab a b) : i ∉ [t] := by
  intro q
  rw [List.mem_singleton] at q; subst q
  refine Classical.byContradiction fun hn0 => ?_
  obtain ⟨es, h1, _⟩ := x
  refine hn0 ?_
  clear hn0
  rw [h1] at h; cases h; exact h3 _ _ rfl
theorem canL_rows (rows : List (List Int)) : (PyData.list (rows.map fun row => .list (row.map .int))).canLay0 = true := by simpa [PyData.canLay0] using canLay_rows rows
theorem moreS_len (row : List Int) (steps : Nat) : (moreS row steps).length ≤ steps := by
  unfold moreS
  split
  · exact Nat.zero_le _
  · split
    · simp [moreI]
    · exact Nat.zero_le _
theorem DatL.rows {vs : List AV} (h : ∀ v ∈ vs, ∃ row : List Int, Dat H v (.list (row.map .int))) : ∃ rows : List (List Int), DatL H vs (rows.map fun row => .list (row.map .int)) ∧ rows.length = vs.length := by
  induction vs with
  | nil => exact ⟨[], .nil, rfl⟩
  | cons v vs ih =>
    refine Classical.byContradiction fun hn0 => ?_
    obtain ⟨row, h1⟩ := h v (.head _)
    refine hn0 ?_
    clear hn0
    refine Classical.byContradiction fun hn0 => ?_
    obtain ⟨rows, h2, h3⟩ := ih fun v hv => h v (.tail _ hv)
    refine hn0 ?_
    clear hn0
    exact ⟨row :: rows, .cons h1 h2, by simp [h3]⟩
theorem any_eqv (rows : List (List Int)) (row : List Int) : ((rows.map fun row => PyData.list (row.map .int)).any fun y => PyData.eqv y (.list (row.map .int))) = rows.contains row := by
  induction rows with
  | nil => rfl
  | cons r rows ih =>
    rw [List.map_cons, List.any_cons, ih, eqv_ints, List.contains_cons]
    congr 1
    rw [Bool.eq_iff_iff, beq_iff_eq, beq_iff_eq]; exact eq_comm
theorem ints_locs {row : List Int} {js : List Nat} (h : 1 ≤ row.length) : js.map AV.loc ≠ intsOf row := by
  cases row with
  | nil => cases h
  | cons r row => cases js with
    | nil => simp [intsOf]
    | cons j js => simp [intsOf]
theorem ints_strs {row : List Int} {ys : List (List Nat)} (h : 1 ≤ row.length) : strsOf ys ≠ intsOf row := by
  cases row with
  | nil => cases h
  | cons r row => cases ys with
    | nil => simp [intsOf]
    | cons j js => simp [intsOf]
/- what holds between the turns of the law's loop over its two numbers -/
inductive LI (K : Frag) (t i dl T sd sn tl c0 st : Nat) (nums : List AV) (Rs : List (List (List Int))) (ls : List (List Nat)) (rest : List AV) (vars : List (Option AV)) (G : List AO) : Prop
  | mk (k : Nat) (rls : List Nat) (u1 u5 u6 u7 u8 : Option AV) (hk : k ≤ 2) (hrest : rest = nums.drop k) (hv : vars = [some (.loc i), u1, some (.loc dl), some (.int T), some (.loc sd), u5, u6, u7, u8, none])
      (hc0 : G[c0]? = some (.cell (some (.int st)))) (hc1 : G[c0 + 1]? = some (.cell (some (.loc sn)))) (uc : Option AV) (hc2 : G[c0 + 2]? = some (.cell uc)) (htl : G[tl]? = some (.tup nums)) (hsd : G[sd]? = some (.list (strsOf (ls.take k)))) (hsn : G[sn]? = some (.list (rls.map AV.loc))) (hrl : rls.length = k) (tab : TabOk K t G)
      (hR : ∀ (j rl : Nat) (R : List (List Int)), rls[j]? = some rl → Rs[j]? = some R → RowsL G rl R ∧ tl < rl) : LI K t i dl T sd sn tl c0 st nums Rs ls rest vars G
inductive LE (K : Frag) (t i dl T sd sn c0 : Nat) (Rs : List (List (List Int))) (ls : List (List Nat)) (vars : List (Option AV)) (G : List AO) : Prop
  | mk (rls : List Nat) (u1 u5 u6 u7 u8 : Option AV) (hv : vars = [some (.loc i), u1, some (.loc dl), some (.int T), some (.loc sd), u5, u6, u7, u8, none]) (hc1 : G[c0 + 1]? = some (.cell (some (.loc sn)))) (hsd : G[sd]? = some (.list (strsOf ls))) (hsn : G[sn]? = some (.list (rls.map AV.loc))) (hrl : rls.length = 2)
      (hR : ∀ (j rl : Nat) (R : List (List Int)), rls[j]? = some rl → Rs[j]? = some R → RowsL G rl R) (tab : TabOk K t G) : LE K t i dl T sd sn c0 Rs ls vars G
set_option maxHeartbeats 8000000 in
theorem law_spec {i t : Nat} {ns : List Int} {R1 R2 : List (List Int)} {l1 l2 : List Nat} (C : CodeHd B.h₀ 94 90) (hT : TabOk (K02 p) t H) (ho : H[i]? = some (.ro (intsOf ns))) (hn : ns.length ≤ 63)
    (r1 : Run (pilesTo (sum1 ns) (totalOf ns - 1)) (stepsOf (totalOf ns)) R1 l1) (r2 : Run (pilesTo (sum2 ns) (totalOf ns - 1)) (stepsOf (totalOf ns)) R2 l2) (el : EllOk (dots ++ l1 ++ dots)) (hm : tells l1 l2 = meets R1 R2) :
    XC B.W (d + 7) (.fn 134) [.loc i] [] H fun v H' => v = .bool true ∧ TabOk (K02 p) t H' := by
  refine Classical.byContradiction fun hn0 => ?_
  obtain ⟨eT, T4, T10⟩ := totalOf_eq ns
  refine hn0 ?_
  clear hn0
  have hst : stepsOf (totalOf ns) = 3 ∨ stepsOf (totalOf ns) = 4 := by unfold stepsOf; split <;> simp
  refine XC.fn (bs := [("script", .loc i)]) (vars0 := [some (.loc i), none, none, none, none, none, none, none, none, none]) (cl0 := [H.length, H.length + 1, H.length + 2]) (H0 := H ++ [.cell none, .cell none, .cell none]) ["script", "number", "drawn", "total", "said", "piles", "rows", "k", "ends", "meet"] (by rfl) (by kernel_rfl) ?_ (by kernel_rfl) (by kernel_rfl) (by decide +kernel) (by kernel_rfl) rfl rfl ?_
  · exact bind1 B.kin (fun _ _ => rfl)
  · have hc0 : (H ++ [AO.cell none, AO.cell none, AO.cell none])[H.length]? = some (.cell none) := by simp
    have hc1 : (H ++ [AO.cell none, AO.cell none, AO.cell none])[H.length + 1]? = some (.cell none) := by simp
    have hc2 : (H ++ [AO.cell none, AO.cell none, AO.cell none])[H.length + 2]? = some (.cell none) := by simp
    have ho0 : (H ++ [AO.cell none, AO.cell none, AO.cell none])[i]? = some (.ro (intsOf ns)) := ga ho
    have tab0 : TabOk (K02 p) t (H ++ [AO.cell none, AO.cell none, AO.cell none]) := tab_ext hT (S := []) Ext.refl.app (by simp)
    generalize H ++ [AO.cell none, AO.cell none, AO.cell none] = G at hc0 hc1 hc2 ho0 tab0
    generalize hC0 : H.length = c0 at hc0 hc1 hc2
    have vlen : ∀ vars : List (Option AV), vars.length = 1 → ∃ m, vars = [m] := fun vars hI => by cases vars with | nil => cases hI | cons m t => cases t with | nil => exact ⟨m, rfl⟩ | cons => cases hI
    -- drawn
    refine XB.cons ?_
    refine XS.compL 2 ["number"] [] ?_ (fun j y h => by cases j <;> cases h)
    refine XE.sliceRo ?_
    refine XE.lv 0 ?_
    refine XP.none ?_
    refine XP.some ?_
    refine XE.int ?_
    refine ⟨_, rfl, _, _, rfl, ho0, by rw [intsOf_len, sizeLine_eq]; omega, ?_⟩
    have e1 : pk (intsOf ns) none (some 12) = intsOf (ns.take 12) := (pk_take (intsOf ns) 12).trans (by simp [intsOf, List.map_take])
    rw [e1]
    have h12 : (ns.take 12).length ≤ 12 := by rw [List.length_take]; omega
    first | refine exI (IterV.list gl) rfl ?_ | refine ⟨_, IterV.list gl, rfl, ?_⟩
    refine XL.pure 0 (vs := intsOf (ns.take 12)) (fun _ => true) (fun v => match v with | .int z => .int (z.fmod 1000000) | a => a) (fun vars => vars.length = 1) (fun v hv vars hI => ⟨by simpa using hI, XTs.nil ⟨rfl, rfl⟩⟩) (fun v hv _ vars hI => ?_) (by rw [intsOf_len, sizeLine_eq]; omega) ⟨_, gl, rfl⟩ rfl ?_
    · refine Classical.byContradiction fun hn0 => ?_
      obtain ⟨z, _, rfl⟩ := List.mem_map.mp hv
      refine hn0 ?_
      clear hn0
      refine Classical.byContradiction fun hn0 => ?_
      obtain ⟨m, rfl⟩ := vlen vars hI
      refine hn0 ?_
      clear hn0
      refine XE.bin ?_
      refine XE.lv 0 ?_
      refine XE.int ?_
      first | refine ex2 (.modI (by decide)) ⟨rfl, rfl⟩ | refine ⟨_, _, .modI (by decide), rfl, rfl⟩
    have e2 : ((intsOf (ns.take 12)).filter fun _ => true).map (fun v => match v with | .int z => AV.int (z.fmod 1000000) | a => a) = intsOf (drawnOf ns) := by
      rw [List.filter_eq_self.mpr (fun _ _ => rfl)]; simp [intsOf, drawnOf, List.map_map, Function.comp_def]
    rw [e2]
    dsimp only [CompLK]
    have hd0 : (G ++ [AO.list (intsOf (ns.take 12))] ++ [AO.list (intsOf (drawnOf ns))])[(G ++ [AO.list (intsOf (ns.take 12))]).length]? = some (.list (intsOf (drawnOf ns))) := gl
    have E0 : Ext [] G (G ++ [AO.list (intsOf (ns.take 12))] ++ [AO.list (intsOf (drawnOf ns))]) := Ext.refl.app.app
    generalize (G ++ [AO.list (intsOf (ns.take 12))]).length = dl at hd0
    generalize G ++ [AO.list (intsOf (ns.take 12))] ++ [AO.list (intsOf (drawnOf ns))] = G1 at hd0 E0
    replace tab0 := tab_ext tab0 E0 (by simp)
    replace hc0 := E0.2 _ _ (by simp) hc0
    replace hc1 := E0.2 _ _ (by simp) hc1
    replace hc2 := E0.2 _ _ (by simp) hc2
    -- total
    refine XB.cons ?_
    refine XS.assign 3 ?_
    refine XE.bin ?_
    refine XE.int ?_
    refine XE.bin ?_
    refine XE.bin ?_
    refine XE.int ?_
    refine XE.call ?_
    refine XE.bv "sum" ?_
    refine XEs.cons ?_
    refine XE.lv 2 ?_
    refine XEs.nil ?_
    first | refine exK .bi (CallV.sumL hd0) ?_ | refine exN .bi (CallV.sumL hd0) ?_ | refine ⟨.bi, _, _, CallV.sumL hd0, ?_⟩
    first | refine ex2 .addI ?_ | refine ⟨_, _, .addI, ?_⟩
    refine XE.int ?_
    first | refine ex2 (.modI (by decide)) ?_ | refine ⟨_, _, .modI (by decide), ?_⟩
    first | refine ex2 .addI ?_ | refine ⟨_, _, .addI, ?_⟩
    rw [show 4 + (4 + (drawnOf ns).sum).fmod 7 = (totalOf ns : Int) from eT]
    -- steps
    refine XB.cons (XS.assignC 0 (c := c0) (XE.mono (D1 := fun v H' => v = .int (stepsOf (totalOf ns)) ∧ H' = G1) (XE.ifx (XT.cmp (XE.lv 3 (XE.int ⟨_, _, .ltI, fun h => XE.int ⟨?_, rfl⟩, fun h => XE.int ⟨?_, rfl⟩⟩)))) ?_))
    · have : totalOf ns < 7 := by have : ((totalOf ns : Int) < 7) := by simpa using h
                                  omega
      unfold stepsOf; rw [if_pos this]; rfl
    · have : ¬ totalOf ns < 7 := by have : ¬ ((totalOf ns : Int) < 7) := by simpa using h
                                    omega
      unfold stepsOf; rw [if_neg this]; rfl
    intro _ G1 hh0
    refine Classical.byContradiction fun hn0 => ?_
    obtain ⟨rfl, rfl⟩ := hh0
    refine hn0 ?_
    clear hn0
    refine ⟨⟨_, hc0⟩, ?_⟩
    generalize stepsOf (totalOf ns) = st at r1 r2 hst
    replace tab0 := tab_ext tab0 (Ext.refl.set (S := [c0]) (i := c0) (o := AO.cell (some (.int st))) (.inl (by simp))) (fun i hi => by rw [List.mem_singleton] at hi; subst hi; exact ⟨_, hc0, by simp, by simp⟩)
    replace hd0 := gs (x := AO.cell (some (.int st))) (ne_kind hc0 hd0 (by simp)) hd0
    replace hc1 := gs (x := AO.cell (some (.int st))) (show c0 ≠ c0 + 1 by omega) hc1
    replace hc2 := gs (x := AO.cell (some (.int st))) (show c0 ≠ c0 + 2 by omega) hc2
    replace hc0 := gn (x := AO.cell (some (.int st))) hc0
    generalize G1.set c0 (AO.cell (some (.int st))) = G2 at hc0 hc1 hc2 hd0 tab0
    -- seen, said
    refine XB.cons ?_
    refine XS.assignC 1 (c := c0 + 1) ?_
    refine XE.list ?_
    refine XEs.nil ?_
    refine ⟨by decide, ⟨_, ga hc1⟩, ?_⟩
    replace tab0 := tab_ext tab0 ((Ext.refl.app (l := [AO.list []])).set (S := [c0 + 1]) (i := c0 + 1) (o := AO.cell (some (.loc G2.length))) (.inl (by simp))) (fun i hi => by rw [List.mem_singleton] at hi; subst hi; exact ⟨_, hc1, by simp, by simp⟩)
    have hsn := gs (x := AO.cell (some (.loc G2.length))) (ne_kind (ga (l := [AO.list []]) hc1) (gl (H := G2) (o := AO.list [])) (by simp)) (gl (H := G2) (o := AO.list []))
    replace hd0 := gs (x := AO.cell (some (.loc G2.length))) (ne_kind (ga hc1) (ga (l := [AO.list []]) hd0) (by simp)) (ga (l := [AO.list []]) hd0)
    replace hc0 := gs (x := AO.cell (some (.loc G2.length))) (show c0 + 1 ≠ c0 by omega) (ga (l := [AO.list []]) hc0)
    replace hc2 := gs (x := AO.cell (some (.loc G2.length))) (show c0 + 1 ≠ c0 + 2 by omega) (ga (l := [AO.list []]) hc2)
    replace hc1 := gn (x := AO.cell (some (.loc G2.length))) (ga (l := [AO.list []]) hc1)
    generalize (G2 ++ [AO.list []]).set (c0 + 1) (AO.cell (some (.loc G2.length))) = G3 at hc0 hc1 hc2 hd0 hsn tab0
    generalize G2.length = sn at hc1 hsn
    refine XB.cons ?_
    refine XS.assign 4 ?_
    refine XE.list ?_
    refine XEs.nil ?_
    refine ⟨by decide, ?_⟩
    replace tab0 := tab_ext tab0 (S := []) (Ext.refl.app (l := [AO.list []])) (by simp)
    have hsd : (G3 ++ [AO.list []])[G3.length]? = some (.list []) := gl
    have hsne : sn ≠ G3.length := by have := (List.getElem?_eq_some_iff.mp hsn).1; omega
    replace hsn := ga (l := [AO.list []]) hsn
    replace hc0 := ga (l := [AO.list []]) hc0
    replace hc1 := ga (l := [AO.list []]) hc1
    replace hc2 := ga (l := [AO.list []]) hc2
    replace hd0 := ga (l := [AO.list []]) hd0
    generalize G3 ++ [AO.list []] = G4 at hc0 hc1 hc2 hd0 hsn hsd tab0
    generalize G3.length = sd at hsd hsne
    -- the two numbers
    have hdl : (drawnOf ns).length ≤ 12 := by unfold drawnOf; rw [List.length_map]; exact h12
    refine XB.cons ?_
    refine XS.for ?_
    refine XE.tup ?_
    refine XEs.cons ?_
    refine XE.call ?_
    refine XE.bv "sum" ?_
    refine XEs.cons ?_
    refine XE.lv 2 ?_
    refine XEs.nil ?_
    first | refine exK .bi (CallV.sumL hd0) ?_ | refine exN .bi (CallV.sumL hd0) ?_ | refine ⟨.bi, _, _, CallV.sumL hd0, ?_⟩
    refine XEs.cons ?_
    refine XE.bin ?_
    refine XE.int ?_
    refine XE.call ?_
    refine XE.bv "sum" ?_
    refine XEs.cons ?_
    refine XE.comp ["one"] [] ?_ (fun j y h => by cases j <;> cases h)
    refine XE.lv 2 ?_
    first | refine exI (IterV.list hd0) rfl ?_ | refine ⟨_, IterV.list hd0, rfl, ?_⟩
    refine XL.pure 0 (vs := intsOf (drawnOf ns)) (fun _ => true) (fun v => match v with | .int z => .int (z.fdiv 7) | a => a) (fun vars => vars.length = 1) (fun v hv vars hI => ⟨by simpa using hI, XTs.nil ⟨rfl, rfl⟩⟩) (fun v hv _ vars hI => ?_) (by rw [intsOf_len, sizeLine_eq]; omega) ⟨_, hd0, rfl⟩ rfl ?_
    · refine Classical.byContradiction fun hn0 => ?_
      obtain ⟨z, _, rfl⟩ := List.mem_map.mp hv
      refine hn0 ?_
      clear hn0
      refine Classical.byContradiction fun hn0 => ?_
      obtain ⟨m, rfl⟩ := vlen vars hI
      refine hn0 ?_
      clear hn0
      refine XE.bin ?_
      refine XE.lv 0 ?_
      refine XE.int ?_
      first | refine ex2 (.divI (by decide) (by decide)) ⟨rfl, rfl⟩ | refine ⟨_, _, .divI (by decide) (by decide), rfl, rfl⟩
    have e3 : ((intsOf (drawnOf ns)).filter fun _ => true).map (fun v => match v with | .int z => AV.int (z.fdiv 7) | a => a) = intsOf ((drawnOf ns).map fun z => z.fdiv 7) := by
      rw [List.filter_eq_self.mpr (fun _ _ => rfl)]; simp [intsOf, List.map_map, Function.comp_def]
    rw [e3]
    refine XEs.nil ?_
    first | refine exK .bi (CallV.sumL gl) ?_ | refine exN .bi (CallV.sumL gl) ?_ | refine ⟨.bi, _, _, CallV.sumL gl, ?_⟩
    first | refine ex2 .addI ?_ | refine ⟨_, _, .addI, ?_⟩
    refine XEs.nil ?_
    refine ⟨by show 2 ≤ sizeLine; decide, ?_⟩
    rw [show (drawnOf ns).sum = sum1 ns from rfl, show 85 + ((drawnOf ns).map fun z => z.fdiv 7).sum = sum2 ns from rfl]
    first | refine exF (IterV.tup gl) ?_ | refine ⟨_, IterV.tup gl, ?_⟩
    have E4 : Ext [] G4 (G4 ++ [AO.list (intsOf ((drawnOf ns).map fun z => z.fdiv 7))] ++ [AO.tup [.int (sum1 ns), .int (sum2 ns)]]) := Ext.refl.app.app
    have htl : (G4 ++ [AO.list (intsOf ((drawnOf ns).map fun z => z.fdiv 7))] ++ [AO.tup [.int (sum1 ns), .int (sum2 ns)]])[(G4 ++ [AO.list (intsOf ((drawnOf ns).map fun z => z.fdiv 7))]).length]? = some (AO.tup [AV.int (sum1 ns), AV.int (sum2 ns)]) := gl
    have hstl : sn < (G4 ++ [AO.list (intsOf ((drawnOf ns).map fun z => z.fdiv 7))]).length ∧ sd < (G4 ++ [AO.list (intsOf ((drawnOf ns).map fun z => z.fdiv 7))]).length := by
      have a := (List.getElem?_eq_some_iff.mp hsn).1
      have b := (List.getElem?_eq_some_iff.mp hsd).1
      rw [List.length_append]; omega
    generalize (G4 ++ [AO.list (intsOf ((drawnOf ns).map fun z => z.fdiv 7))]).length = tl at htl hstl
    generalize G4 ++ [AO.list (intsOf ((drawnOf ns).map fun z => z.fdiv 7))] ++ [AO.tup [.int (sum1 ns), .int (sum2 ns)]] = G5 at E4 htl
    replace tab0 := tab_ext tab0 E4 (by simp)
    replace hc0 := E4.2 _ _ (by simp) hc0
    replace hc1 := E4.2 _ _ (by simp) hc1
    replace hc2 := E4.2 _ _ (by simp) hc2
    replace hsn := E4.2 _ _ (by simp) hsn
    replace hsd := E4.2 _ _ (by simp) hsd
    have key : ∀ (k : Nat) (v : AV), [AV.int (sum1 ns), AV.int (sum2 ns)][k]? = some v → ∃ (num : Int) (R : List (List Int)) (l : List Nat), v = .int num ∧ [R1, R2][k]? = some R ∧ [l1, l2][k]? = some l ∧ Run (pilesTo num (totalOf ns - 1)) st R l := by
      intro k v hk
      match k, hk with
      | 0, hk => cases hk; exact ⟨_, _, _, rfl, rfl, rfl, r1⟩
      | 1, hk => cases hk; exact ⟨_, _, _, rfl, rfl, rfl, r2⟩
    refine XF.mono (D1 := fun f vars G => f = .next ∧ LE (K02 p) t i dl (totalOf ns) sd sn c0 [R1, R2] [l1, l2] vars G) ?_ ?_
    · refine XF.items 1 (LI (K02 p) t i dl (totalOf ns) sd sn tl c0 st [AV.int (sum1 ns), AV.int (sum2 ns)] [R1, R2] [l1, l2]) ⟨_, htl, rfl⟩ ?_ ?_ ?_ ⟨0, [], _, _, _, _, _, by omega, rfl, rfl, hc0, hc1, _, hc2, htl, hsd, hsn, rfl, tab0, fun j rl R h => by cases h⟩
      · rintro rest vars G ⟨k, rls, u1, u5, u6, u7, u8, _, _, _, _, _, _, _, h, _, _, _, _, _⟩ l o ho ⟨j, q | q⟩
        · cases q
        · cases q
          rw [htl] at ho; cases ho; exact h
      · intro v rest vars G hh0
        refine Classical.byContradiction fun hn0 => ?_
        obtain ⟨k, rls, u1, u5, u6, u7, u8, hk2, hrest, rfl, hc0, hc1, uc, hc2, htl, hsd, hsn, hrl, tab, hR⟩ := hh0
        refine hn0 ?_
        clear hn0
        have hk : [AV.int (sum1 ns), AV.int (sum2 ns)][k]? = some v := by have := congrArg (·[0]?) hrest; simpa using this.symm
        have hrest2 : rest = [AV.int (sum1 ns), AV.int (sum2 ns)].drop (k + 1) := by rw [← List.drop_drop, ← hrest]; rfl
        refine Classical.byContradiction fun hn0 => ?_
        obtain ⟨num, R, l, rfl, hRk, hlk, run⟩ := key k v hk
        refine hn0 ?_
        clear hn0
        refine Classical.byContradiction fun hn0 => ?_
        obtain ⟨last, hall, hlast⟩ := run.all
        refine hn0 ?_
        clear hn0
        have hst4 : st ≤ 4 := by omega
        have lenR := run.len
        have leR := run.le
        have htlG := (List.getElem?_eq_some_iff.mp htl).1
        have hpok := run.pok
        refine XB.cons ?_
        refine XS.assign 5 ?_
        refine XE.call ?_
        refine XE.gv 112 ?_
        refine XEs.cons ?_
        refine XE.lv 3 ?_
        refine XEs.cons ?_
        refine XE.lv 1 ?_
        refine XEs.nil ?_
        first | refine exC keep_fn ?_ | refine exD keep_fn ?_ | refine ⟨keep_fn, XC.call ?_⟩
        refine Classical.byContradiction fun hn0 => ?_
        obtain ⟨_, G1, h1, pl, rfl, _, hpl, E1⟩ := piles_spec (B := B) (d := d + 5) (H := G) (total := totalOf ns) (number := num) (by omega) (by omega)
        refine hn0 ?_
        clear hn0
        first | refine ex2 h1 ?_ | refine ⟨_, _, h1, ?_⟩
        replace tab := tab_ext tab E1 (by simp)
        replace hc0 := E1.2 _ _ (by simp) hc0
        replace hc1 := E1.2 _ _ (by simp) hc1
        replace hc2 := E1.2 _ _ (by simp) hc2
        replace htl := E1.2 _ _ (by simp) htl
        replace hsd := E1.2 _ _ (by simp) hsd
        replace hsn := E1.2 _ _ (by simp) hsn
        replace hR := fun j rl R' a b => And.intro ((hR j rl R' a b).1.ext E1 (by simp) (by simp)) (hR j rl R' a b).2
        refine XB.cons ?_
        refine XS.assign 6 ?_
        refine XE.call ?_
        refine XE.gv 129 ?_
        refine XEs.cons ?_
        refine XE.lv 5 ?_
        refine XEs.cons ?_
        refine XE.cv 0 hc0 ?_
        refine XEs.nil ?_
        first | refine exC keep_fn ?_ | refine exD keep_fn ?_ | refine ⟨keep_fn, XC.call ?_⟩
        refine Classical.byContradiction fun hn0 => ?_
        obtain ⟨_, G2, h2, rl0, js, rfl, hrows, tab2, E2⟩ := rows_spec (B := B) (d := d) (steps := st) C tab hpl run.pok hst4
        refine hn0 ?_
        clear hn0
        first | refine ex2 h2 ?_ | refine ⟨_, _, h2, ?_⟩
        have hR2 : RowsL G2 rl0 (R ++ [last]) := ⟨js, hrows.at_, by rw [← hall]; exact hrows.len, fun k j row a b => hrows.row k j row a (by rw [hall]; exact b)⟩
        replace hc0 := E2.2 _ _ (tab_ne tab hc0 (by simp)) hc0
        replace hc1 := E2.2 _ _ (tab_ne tab hc1 (by simp)) hc1
        replace hc2 := E2.2 _ _ (tab_ne tab hc2 (by simp)) hc2
        replace htl := E2.2 _ _ (tab_ne tab htl (by simp)) htl
        replace hsd := E2.2 _ _ (tab_ne tab hsd (by simp)) hsd
        replace hsn := E2.2 _ _ (tab_ne tab hsn (by simp)) hsn
        replace hpl := E2.2 _ _ (tab_ne tab hpl (by simp)) hpl
        replace hR : ∀ (j rl : Nat) (R' : List (List Int)), rls[j]? = some rl → [R1, R2][j]? = some R' → RowsL G2 rl R' ∧ tl < rl := fun j rl R' a b => by
          refine Classical.byContradiction fun hn0 => ?_
          obtain ⟨x, y⟩ := hR j rl R' a b
          refine hn0 ?_
          clear hn0
          refine Classical.byContradiction fun hn0 => ?_
          obtain ⟨js', x1, x2⟩ := id x
          refine hn0 ?_
          clear hn0
          refine ⟨x.ext E2 (tab_ne tab x1 (by simp)) fun q hq row _ => ?_, y⟩
          rw [List.mem_singleton] at hq; subst hq
          refine Classical.byContradiction fun hn0 => ?_
          obtain ⟨es, h, _⟩ := tab
          refine hn0 ?_
          clear hn0
          rw [h]; simp
        clear tab hrows h1 h2
        have hG12 : tl < G2.length := (List.getElem?_eq_some_iff.mp htl).1
        have hP64 : ((pilesTo num (totalOf ns - 1)).map Int.ofNat).length < 64 := by rw [List.length_map]; have := hpok.2.1; omega
        have e4 : natsOf (pilesTo num (totalOf ns - 1)) = intsOf ((pilesTo num (totalOf ns - 1)).map Int.ofNat) := by simp [natsOf, intsOf, List.map_map, Function.comp_def]
        rw [e4] at hpl
        have hlen2 : (R ++ [last]).length = R.length + 1 := by simp
        -- if rows == [] or ...
        refine XB.cons (XS.mono (D1 := fun f vars' G' => f = .next ∧ vars' = [some (.loc i), some (.int num), some (.loc dl), some (.int (totalOf ns)), some (.loc sd), some (.loc pl), some (.loc rl0), u7, u8, none] ∧ Ext [] G2 G') (XS.ifs (XT.boolop (XA.or (XT.cmp (XE.lv 6 (XE.list (XEs.nil ⟨by decide, ?_⟩))))))) ?_)
        · first | refine ex2 (.eqD (hR2.ext (S := []) Ext.refl.app (by simp) (by simp)).dat (.list (ds := []) gl .nil) (canL_rows _) rfl (by have := depth_rows (R ++ [last]); simp only [PyData.depth]; omega)) ⟨fun h => ?_, fun h => ?_⟩ | refine ⟨_, _, .eqD (hR2.ext (S := []) Ext.refl.app (by simp) (by simp)).dat (.list (ds := []) gl .nil) (canL_rows _) rfl (by have := depth_rows (R ++ [last]); simp only [PyData.depth]; omega), fun h => ?_, fun h => ?_⟩
          · refine Classical.byContradiction fun hn0 => ?_
            obtain ⟨xs, j0, a1, a2, a3, a4⟩ := hR2.item (k := 0) (by omega)
            refine hn0 ?_
            clear hn0
            refine XA.or ?_
            refine XT.cmp ?_
            refine XE.item ?_
            refine XE.lv 6 ?_
            refine XE.int ?_
            first | refine ex2 (.list (ga a1) (j := 0) (by rw [a2]; exact seq_nat (j := 0) (by omega)) a3 (by rw [a2]; omega)) ?_ | refine ⟨_, _, .list (ga a1) (j := 0) (by rw [a2]; exact seq_nat (j := 0) (by omega)) a3 (by rw [a2]; omega), ?_⟩
            refine XE.call ?_
            refine XE.bv "sorted" ?_
            refine XEs.cons ?_
            refine XE.lv 5 ?_
            refine XEs.nil ?_
            first | refine exK .bi (CallV.sortedL (ga hpl) hP64) ?_ | refine exN .bi (CallV.sortedL (ga hpl) hP64) ?_ | refine ⟨.bi, _, _, CallV.sortedL (ga hpl) hP64, ?_⟩
            have f0 : (R ++ [last]).getD 0 [] = srtI ((pilesTo num (totalOf ns - 1)).map Int.ofNat) := by
              rw [← run.first, List.getD_eq_getElem?_getD, List.getD_eq_getElem?_getD, List.getElem?_append_left (by omega)]
            first | refine ex2 (.neD (.list (ga (ga a4)) .ints) (.list gl .ints) (by simpa [PyData.canLay0] using canLay_ints _) (by simpa [PyData.canLay0] using canLay_ints _) (by simp [PyData.depth, depth_ints])) ⟨fun h => ?_, fun h => ?_⟩ | refine ⟨_, _, .neD (.list (ga (ga a4)) .ints) (.list gl .ints) (by simpa [PyData.canLay0] using canLay_ints _) (by simpa [PyData.canLay0] using canLay_ints _) (by simp [PyData.depth, depth_ints]), fun h => ?_, fun h => ?_⟩
            · refine Classical.byContradiction fun hn0 => ?_
              obtain ⟨_, j1, b1, b2, b3, b4⟩ := hR2.item (k := R.length) (by omega)
              refine hn0 ?_
              clear hn0
              refine Classical.byContradiction fun hn0 => ?_
              obtain ⟨_, j2, c1, c2, c3, c4⟩ := hR2.item (k := R.length - 1) (by omega)
              refine hn0 ?_
              clear hn0
              refine XA.or ?_
              refine XT.cmp ?_
              refine XE.item ?_
              refine XE.lv 6 ?_
              refine XE.un ?_
              refine XE.int ?_
              first | refine ex2 .negI ?_ | refine ⟨_, _, .negI, ?_⟩
              first | refine ex2 (.list (ga (ga b1)) (by rw [b2]; exact seq_last (by omega)) (by rw [hlen2, Nat.add_sub_cancel]; exact b3) (by rw [b2]; omega)) ?_ | refine ⟨_, _, .list (ga (ga b1)) (by rw [b2]; exact seq_last (by omega)) (by rw [hlen2, Nat.add_sub_cancel]; exact b3) (by rw [b2]; omega), ?_⟩
              refine XE.item ?_
              refine XE.lv 6 ?_
              refine XE.un ?_
              refine XE.int ?_
              first | refine ex2 .negI ?_ | refine ⟨_, _, .negI, ?_⟩
              first | refine ex2 (.list (ga (ga c1)) (by rw [c2]; exact seq_back (k := 2) (by omega) (by omega)) (by rw [hlen2, show R.length + 1 - 2 = R.length - 1 by omega]; exact c3) (by rw [c2]; omega)) ?_ | refine ⟨_, _, .list (ga (ga c1)) (by rw [c2]; exact seq_back (k := 2) (by omega) (by omega)) (by rw [hlen2, show R.length + 1 - 2 = R.length - 1 by omega]; exact c3) (by rw [c2]; omega), ?_⟩
              have f1 : (R ++ [last]).getD R.length [] = last := by simp [List.getD_eq_getElem?_getD]
              have f2 : (R ++ [last]).getD (R.length - 1) [] = last := by rw [← hlast, List.getD_eq_getElem?_getD, List.getD_eq_getElem?_getD, List.getElem?_append_left (by omega)]
              first | refine ex2 (.neD (.list (ga (ga b4)) .ints) (.list (ga (ga c4)) .ints) (by simpa [PyData.canLay0] using canLay_ints _) (by simpa [PyData.canLay0] using canLay_ints _) (by simp [PyData.depth, depth_ints])) ⟨fun h => ?_, fun h => ?_⟩ | refine ⟨_, _, .neD (.list (ga (ga b4)) .ints) (.list (ga (ga c4)) .ints) (by simpa [PyData.canLay0] using canLay_ints _) (by simpa [PyData.canLay0] using canLay_ints _) (by simp [PyData.depth, depth_ints]), fun h => ?_, fun h => ?_⟩
              · refine XA.orNil ⟨fun q => (nomatch q), fun _ => XB.nil ⟨rfl, rfl, Ext.refl.app.app⟩⟩
              · rw [f1, f2, eqv_ints] at h; simp at h
            · rw [f0, eqv_ints] at h; simp [srtI] at h
          · cases R with
            | nil => simp [PyData.eqv, PyData.eqvAll] at h
            | cons => simp [PyData.eqv, PyData.eqvAll] at h
        intro f vars' G3 hh0
        refine Classical.byContradiction fun hn0 => ?_
        obtain ⟨rfl, rfl, E3⟩ := hh0
        refine hn0 ?_
        clear hn0
        replace tab2 := tab_ext tab2 E3 (by simp)
        replace hc0 := E3.2 _ _ (by simp) hc0
        replace hc1 := E3.2 _ _ (by simp) hc1
        replace hc2 := E3.2 _ _ (by simp) hc2
        replace htl := E3.2 _ _ (by simp) htl
        replace hsd := E3.2 _ _ (by simp) hsd
        replace hsn := E3.2 _ _ (by simp) hsn
        replace hR := fun j rl R' a b => And.intro ((hR j rl R' a b).1.ext E3 (by simp) (by simp)) (hR j rl R' a b).2
        replace hR2 := hR2.ext E3 (by simp) (by simp)
        clear hpl
        -- rows = rows[:-1]
        refine Classical.byContradiction fun hn0 => ?_
        obtain ⟨xs, hxs, hxl⟩ := hR2.len
        refine hn0 ?_
        clear hn0
        refine XB.cons ?_
        refine XS.assign 6 ?_
        refine XE.slice ?_
        refine XE.lv 6 ?_
        refine XP.none ?_
        refine XP.some ?_
        refine XE.un ?_
        refine XE.int ?_
        first | refine ex2 .negI ?_ | refine ⟨_, _, .negI, ?_⟩
        first | refine exP (exL hxs (by rw [hxl, sizeLine_eq]; omega) ?_) | refine ⟨_, rfl, .inl ⟨_, _, rfl, hxs, by rw [hxl, sizeLine_eq]; omega, ?_⟩⟩
        rw [show pk xs none (some (-1)) = xs.dropLast from pk_init xs]
        have hR4 := (hR2.sub hxs).1
        rw [List.dropLast_concat] at hR4
        have E4 : Ext [] G3 (G3 ++ [AO.list xs.dropLast]) := Ext.refl.app
        have hrl4 : tl < G3.length := (List.getElem?_eq_some_iff.mp htl).1
        have hsn4 : sn < G3.length := (List.getElem?_eq_some_iff.mp hsn).1
        have hsd4 : sd < G3.length := (List.getElem?_eq_some_iff.mp hsd).1
        generalize G3 ++ [AO.list xs.dropLast] = G4 at hR4 E4
        generalize G3.length = rl at hR4 hrl4 hsn4 hsd4
        replace tab2 := tab_ext tab2 E4 (by simp)
        replace hc0 := E4.2 _ _ (by simp) hc0
        replace hc1 := E4.2 _ _ (by simp) hc1
        replace hc2 := E4.2 _ _ (by simp) hc2
        replace htl := E4.2 _ _ (by simp) htl
        replace hsd := E4.2 _ _ (by simp) hsd
        replace hsn := E4.2 _ _ (by simp) hsn
        replace hR := fun j rl R' a b => And.intro ((hR j rl R' a b).1.ext E4 (by simp) (by simp)) (hR j rl R' a b).2
        clear hxs hxl hR2
        -- for k in range(1, len(rows) - steps)
        refine Classical.byContradiction fun hn0 => ?_
        obtain ⟨ys, hys, hyl⟩ := hR4.len
        refine hn0 ?_
        clear hn0
        refine XB.cons ?_
        refine XS.for ?_
        refine XE.call ?_
        refine XE.ty "range" ?_
        refine XEs.cons ?_
        refine XE.int ?_
        refine XEs.cons ?_
        refine XE.bin ?_
        refine XE.call ?_
        refine XE.bv "len" ?_
        refine XEs.cons ?_
        refine XE.lv 6 ?_
        refine XEs.nil ?_
        first | refine exK .bi (CallV.lenL hys (by omega)) ?_ | refine exN .bi (CallV.lenL hys (by omega)) ?_ | refine ⟨.bi, _, _, CallV.lenL hys (by omega), ?_⟩
        refine XE.cv 0 hc0 ?_
        first | refine ex2 .subI ?_ | refine ⟨_, _, .subI, ?_⟩
        refine XEs.nil ?_
        first | refine exK .ty CallV.range2 ?_ | refine exN .ty CallV.range2 ?_ | refine ⟨.ty, _, _, CallV.range2, ?_⟩
        first | refine exF (IterV.rng gl (by decide) (by decide) (by omega) (by omega)) ?_ | refine ⟨_, IterV.rng gl (by decide) (by decide) (by omega) (by omega), ?_⟩
        rw [show ((ys.length : Int) - st - 1).toNat = R.length - st - 1 by omega]
        refine XF.mono (D1 := fun f vars' G' => f = .next ∧ (∃ u7, vars' = [some (.loc i), some (.int num), some (.loc dl), some (.int (totalOf ns)), some (.loc sd), some (.loc pl), some (.loc rl), u7, u8, none]) ∧ Ext [] G4 G') (XF.rng 7 (fun k vars' G' => (∃ u7, vars' = [some (.loc i), some (.int num), some (.loc dl), some (.int (totalOf ns)), some (.loc sd), some (.loc pl), some (.loc rl), u7, u8, none]) ∧ Ext [] G4 G') ?_ ?_ ⟨⟨_, rfl⟩, Ext.refl.app⟩) ?_
        · intro k hk _ G' hh0
          refine Classical.byContradiction fun hn0 => ?_
          obtain ⟨⟨u, rfl⟩, E'⟩ := hh0
          refine hn0 ?_
          clear hn0
          rw [show (1 + (k : Int)) = ((k + 1 : Nat) : Int) by omega]
          have hR' := hR4.ext E' (by simp) (by simp)
          refine Classical.byContradiction fun hn0 => ?_
          obtain ⟨xs1, j1, b1, b2, b3, b4⟩ := hR'.item (k := k + 1) (by omega)
          refine hn0 ?_
          clear hn0
          refine Classical.byContradiction fun hn0 => ?_
          obtain ⟨_, j0, c1, c2, c3, c4⟩ := hR'.item (k := k) (by omega)
          refine hn0 ?_
          clear hn0
          rw [b1] at c1; cases c1
          have hnext := run.next (k + 1) (by omega) (by omega)
          rw [Nat.add_sub_cancel] at hnext
          have hsm : (R.getD k []).length ≤ 10 := by
            rw [List.getD_eq_getElem?_getD, List.getElem?_eq_getElem (show k < R.length by omega)]
            exact (run.small _ (List.getElem_mem _)).2
          rw [hnext] at b4
          generalize R.getD k [] = row at c4 b4 hsm
          generalize hkk : ((k + 1 : Nat) : Int) = kk
          have hkk1 : kk - 1 = (k : Int) := by omega
          refine XB.cons ?_
          refine XS.ifs ?_
          refine XT.cmp ?_
          refine XE.item ?_
          refine XE.lv 6 ?_
          refine XE.lv 7 ?_
          first | refine ex2 (.list b1 (by rw [b2, ← hkk]; exact seq_nat (by omega)) b3 (by rw [b2]; omega)) ?_ | refine ⟨_, _, .list b1 (by rw [b2, ← hkk]; exact seq_nat (by omega)) b3 (by rw [b2]; omega), ?_⟩
          refine XE.call ?_
          refine XE.bv "sorted" ?_
          refine XEs.cons ?_
          refine XE.bin ?_
          refine XE.comp ["size"] [] ?_ (fun j y h => by cases j <;> cases h)
          refine XE.item ?_
          refine XE.lv 6 ?_
          refine XE.bin ?_
          refine XE.lv 7 ?_
          refine XE.int ?_
          first | refine ex2 .subI ?_ | refine ⟨_, _, .subI, ?_⟩
          rw [hkk1]
          first | refine ex2 (.list b1 (by rw [b2]; exact seq_nat (by omega)) c3 (by rw [b2]; omega)) ?_ | refine ⟨_, _, .list b1 (by rw [b2]; exact seq_nat (by omega)) c3 (by rw [b2]; omega), ?_⟩
          first | refine exI (IterV.list c4) rfl ?_ | refine ⟨_, IterV.list c4, rfl, ?_⟩
          refine XL.pure 0 (vs := intsOf row) (fun v => match v with | .int z => decide (z > 1) | _ => false) (fun v => match v with | .int z => .int (z - 1) | a => a) (fun vars => vars.length = 1) (fun v hv vars hI => ⟨by simpa using hI, ?_⟩) (fun v hv _ vars hI => ?_) (by rw [intsOf_len, sizeLine_eq]; omega) ⟨_, c4, rfl⟩ rfl ?_
          · refine Classical.byContradiction fun hn0 => ?_
            obtain ⟨z, _, rfl⟩ := List.mem_map.mp hv
            refine hn0 ?_
            clear hn0
            refine Classical.byContradiction fun hn0 => ?_
            obtain ⟨m, rfl⟩ := vlen vars hI
            refine hn0 ?_
            clear hn0
            exact XTs.one (XT.cmp (XE.lv 0 (XE.int ⟨_, _, .gtI, rfl, rfl⟩)))
          · refine Classical.byContradiction fun hn0 => ?_
            obtain ⟨z, _, rfl⟩ := List.mem_map.mp hv
            refine hn0 ?_
            clear hn0
            refine Classical.byContradiction fun hn0 => ?_
            obtain ⟨m, rfl⟩ := vlen vars hI
            refine hn0 ?_
            clear hn0
            refine XE.bin ?_
            refine XE.lv 0 ?_
            refine XE.int ?_
            first | refine ex2 .subI ⟨rfl, rfl⟩ | refine ⟨_, _, .subI, rfl, rfl⟩
          rw [intsOf_filter (fun z => decide (z > 1)) _ (fun z => rfl)]
          have e7 : (intsOf (row.filter fun z => decide (z > 1))).map (fun v => match v with | .int z => AV.int (z - 1) | a => a) = intsOf ((row.filter fun z => decide (z > 1)).map fun z => z - 1) := by simp [intsOf, List.map_map, Function.comp_def]
          rw [e7]
          refine XE.list ?_
          refine XEs.cons ?_
          refine XE.call ?_
          refine XE.bv "len" ?_
          refine XEs.cons ?_
          refine XE.item ?_
          refine XE.lv 6 ?_
          refine XE.bin ?_
          refine XE.lv 7 ?_
          refine XE.int ?_
          first | refine ex2 .subI ?_ | refine ⟨_, _, .subI, ?_⟩
          rw [hkk1]
          have hfl : ((row.filter fun z => decide (z > 1)).map fun z => z - 1).length ≤ 10 := by rw [List.length_map]; have := List.length_filter_le (fun z => decide (z > 1)) row; omega
          first | refine ex2 (.list (ga b1) (by rw [b2]; exact seq_nat (by omega)) c3 (by rw [b2]; omega)) ?_ | refine ⟨_, _, .list (ga b1) (by rw [b2]; exact seq_nat (by omega)) c3 (by rw [b2]; omega), ?_⟩
          refine XEs.nil ?_
          first | refine exK .bi (CallV.lenL (ga c4) (by rw [intsOf_len]; omega)) ?_ | refine exN .bi (CallV.lenL (ga c4) (by rw [intsOf_len]; omega)) ?_ | refine ⟨.bi, _, _, CallV.lenL (ga c4) (by rw [intsOf_len]; omega), ?_⟩
          refine XEs.nil ?_
          refine ⟨by show 1 ≤ sizeLine; decide, ?_⟩
          first | refine ex2 (.addL (ga gl) gl (by rw [intsOf_len, sizeLine_eq]; simp only [List.length_cons, List.length_nil]; omega)) ?_ | refine ⟨_, _, .addL (ga gl) gl (by rw [intsOf_len, sizeLine_eq]; simp only [List.length_cons, List.length_nil]; omega), ?_⟩
          rw [intsOf_len, show intsOf ((row.filter fun z => decide (z > 1)).map fun z => z - 1) ++ [AV.int (row.length : Int)] = intsOf (((row.filter fun z => decide (z > 1)).map fun z => z - 1) ++ [(row.length : Int)]) by simp [intsOf]]
          refine XEs.nil ?_
          first | refine exK .bi (CallV.sortedL gl (by simp only [List.length_append, List.length_cons, List.length_nil]; omega)) ?_ | refine exN .bi (CallV.sortedL gl (by simp only [List.length_append, List.length_cons, List.length_nil]; omega)) ?_ | refine ⟨.bi, _, _, CallV.sortedL gl (by simp only [List.length_append, List.length_cons, List.length_nil]; omega), ?_⟩
          first | refine ex2 (.neD (.list (ga (ga (ga (ga b4)))) .ints) (.list gl .ints) (by simpa [PyData.canLay0] using canLay_ints _) (by simpa [PyData.canLay0] using canLay_ints _) (by simp [PyData.depth, depth_ints])) ⟨fun h => ?_, fun h => ?_⟩ | refine ⟨_, _, .neD (.list (ga (ga (ga (ga b4)))) .ints) (.list gl .ints) (by simpa [PyData.canLay0] using canLay_ints _) (by simpa [PyData.canLay0] using canLay_ints _) (by simp [PyData.depth, depth_ints]), fun h => ?_, fun h => ?_⟩
          · rw [eqv_ints] at h; simp [srtI] at h
          · exact XB.nil (XB.nil ⟨⟨_, rfl⟩, E'.app.app.app.app⟩)
        · intro _ G' hh0
          refine Classical.byContradiction fun hn0 => ?_
          obtain ⟨⟨u, rfl⟩, E'⟩ := hh0
          refine hn0 ?_
          clear hn0
          exact ⟨rfl, ⟨_, rfl⟩, E'⟩
        intro f vars' G5 hh0
        refine Classical.byContradiction fun hn0 => ?_
        obtain ⟨rfl, ⟨u7', rfl⟩, E5⟩ := hh0
        refine hn0 ?_
        clear hn0
        replace tab2 := tab_ext tab2 E5 (by simp)
        replace hc0 := E5.2 _ _ (by simp) hc0
        replace hc1 := E5.2 _ _ (by simp) hc1
        replace hc2 := E5.2 _ _ (by simp) hc2
        replace htl := E5.2 _ _ (by simp) htl
        replace hsd := E5.2 _ _ (by simp) hsd
        replace hsn := E5.2 _ _ (by simp) hsn
        replace hys := E5.2 _ _ (by simp) hys
        replace hR := fun j rl R' a b => And.intro ((hR j rl R' a b).1.ext E5 (by simp) (by simp)) (hR j rl R' a b).2
        replace hR4 := hR4.ext E5 (by simp) (by simp)
        -- ends
        have hm1 : ((ys.length : Int) - 1 - st) = ((R.length - 1 - st : Nat) : Int) := by omega
        refine XB.cons ?_
        refine XS.compL 8 ["row"] [c0] ?_ (by intro j y h; cases j with | zero => cases h; exact ⟨0, _, rfl, rfl, rfl⟩ | succ j => cases h)
        refine XE.slice ?_
        refine XE.lv 6 ?_
        refine XP.some ?_
        refine XE.bin ?_
        refine XE.bin ?_
        refine XE.call ?_
        refine XE.bv "len" ?_
        refine XEs.cons ?_
        refine XE.lv 6 ?_
        refine XEs.nil ?_
        first | refine exK .bi (CallV.lenL hys (by omega)) ?_ | refine exN .bi (CallV.lenL hys (by omega)) ?_ | refine ⟨.bi, _, _, CallV.lenL hys (by omega), ?_⟩
        refine XE.int ?_
        first | refine ex2 .subI ?_ | refine ⟨_, _, .subI, ?_⟩
        refine XE.cv 0 hc0 ?_
        first | refine ex2 .subI ?_ | refine ⟨_, _, .subI, ?_⟩
        rw [hm1]
        first | refine exP ?_ | refine ⟨_, rfl, ?_⟩
        refine XP.none ?_
        first | refine exL hys (by rw [sizeLine_eq]; omega) ?_ | refine .inl ⟨_, _, rfl, hys, by rw [sizeLine_eq]; omega, ?_⟩
        rw [pk_drop]
        have hlets := run.lets
        have hends := run.ends
        have hlz := run.letsLen
        have hab := run.ab
        have hmlt : R.length - 1 - st + (st + 1) = R.length := by omega
        have hgm : (R.drop (R.length - 1 - st)).length = st + 1 := by rw [List.length_drop]; omega
        have h0 : (R.drop (R.length - 1 - st)).getD 0 [] = R.getD (R.length - 1 - st) [] := by simp [List.getD_eq_getElem?_getD]
        have hRsmall : ∀ row ∈ R.drop (R.length - 1 - st), row.length ≤ 10 := fun row hr => (run.small row (List.mem_of_mem_drop hr)).2
        have hR5 := (hR4.sub hys).2 (R.length - 1 - st)
        rw [← h0] at hlets
        generalize R.drop (R.length - 1 - st) = RE at hR5 hlets hends hgm hRsmall
        refine Classical.byContradiction fun hn0 => ?_
        obtain ⟨js5, d1, d2, d3⟩ := hR5
        refine hn0 ?_
        clear hn0
        rw [gl] at d1
        have d1' : ys.drop (R.length - 1 - st) = js5.map AV.loc := by injection d1 with d1; injection d1
        rw [d1'] at d3 ⊢
        first | refine exI (IterV.list gl) rfl ?_ | refine ⟨_, IterV.list gl, rfl, ?_⟩
        have hML : ∀ y ∈ RE.map (fun row => moreS row st), y.length ≤ st := fun y hy => by
          obtain ⟨row, _, rfl⟩ := List.mem_map.mp hy; exact moreS_len _ _
        have hMLl : (RE.map (fun row => moreS row st)).length = st + 1 := by rw [List.length_map, hgm]
        refine XL.grow 0 (vs := js5.map AV.loc) (ys := strsOf (RE.map fun row => moreS row st)) (fun vars => vars.length = 1) (fun vars v h => by simpa using h) (fun k v y hv hy vars X hI eX => ?_) (by rw [strsOf_len, List.length_map, List.length_map, d2]) (by rw [List.length_map, d2, hgm, sizeLine_eq]; omega) ⟨_, gl, rfl⟩ rfl (fun G6 E6 => ?_)
        · refine Classical.byContradiction fun hn0 => ?_
          obtain ⟨m, rfl⟩ := vlen vars hI
          refine hn0 ?_
          clear hn0
          rw [List.getElem?_map] at hv
          refine Classical.byContradiction fun hn0 => ?_
          obtain ⟨j, hj, rfl⟩ := Option.map_eq_some_iff.mp hv
          refine hn0 ?_
          clear hn0
          have hkl : k < RE.length := by have := (List.getElem?_eq_some_iff.mp hj).1; omega
          have hre := List.getElem?_eq_getElem hkl
          rw [strsOf_get (by rw [List.getElem?_map, hre]; rfl)] at hy
          cases hy
          refine XE.call ?_
          refine XE.gv 124 ?_
          refine XEs.cons ?_
          refine XE.lv 0 ?_
          refine XEs.cons ?_
          refine XE.cv 0 (eX.2 _ _ (by simp) (ga hc0)) ?_
          refine XEs.nil ?_
          first | refine exC keep_fn ?_ | refine exD keep_fn ?_ | refine ⟨keep_fn, XC.call ?_⟩
          exact more_spec (d := d + 5) (eX.2 _ _ (by simp) (d3 k j _ hj hre)) (by omega) (by have := hRsmall _ (List.getElem_mem hkl); omega)
        dsimp only [CompLK]
        replace E6 : Ext [] G5 (G6 ++ [AO.list (strsOf (RE.map fun row => moreS row st))]) := (Ext.refl.app.trans E6).app
        have hel : (G6 ++ [AO.list (strsOf (RE.map fun row => moreS row st))])[G6.length]? = some (.list (strsOf (RE.map fun row => moreS row st))) := gl
        generalize G6 ++ [AO.list (strsOf (RE.map fun row => moreS row st))] = G7 at E6 hel
        generalize G6.length = el at hel
        replace tab2 := tab_ext tab2 E6 (by simp)
        replace hc0 := E6.2 _ _ (by simp) hc0
        replace hc1 := E6.2 _ _ (by simp) hc1
        replace hc2 := E6.2 _ _ (by simp) hc2
        replace htl := E6.2 _ _ (by simp) htl
        replace hsd := E6.2 _ _ (by simp) hsd
        replace hsn := E6.2 _ _ (by simp) hsn
        replace hR := fun j rl R' a b => And.intro ((hR j rl R' a b).1.ext E6 (by simp) (by simp)) (hR j rl R' a b).2
        replace hR4 := hR4.ext E6 (by simp) (by simp)
        clear hys hyl d1 d1' d3 E5 E6
        -- letters
        have hM0 : ((RE.map fun row => moreS row st).getD 0 []).length ≤ st := by
          rw [List.getD_eq_getElem?_getD, List.getElem?_eq_getElem (by omega)]; exact hML _ (List.getElem_mem _)
        refine XB.cons ?_
        refine XS.assignC 2 (c := c0 + 2) ?_
        refine XE.slice ?_
        refine XE.bin ?_
        refine XE.item ?_
        refine XE.lv 8 ?_
        refine XE.int ?_
        first | refine ex2 (.list hel (j := 0) (by rw [strsOf_len]; exact seq_nat (j := 0) (by omega)) (strsOf_getD (by omega)) (by rw [strsOf_len]; omega)) ?_ | refine ⟨_, _, .list hel (j := 0) (by rw [strsOf_len]; exact seq_nat (j := 0) (by omega)) (strsOf_getD (by omega)) (by rw [strsOf_len]; omega), ?_⟩
        refine XE.bin ?_
        refine XE.str [97] ?_
        refine XE.cv 0 hc0 ?_
        first | refine ex2 (.mulS34 hst) ?_ | refine ⟨_, _, .mulS34 hst, ?_⟩
        first | refine ex2 (.addS (by rw [List.length_replicate, sizeLine_eq]; omega)) ?_ | refine ⟨_, _, .addS (by rw [List.length_replicate, sizeLine_eq]; omega), ?_⟩
        refine XP.none ?_
        refine XP.some ?_
        refine XE.cv 0 hc0 ?_
        first | refine exP (exS (by rw [List.length_append, List.length_replicate, sizeLine_eq]; omega) ?_) | refine ⟨_, rfl, .inr ⟨_, rfl, by rw [List.length_append, List.length_replicate, sizeLine_eq]; omega, ?_⟩⟩
        rw [pk_take]
        have hl9 : ((RE.map fun row => moreS row st).getD 0 [] ++ List.replicate st 97).take st = l := by
          rw [hlets]
          congr 2
          cases RE with
          | nil => simp at hgm
          | cons r RE => rfl
        rw [hl9]
        refine ⟨⟨_, hc2⟩, ?_⟩
        have EC : Ext [c0 + 2] G7 (G7.set (c0 + 2) (AO.cell (some (.str l)))) := Ext.refl.set (.inl (by simp))
        have nc2 : ∀ {j : Nat} {o : AO}, G7[j]? = some o → (∀ v, o ≠ .cell v) → j ∉ [c0 + 2] := fun {j o} h1 h2 q => by
          rw [List.mem_singleton] at q; subst q
          rw [hc2] at h1; cases h1; exact h2 _ rfl
        have hc2' := gn (x := AO.cell (some (.str l))) hc2
        replace tab2 := tab_ext tab2 EC (fun i hi => by rw [List.mem_singleton] at hi; subst hi; exact ⟨_, hc2, by simp, by simp⟩)
        replace hc0 := EC.2 _ _ (by simp) hc0
        replace hc1 := EC.2 _ _ (by simp) hc1
        replace htl := EC.2 _ _ (nc2 htl (by simp)) htl
        replace hsd := EC.2 _ _ (nc2 hsd (by simp)) hsd
        replace hsn := EC.2 _ _ (nc2 hsn (by simp)) hsn
        replace hel := EC.2 _ _ (nc2 hel (by simp)) hel
        have nc3 : ∀ {rl : Nat} {R : List (List Int)}, RowsL G7 rl R → RowsL (G7.set (c0 + 2) (AO.cell (some (.str l)))) rl R := fun {rl R} x => by
          refine Classical.byContradiction fun hn0 => ?_
          obtain ⟨q, x1, _⟩ := id x
          refine hn0 ?_
          clear hn0
          exact x.ext EC (nc2 x1 (by simp)) (fun i hi row _ => by rw [List.mem_singleton] at hi; subst hi; rw [hc2]; simp)
        replace hR := fun j rl R' a b => And.intro (nc3 (hR j rl R' a b).1) (hR j rl R' a b).2
        replace hR4 := nc3 hR4
        clear EC nc2 nc3 hc2
        generalize G7.set (c0 + 2) (AO.cell (some (.str l))) = G8 at tab2 hc0 hc1 hc2' htl hsd hsn hel hR hR4
        -- if ends != ...
        refine XB.cons (XS.mono (D1 := fun f vars' G' => f = .next ∧ vars' = [some (.loc i), some (.int num), some (.loc dl), some (.int (totalOf ns)), some (.loc sd), some (.loc pl), some (.loc rl), u7', some (.loc el), none] ∧ Ext [] G8 G') (XS.ifs (XT.cmp (XE.lv 8 (XE.comp ["k"] [c0 + 2] ?_ (by intro j y h; cases j with | zero => cases h; exact ⟨2, _, rfl, rfl, rfl⟩ | succ j => cases h))))) ?_)
        · refine XE.call ?_
          refine XE.ty "range" ?_
          refine XEs.cons ?_
          refine XE.bin ?_
          refine XE.cv 0 hc0 ?_
          refine XE.int ?_
          first | refine ex2 .addI ?_ | refine ⟨_, _, .addI, ?_⟩
          refine XEs.nil ?_
          first | refine exK .ty CallV.range1 ?_ | refine exN .ty CallV.range1 ?_ | refine ⟨.ty, _, _, CallV.range1, ?_⟩
          first | refine exI (IterV.rng gl (by decide) (by decide) (by omega) (by omega)) rfl ?_ | refine ⟨_, IterV.rng gl (by decide) (by decide) (by omega) (by omega), rfl, ?_⟩
          rw [show ((st : Int) + 1 - 0).toNat = st + 1 by omega]
          refine XL.rngMap 0 (fun k => AV.str (l.drop k ++ l.take k)) (fun vars => vars.length = 1) (fun vars v h => by simpa using h) (fun k hk vars hI => ?_) (by rw [sizeLine_eq]; omega) rfl ?_
          · refine Classical.byContradiction fun hn0 => ?_
            obtain ⟨m, rfl⟩ := vlen vars hI
            refine hn0 ?_
            clear hn0
            rw [Int.zero_add]
            refine XE.bin ?_
            refine XE.slice ?_
            refine XE.cv 0 (ga hc2') ?_
            refine XP.some ?_
            refine XE.lv 0 ?_
            first | refine exP ?_ | refine ⟨_, rfl, ?_⟩
            refine XP.none ?_
            first | refine exS (by rw [sizeLine_eq]; omega) ?_ | refine .inr ⟨_, rfl, by rw [sizeLine_eq]; omega, ?_⟩
            refine XE.slice ?_
            refine XE.cv 0 (ga hc2') ?_
            refine XP.none ?_
            refine XP.some ?_
            refine XE.lv 0 ?_
            first | refine exP (exS (by rw [sizeLine_eq]; omega) ?_) | refine ⟨_, rfl, .inr ⟨_, rfl, by rw [sizeLine_eq]; omega, ?_⟩⟩
            rw [pk_drop, pk_take]
            first | refine ex2 (.addS (by rw [List.length_drop, List.length_take, sizeLine_eq]; omega)) ⟨rfl, rfl⟩ | refine ⟨_, _, .addS (by rw [List.length_drop, List.length_take, sizeLine_eq]; omega), rfl, rfl⟩
          have e8 : (List.range (st + 1)).map (fun k => AV.str (l.drop k ++ l.take k)) = strsOf ((List.range (st + 1)).map fun k => l.drop k ++ l.take k) := by simp [List.map_map, Function.comp_def]
          rw [e8]
          have hab1 : ∀ y ∈ (List.range (st + 1)).map (fun k => l.drop k ++ l.take k), ∀ c ∈ y, c < 0x110000 := fun y hy c hc => by
            refine Classical.byContradiction fun hn0 => ?_
            obtain ⟨k, _, rfl⟩ := List.mem_map.mp hy
            refine hn0 ?_
            clear hn0
            have : c ∈ l := by
              rcases List.mem_append.mp hc with h | h
              · exact List.mem_of_mem_drop h
              · exact List.mem_of_mem_take h
            have := hab c this
            omega
          first | refine ex2 (.neD (.list (ga (ga hel)) .strs) (.list gl .strs) (by rw [hends]; simpa [PyData.canLay0] using canLay_strs _ hab1) (by simpa [PyData.canLay0] using canLay_strs _ hab1) (by rw [PyData.depth, depth_strs]; decide)) ⟨fun h => ?_, fun h => ?_⟩ | refine ⟨_, _, .neD (.list (ga (ga hel)) .strs) (.list gl .strs) (by rw [hends]; simpa [PyData.canLay0] using canLay_strs _ hab1) (by simpa [PyData.canLay0] using canLay_strs _ hab1) (by rw [PyData.depth, depth_strs]; decide), fun h => ?_, fun h => ?_⟩
          · rw [eqv_strs, hends] at h; simp at h
          · exact XB.nil ⟨rfl, rfl, Ext.refl.app.app⟩
        intro f vars' G9 hh0
        refine Classical.byContradiction fun hn0 => ?_
        obtain ⟨rfl, rfl, E9⟩ := hh0
        refine hn0 ?_
        clear hn0
        replace tab2 := tab_ext tab2 E9 (by simp)
        replace hc0 := E9.2 _ _ (by simp) hc0
        replace hc1 := E9.2 _ _ (by simp) hc1
        replace hc2' := E9.2 _ _ (by simp) hc2'
        replace htl := E9.2 _ _ (by simp) htl
        replace hsd := E9.2 _ _ (by simp) hsd
        replace hsn := E9.2 _ _ (by simp) hsn
        replace hR := fun j rl R' a b => And.intro ((hR j rl R' a b).1.ext E9 (by simp) (by simp)) (hR j rl R' a b).2
        replace hR4 := hR4.ext E9 (by simp) (by simp)
        clear hel
        -- seen.append(rows), said.append(letters)
        refine XB.cons ?_
        refine XS.expr ?_
        refine XE.meth ?_ (pl := _)
        refine XE.cv 1 hc1 ?_
        first | refine exM (GetM.list hsn PySem.F.slot_list_append (by kernel_rfl)) ?_ | refine ⟨_, _, _, GetM.list hsn PySem.F.slot_list_append (by kernel_rfl), ?_⟩
        refine XEs.cons ?_
        refine XE.lv 6 ?_
        refine XEs.nil ?_
        first | refine exK .bi (CallV.append hsn (by rw [List.length_map, sizeLine_eq]; omega)) ?_ | refine exN .bi (CallV.append hsn (by rw [List.length_map, sizeLine_eq]; omega)) ?_ | refine ⟨.bi, _, _, CallV.append hsn (by rw [List.length_map, sizeLine_eq]; omega), ?_⟩
        have hsd2 := gs (x := AO.list (rls.map AV.loc ++ [AV.loc rl])) hsne hsd
        have hc22 := gs (x := AO.list (rls.map AV.loc ++ [AV.loc rl])) (ne_kind hsn hc2' (by simp)) hc2'
        refine XB.cons ?_
        refine XS.expr ?_
        refine XE.meth ?_ (pl := _)
        refine XE.lv 4 ?_
        first | refine exM (GetM.list hsd2 PySem.F.slot_list_append (by kernel_rfl)) ?_ | refine ⟨_, _, _, GetM.list hsd2 PySem.F.slot_list_append (by kernel_rfl), ?_⟩
        refine XEs.cons ?_
        refine XE.cv 2 hc22 ?_
        refine XEs.nil ?_
        first | refine exK .bi (CallV.append hsd2 (by rw [strsOf_len, List.length_take, sizeLine_eq]; omega)) ?_ | refine exN .bi (CallV.append hsd2 (by rw [strsOf_len, List.length_take, sizeLine_eq]; omega)) ?_ | refine ⟨.bi, _, _, CallV.append hsd2 (by rw [strsOf_len, List.length_take, sizeLine_eq]; omega), ?_⟩
        refine XB.nil ?_
        have EA : Ext [sn, sd] G9 ((G9.set sn (AO.list (rls.map AV.loc ++ [AV.loc rl]))).set sd (AO.list (strsOf ([l1, l2].take k) ++ [AV.str l]))) := (Ext.refl.set (.inl (by simp))).set (.inl (by simp))
        have nk : ∀ {j : Nat} {o : AO}, G9[j]? = some o → (∀ v, o ≠ .list v) → j ∉ [sn, sd] := fun {j o} h1 h2 q => by
          rcases List.mem_cons.mp q with rfl | q
          · rw [hsn] at h1; cases h1; exact h2 _ rfl
          · rw [List.mem_singleton] at q; subst q
            rw [hsd] at h1; cases h1; exact h2 _ rfl
        have nR : ∀ {r : Nat} {R' : List (List Int)}, RowsL G9 r R' → tl < r → (∀ row ∈ R', 1 ≤ row.length) → RowsL ((G9.set sn (AO.list (rls.map AV.loc ++ [AV.loc rl]))).set sd (AO.list (strsOf ([l1, l2].take k) ++ [AV.str l]))) r R' := fun {r R'} x hr hrow => by
          refine x.ext EA (fun q => ?_) fun q hq row hr' => ?_
          · rcases List.mem_cons.mp q with rfl | q
            · omega
            · rw [List.mem_singleton] at q; omega
          · rcases List.mem_cons.mp hq with rfl | q
            · rw [hsn]
              intro h; injection h with h; injection h with h
              exact ints_locs (hrow row hr') h
            · rw [List.mem_singleton] at q; subst q
              rw [hsd]
              intro h; injection h with h; injection h with h
              exact ints_strs (hrow row hr') h
        refine ⟨k + 1, rls ++ [rl], _, _, _, _, _, ?_, hrest2, rfl, EA.2 _ _ (nk hc0 (by simp)) hc0, EA.2 _ _ (nk hc1 (by simp)) hc1, _, EA.2 _ _ (nk hc2' (by simp)) hc2', EA.2 _ _ (nk htl (by simp)) htl, ?_, ?_, by simp [hrl], ?_, ?_⟩
        · have := (List.getElem?_eq_some_iff.mp hk).1
          simp at this; omega
        · rw [gn hsd2, List.take_add_one, hlk]; simp
        · rw [gs (Ne.symm hsne) (gn hsn)]; simp
        · refine tab_ext tab2 EA fun j hj => ?_
          rcases List.mem_cons.mp hj with rfl | q
          · exact ⟨_, hsn, by simp, by simp⟩
          · rw [List.mem_singleton] at q; subst q
            exact ⟨_, hsd, by simp, by simp⟩
        · intro j r R' hj hR'
          by_cases hlt : j < rls.length
          · rw [List.getElem?_append_left hlt] at hj
            refine Classical.byContradiction fun hn0 => ?_
            obtain ⟨x1, x2⟩ := hR j r R' hj hR'
            refine hn0 ?_
            clear hn0
            refine ⟨nR x1 x2 ?_, x2⟩
            match j, hR' with
            | 0, hR' => cases hR'; exact fun row h => (r1.small row h).1
            | 1, hR' => cases hR'; exact fun row h => (r2.small row h).1
          · rw [List.getElem?_append_right (by omega)] at hj
            have hj0 : j = k := by have := (List.getElem?_eq_some_iff.mp hj).1; simp at this; omega
            subst hj0
            rw [hrl, Nat.sub_self] at hj
            rw [hRk] at hR'
            cases hj; cases hR'
            exact ⟨nR hR4 hrl4 fun row h => (run.small row h).1, hrl4⟩
      · intro vars G hh0
        refine Classical.byContradiction fun hn0 => ?_
        obtain ⟨k, rls, u1, u5, u6, u7, u8, hk2, hrest, rfl, hc0, hc1, uc, hc2, htl, hsd, hsn, hrl, tab, hR⟩ := hh0
        refine hn0 ?_
        clear hn0
        have hk : k = 2 := by
          have := congrArg List.length hrest; simp at this; omega
        subst hk
        exact ⟨rfl, rls, u1, u5, u6, u7, u8, rfl, hc1, hsd, hsn, hrl, fun j rl R h1 h2 => (hR j rl R h1 h2).1, tab⟩
    intro f vars G hh0
    refine Classical.byContradiction fun hn0 => ?_
    obtain ⟨rfl, rls, u1, u5, u6, u7, u8, rfl, hc1, hsd, hsn, hrl, hR, tab⟩ := hh0
    refine hn0 ?_
    clear hn0
    obtain ⟨ra, rb, rfl⟩ : ∃ ra rb, rls = [ra, rb] := by
      match rls, hrl with
      | [a, b], _ => exact ⟨a, b, rfl⟩
    have hA := hR 0 ra R1 rfl rfl
    have hB := hR 1 rb R2 rfl rfl
    refine Classical.byContradiction fun hn0 => ?_
    obtain ⟨ja, a1, a2, a3⟩ := id hA
    refine hn0 ?_
    clear hn0
    -- meet
    refine XB.cons ?_
    refine XS.assign 9 ?_
    refine XE.cmp ?_
    refine XE.comp ["row"] [c0 + 1] ?_ (by intro j y h; cases j with | zero => cases h; exact ⟨1, _, rfl, rfl, rfl⟩ | succ j => cases h)
    refine XE.item ?_
    refine XE.cv 1 hc1 ?_
    refine XE.int ?_
    first | refine ex2 (v := .loc ra) (.list hsn (j := 0) (by rfl) rfl (by show 2 < 2 ^ 62; decide)) ?_ | refine ⟨.loc ra, _, .list hsn (j := 0) (by rfl) rfl (by show 2 < 2 ^ 62; decide), ?_⟩
    first | refine exI (IterV.list a1) rfl ?_ | refine ⟨_, IterV.list a1, rfl, ?_⟩
    let P : AV → Bool := fun v => @decide (∃ j r, v = .loc j ∧ r ∈ R2 ∧ G[j]? = some (.list (intsOf r))) (Classical.propDecidable _)
    have hint : ∀ {x y : List Int}, intsOf x = intsOf y → x = y := by
      intro x y h
      have h2 := congrArg (List.map fun v => match v with | AV.int z => z | _ => 0) h
      simpa [intsOf, List.map_map, Function.comp_def] using h2
    have hja : ∀ v ∈ ja.map AV.loc, ∃ j row, v = .loc j ∧ row ∈ R1 ∧ G[j]? = some (.list (intsOf row)) := fun v hv => by
      refine Classical.byContradiction fun hn0 => ?_
      obtain ⟨j, hj, rfl⟩ := List.mem_map.mp hv
      refine hn0 ?_
      clear hn0
      refine Classical.byContradiction fun hn0 => ?_
      obtain ⟨k, hk⟩ := List.getElem?_of_mem hj
      refine hn0 ?_
      clear hn0
      have hkl : k < R1.length := by have := (List.getElem?_eq_some_iff.mp hk).1; omega
      exact ⟨j, _, rfl, List.getElem_mem hkl, a3 k j _ hk (List.getElem?_eq_getElem hkl)⟩
    refine XL.pure 0 (vs := ja.map AV.loc) P id (fun vars => vars.length = 1) (fun v hv vars hI => ⟨by simpa using hI, ?_⟩) (fun v hv _ vars hI => ?_) (by rw [List.length_map, a2, sizeLine_eq]; have := r1.le; omega) ⟨_, a1, rfl⟩ rfl ?_
    · refine Classical.byContradiction fun hn0 => ?_
      obtain ⟨j, row, rfl, hr, hj⟩ := hja v hv
      refine hn0 ?_
      clear hn0
      refine Classical.byContradiction fun hn0 => ?_
      obtain ⟨m, rfl⟩ := vlen vars hI
      refine hn0 ?_
      clear hn0
      refine XTs.one (XT.cmp (XE.lv 0 (XE.item (XE.cv 0 hc1 (XE.int ⟨.loc rb, _, .list hsn (j := 1) (by rfl) rfl (by show 2 < 2 ^ 62; decide), ?_⟩)))))
      refine ⟨_, _, .inD (.list hj .ints) hB.dat (by simpa [PyData.canLay0] using canLay_ints _) (canLay_rows _) (by simp [PyData.depth, depth_ints]), ?_, rfl⟩
      rw [any_eqv, Bool.eq_iff_iff, List.contains_iff_mem]
      simp only [P, decide_eq_true_eq]
      constructor
      · intro h; exact ⟨j, row, rfl, h, hj⟩
      · rintro ⟨j', r, h1, h2, h3⟩
        cases h1
        rw [hj] at h3
        injection h3 with h3; injection h3 with h3
        rw [hint h3]; exact h2
    · refine Classical.byContradiction fun hn0 => ?_
      obtain ⟨m, rfl⟩ := vlen vars hI
      refine hn0 ?_
      clear hn0
      exact XE.lv 0 ⟨rfl, rfl⟩
    rw [List.map_id]
    have hfl : ∀ v ∈ (ja.map AV.loc).filter P, ∃ row : List Int, Dat (G ++ [AO.list ((ja.map AV.loc).filter P)] ++ [AO.list []]) v (.list (row.map .int)) := fun v hv => by
      refine Classical.byContradiction fun hn0 => ?_
      obtain ⟨j, row, rfl, _, hj⟩ := hja v (List.mem_filter.mp hv).1
      refine hn0 ?_
      clear hn0
      exact ⟨row, .list (ga (ga hj)) .ints⟩
    refine Classical.byContradiction fun hn0 => ?_
    obtain ⟨rows', hd1, hd2⟩ := DatL.rows hfl
    refine hn0 ?_
    clear hn0
    have hmeet : (!PyData.eqv (.list (rows'.map fun row => .list (row.map .int))) (.list [])) = meets R1 R2 := by
      have q1 : (!PyData.eqv (.list (rows'.map fun row => .list (row.map .int))) (.list [])) = !rows'.isEmpty := by
        cases rows' <;> simp [PyData.eqv, PyData.eqvAll]
      have q2 : rows'.isEmpty = ((ja.map AV.loc).filter P).isEmpty := by
        rw [Bool.eq_iff_iff, List.isEmpty_iff_length_eq_zero, List.isEmpty_iff_length_eq_zero, hd2]
      rw [q1, q2, Bool.eq_iff_iff]
      unfold meets
      rw [List.any_eq_true, Bool.not_eq_true', List.isEmpty_eq_false_iff_exists_mem]
      constructor
      · rintro ⟨v, hv⟩
        refine Classical.byContradiction fun hn0 => ?_
        obtain ⟨hv1, hv2⟩ := List.mem_filter.mp hv
        refine hn0 ?_
        clear hn0
        refine Classical.byContradiction fun hn0 => ?_
        obtain ⟨j, row, rfl, hr, hj⟩ := hja v hv1
        refine hn0 ?_
        clear hn0
        simp only [P, decide_eq_true_eq] at hv2
        refine Classical.byContradiction fun hn0 => ?_
        obtain ⟨j', r, g1, g2, g3⟩ := hv2
        refine hn0 ?_
        clear hn0
        cases g1
        rw [hj] at g3
        injection g3 with g3; injection g3 with g3
        exact ⟨row, hr, List.contains_iff_mem.mpr (by rw [hint g3]; exact g2)⟩
      · rintro ⟨row, hr, hr2⟩
        refine Classical.byContradiction fun hn0 => ?_
        obtain ⟨k, hk⟩ := List.getElem?_of_mem hr
        refine hn0 ?_
        clear hn0
        have hkl : k < ja.length := by have := (List.getElem?_eq_some_iff.mp hk).1; omega
        refine ⟨.loc ja[k], List.mem_filter.mpr ⟨List.mem_map.mpr ⟨_, List.getElem_mem hkl, rfl⟩, ?_⟩⟩
        simp only [P, decide_eq_true_eq]
        exact ⟨_, row, rfl, List.contains_iff_mem.mp hr2, a3 k _ _ (List.getElem?_eq_getElem hkl) hk⟩
    refine XE.list ?_
    refine XEs.nil ?_
    refine ⟨by decide, ?_⟩
    first | refine ex2 (.neD (.list (ga gl) hd1) (.list (ds := []) gl .nil) (canL_rows _) rfl (by have := depth_rows rows'; simp only [PyData.depth]; omega)) ?_ | refine ⟨_, _, .neD (.list (ga gl) hd1) (.list (ds := []) gl .nil) (canL_rows _) rfl (by have := depth_rows rows'; simp only [PyData.depth]; omega), ?_⟩
    rw [hmeet]
    have hsd3 := ga (l := [AO.list []]) (ga (l := [AO.list ((ja.map AV.loc).filter P)]) hsd)
    have tab3 := tab_ext tab (S := []) (Ext.refl.app.app (l := [AO.list []])) (H1 := G ++ [AO.list ((ja.map AV.loc).filter P)] ++ [AO.list []]) (by simp)
    generalize G ++ [AO.list ((ja.map AV.loc).filter P)] ++ [AO.list []] = GZ at hsd3 tab3
    have hl1 : l1.length ≤ 4 := by rw [r1.letsLen]; omega
    have hl2 : l2.length ≤ 4 := by rw [r2.letsLen]; omega
    -- return
    refine XB.cons ?_
    refine XS.ret ?_
    refine XE.cmp ?_
    refine XE.call ?_
    refine XE.gv 88 ?_
    refine XEs.cons ?_
    refine XE.bin ?_
    refine XE.bin ?_
    refine XE.str dots ?_
    refine XE.item ?_
    refine XE.lv 4 ?_
    refine XE.int ?_
    first | refine ex2 (v := .str l1) (.list hsd3 (j := 0) (by rfl) rfl (by show 2 < 2 ^ 62; decide)) ?_ | refine ⟨.str l1, _, .list hsd3 (j := 0) (by rfl) rfl (by show 2 < 2 ^ 62; decide), ?_⟩
    first | refine ex2 (.addS (by rw [sizeLine_eq, show dots.length = 3 from rfl]; omega)) ?_ | refine ⟨_, _, .addS (by rw [sizeLine_eq, show dots.length = 3 from rfl]; omega), ?_⟩
    refine XE.str dots ?_
    first | refine ex2 (.addS (by rw [List.length_append, sizeLine_eq, show dots.length = 3 from rfl]; omega)) ?_ | refine ⟨_, _, .addS (by rw [List.length_append, sizeLine_eq, show dots.length = 3 from rfl]; omega), ?_⟩
    refine XEs.cons ?_
    refine XE.bin ?_
    refine XE.item ?_
    refine XE.lv 4 ?_
    refine XE.int ?_
    first | refine ex2 (v := .str l2) (.list hsd3 (j := 1) (by rfl) rfl (by show 2 < 2 ^ 62; decide)) ?_ | refine ⟨.str l2, _, .list hsd3 (j := 1) (by rfl) rfl (by show 2 < 2 ^ 62; decide), ?_⟩
    refine XE.item ?_
    refine XE.lv 4 ?_
    refine XE.int ?_
    first | refine ex2 (v := .str l2) (.list hsd3 (j := 1) (by rfl) rfl (by show 2 < 2 ^ 62; decide)) ?_ | refine ⟨.str l2, _, .list hsd3 (j := 1) (by rfl) rfl (by show 2 < 2 ^ 62; decide), ?_⟩
    first | refine ex2 (.addS (by rw [sizeLine_eq]; omega)) ?_ | refine ⟨_, _, .addS (by rw [sizeLine_eq]; omega), ?_⟩
    refine XEs.nil ?_
    first | refine exC keep_fn ?_ | refine exD keep_fn ?_ | refine ⟨keep_fn, XC.call ?_⟩
    refine Classical.byContradiction fun hn0 => ?_
    obtain ⟨_, GY, hY, rfl, EY⟩ := ellipsis_spec (B := B) (d := d + 5) (H := GZ) (want := dots ++ l1 ++ dots) (got := l2 ++ l2) el.hin el.h1 el.hf el.hx (by rw [List.length_append]; omega) el.h2 el.hn el.hw
    refine hn0 ?_
    clear hn0
    first | refine ex2 hY ?_ | refine ⟨_, _, hY, ?_⟩
    refine XE.lv 9 ?_
    first | refine ex2 .eqB ?_ | refine ⟨_, _, .eqB, ?_⟩
    refine ⟨?_, tab_ext tab3 EY (by simp)⟩
    show AV.bool (tells l1 l2 == meets R1 R2) = .bool true
    rw [hm]; simp
end Mine

/- part -/
namespace Mine

/- the same in plain numbers -/
noncomputable def insN (x : Nat) : List Nat → List Nat
  | [] => [x]
  | y :: l => bif Nat.ble y x then y :: insN x l else x :: y :: l
noncomputable def rowF (r : List Nat) : List Nat → List Nat
  | [] => r
  | x :: c => rowF (insN x r) c
noncomputable def rowN (c : List Nat) : List Nat := rowF [] c
noncomputable def cless : List Nat → List Nat
  | [] => []
  | x :: c => bif Nat.ble 2 x then (x - 1) :: cless c else cless c
noncomputable def cdeal (c : List Nat) : List Nat := cless c ++ [c.length]
noncomputable def nextP (r : List Nat) : List Nat := rowN (cdeal r)
noncomputable def moreGo : Nat → List Nat → Option (List Nat)
  | _, [] => some []
  | k, x :: l => bif Nat.beq x k then (moreGo (k + 1) l).map (97 :: ·) else bif Nat.beq x (k + 1) then (moreGo (k + 1) l).map (98 :: ·) else none
noncomputable def moreN (row : List Nat) (steps : Nat) : List Nat := bif Nat.ble row.length steps then (moreGo 0 (List.replicate (steps - row.length) 0 ++ row)).getD [] else []
noncomputable def cFin (steps : Nat) : Nat → List Nat → List Nat
  | 0, c => c
  | f + 1, c => bif (moreN (rowN c) steps).isEmpty then cFin steps f (cdeal c) else c
noncomputable def cPre (steps : Nat) : Nat → List Nat → List (List Nat)
  | 0, c => []
  | f + 1, c => bif (moreN (rowN c) steps).isEmpty then rowN c :: cPre steps f (cdeal c) else []
noncomputable def cIt : Nat → List Nat → List Nat
  | 0, c => c
  | f + 1, c => cIt f (cdeal c)
noncomputable def cRows : Nat → List Nat → List (List Nat)
  | 0, c => [rowN c]
  | f + 1, c => rowN c :: cRows f (cdeal c)
noncomputable def rowsC (steps : Nat) (c : List Nat) : List (List Nat) := cPre steps 42 c ++ cRows steps (cFin steps 42 c)
/- partitions -/
noncomputable def pFin (steps : Nat) : Nat → List Nat → List Nat
  | 0, r => r
  | f + 1, r => bif (moreN r steps).isEmpty then pFin steps f (nextP r) else r
noncomputable def pTail : Nat → List Nat → List (List Nat)
  | 0, r => [r]
  | f + 1, r => r :: pTail f (nextP r)
noncomputable def pRows (steps : Nat) : Nat → List Nat → List (List Nat)
  | 0, r => pTail steps r
  | f + 1, r => bif (moreN r steps).isEmpty then r :: pRows steps f (nextP r) else pTail steps r
noncomputable def word (steps : Nat) (r : List Nat) : List Nat := moreN (pFin steps 42 r) steps
noncomputable def val : Nat → List Nat → Nat
  | n, [] => n
  | n, c :: l => val (2 * n + (c - 97)) l
noncomputable def canon (l : List Nat) : Nat := (List.range l.length).foldl (fun m k => Nat.min m (val 0 (l.drop k ++ l.take k))) 1000
noncomputable def bitsOf : Nat → Nat → List Nat
  | 0, _ => []
  | k + 1, n => bitsOf k (n / 2) ++ [n % 2]
noncomputable def rowAt : Nat → List Nat → List Nat
  | _, [] => []
  | k, b :: l => bif Nat.beq (k + b) 0 then rowAt (k + 1) l else (k + b) :: rowAt (k + 1) l
noncomputable def cuts : Nat → List (List Nat)
  | 0 => [[1]]
  | k + 1 => (cuts k).map (fun p => 1 :: p) ++ (cuts k).map (fun p => (p.headD 0 + 1) :: p.tail)
noncomputable def srtB : List Nat → Bool
  | [] => true
  | x :: l => (match l with | [] => true | y :: _ => Nat.ble x y) && srtB l
noncomputable def words : Nat → Nat → List (List Nat)   -- length, number of b
  | 0, n => bif Nat.beq n 0 then [[]] else []
  | k + 1, n => (words k n).map (97 :: ·) ++ (match n with | 0 => [] | n + 1 => (words k n).map (98 :: ·))
noncomputable def wl (T : Nat) : List (List Nat) := words (stepsOf T) (T - (stepsOf T * (stepsOf T - 1) / 2))
noncomputable def chkC (st : Nat) (c : List Nat) : Bool := (moreN (rowN c) st).isEmpty || (cIt st c == rowN (cIt st c))
noncomputable def chkP (T st : Nat) (r : List Nat) : Bool :=
  (wl T).contains (word st r) && Nat.beq (canon (word st r)) (canon (word st (nextP r))) && (pRows st 42 r).contains (rowAt 0 (bitsOf st (canon (word st r)))) &&
  decide ((pTail st (pFin st 42 r)).map (fun row => moreN row st) = (List.range (st + 1)).map fun k => (word st r).drop k ++ (word st r).take k)
noncomputable def ellB (want : List Nat) : Bool := occ want dots && !(decide ((sp want).length < (sp dots).length) || decide (Builtin.Str.strKind (sp want) < Builtin.Str.strKind (sp dots))) &&
  !(Builtin.Str.occurrences (sp want) (sp dots) 0 (sp want).length ((sp want).length + 1)).isEmpty && decide (want.length ≤ 1000) && decide (2 ≤ (splitI want dots).length) && decide ((splitI want dots).length ≤ 1000) && (splitI want dots).all fun w => decide (w.length ≤ 1000)
theorem dc4 : ((cuts 3).all fun c => chkC 3 c) = true := by decide +kernel
theorem dc5 : ((cuts 4).all fun c => chkC 3 c) = true := by decide +kernel
theorem dc6 : ((cuts 5).all fun c => chkC 3 c) = true := by decide +kernel
theorem dc7 : ((cuts 6).all fun c => chkC 4 c) = true := by decide +kernel
theorem dc8 : ((cuts 7).all fun c => chkC 4 c) = true := by decide +kernel
theorem dc9 : ((cuts 8).all fun c => chkC 4 c) = true := by decide +kernel
theorem dc10 : ((cuts 9).all fun c => chkC 4 c) = true := by decide +kernel
theorem dp4 : ((cuts 3).all fun c => !srtB c || chkP 4 3 c) = true := by decide +kernel
theorem dp5 : ((cuts 4).all fun c => !srtB c || chkP 5 3 c) = true := by decide +kernel
theorem dp6 : ((cuts 5).all fun c => !srtB c || chkP 6 3 c) = true := by decide +kernel
theorem dp7 : ((cuts 6).all fun c => !srtB c || chkP 7 4 c) = true := by decide +kernel
theorem dp8 : ((cuts 7).all fun c => !srtB c || chkP 8 4 c) = true := by decide +kernel
theorem dp9 : ((cuts 8).all fun c => !srtB c || chkP 9 4 c) = true := by decide +kernel
theorem dp10 : ((cuts 9).all fun c => !srtB c || chkP 10 4 c) = true := by decide +kernel
theorem dw4 : ((wl 4).all fun a => ellB (dots ++ a ++ dots) && (wl 4).all fun b => tells a b == Nat.beq (canon a) (canon b)) = true := by decide +kernel
theorem dw5 : ((wl 5).all fun a => ellB (dots ++ a ++ dots) && (wl 5).all fun b => tells a b == Nat.beq (canon a) (canon b)) = true := by decide +kernel
theorem dw6 : ((wl 6).all fun a => ellB (dots ++ a ++ dots) && (wl 6).all fun b => tells a b == Nat.beq (canon a) (canon b)) = true := by decide +kernel
theorem dw7 : ((wl 7).all fun a => ellB (dots ++ a ++ dots) && (wl 7).all fun b => tells a b == Nat.beq (canon a) (canon b)) = true := by decide +kernel
theorem dw8 : ((wl 8).all fun a => ellB (dots ++ a ++ dots) && (wl 8).all fun b => tells a b == Nat.beq (canon a) (canon b)) = true := by decide +kernel
theorem dw9 : ((wl 9).all fun a => ellB (dots ++ a ++ dots) && (wl 9).all fun b => tells a b == Nat.beq (canon a) (canon b)) = true := by decide +kernel
theorem dw10 : ((wl 10).all fun a => ellB (dots ++ a ++ dots) && (wl 10).all fun b => tells a b == Nat.beq (canon a) (canon b)) = true := by decide +kernel
end Mine

/- part -/
namespace Mine

noncomputable abbrev zs (l : List Nat) : List Int := l.map Int.ofNat
noncomputable def szs (q : List WP) : List Nat := q.map fun x => x.2 % 64
theorem szs_len (q : List WP) : (szs q).length = q.length := by simp [szs]
theorem ins_zs (x : Nat) (l : List Nat) : ins (x : Int) (zs l) = zs (insN x l) := by
  induction l with
  | nil => rfl
  | cons y l ih =>
    unfold ins at ih ⊢
    unfold insN
    simp only [zs, List.map_cons, List.takeWhile_cons, List.dropWhile_cons] at ih ⊢
    cases h : Nat.ble y x with
    | true =>
      have h2 := Nat.le_of_ble_eq_true h
      have h3 : decide (Int.ofNat y ≤ (x : Int)) = true := by simp; omega
      rw [h3]
      simp only [if_true, List.cons_append, cond_true, List.map_cons]
      rw [ih]
    | false =>
      have h2 : ¬ y ≤ x := fun q => by rw [Nat.ble_eq_true_of_le q] at h; cases h
      have h3 : decide (Int.ofNat y ≤ (x : Int)) = false := by simp; omega
      rw [h3]; rfl
theorem row0_zs (q : List WP) (r : List Nat) : row0 (zs r) q = zs (rowF r (szs q)) := by
  induction q generalizing r with
  | nil => rfl
  | cons x q ih => rw [row0, ins_zs, ih]; rfl
theorem cless_szs (q : List WP) : szs (lessQ q) = cless (szs q) := by
  induction q with
  | nil => rfl
  | cons x q ih =>
    unfold lessQ
    simp only [szs, List.map_cons, cless] at ih ⊢
    by_cases h : 1 < x.2 % 64
    · rw [if_pos h, Nat.ble_eq_true_of_le (show 2 ≤ x.2 % 64 from h)]
      simp only [cond_true, List.map_cons, ih]
      congr 1; omega
    · rw [if_neg h]
      have : Nat.ble 2 (x.2 % 64) = false := by
        cases hb : Nat.ble 2 (x.2 % 64) with
        | true => exact absurd (Nat.le_of_ble_eq_true hb) h
        | false => rfl
      rw [this]; exact ih
theorem rowQ_zs (q : List WP) (r : List Nat) : rowQ (zs r) q = zs (rowF r (cless (szs q))) := by
  induction q generalizing r with
  | nil => rfl
  | cons x q ih =>
    unfold rowQ
    simp only [szs, List.map_cons, cless] at ih ⊢
    by_cases h : 1 < x.2 % 64
    · rw [if_pos h, Nat.ble_eq_true_of_le (show 2 ≤ x.2 % 64 from h)]
      rw [ins_zs, ih]; rfl
    · rw [if_neg h]
      have : Nat.ble 2 (x.2 % 64) = false := by
        cases hb : Nat.ble 2 (x.2 % 64) with
        | true => exact absurd (Nat.le_of_ble_eq_true hb) h
        | false => rfl
      rw [this]; exact ih r
theorem rowF_app (a b r : List Nat) : rowF r (a ++ b) = rowF (rowF r a) b := by
  induction a generalizing r with
  | nil => rfl
  | cons x a ih => exact ih _
theorem dealRow_zs (q : List WP) : dealRow q = zs (rowN (cdeal (szs q))) := by
  unfold dealRow rowN cdeal
  rw [show ([] : List Int) = zs [] from rfl, rowQ_zs, ins_zs, rowF_app, szs_len]; rfl
theorem dealQ_szs (q : List WP) (h : q.length < 64) : szs (dealQ q) = cdeal (szs q) := by
  unfold dealQ cdeal
  rw [szs_len]
  show (lessQ q ++ [(0, q.length)]).map _ = _
  rw [List.map_append, show (lessQ q).map (fun x => x.2 % 64) = szs (lessQ q) from rfl, cless_szs]
  simp [Nat.mod_eq_of_lt h]
theorem more_go : ∀ (L : List Nat) (k : Nat), moreGo k L = if ((List.range L.length).map fun j => (zs L).getD j 0 - ((k + j : Nat) : Int)).filter (fun o => o != 0 && o != 1) = [] then some (((List.range L.length).map fun j => (zs L).getD j 0 - ((k + j : Nat) : Int)).map fun o => if o = 0 then 97 else 98) else none
  | [], k => rfl
  | x :: L, k => by
    have e : (List.range (x :: L).length).map (fun j => (zs (x :: L)).getD j 0 - ((k + j : Nat) : Int)) = ((x : Int) - k) :: (List.range L.length).map fun j => (zs L).getD j 0 - ((k + 1 + j : Nat) : Int) := by
      rw [List.length_cons, List.range_succ_eq_map, List.map_cons, List.map_map]
      congr 1
      refine List.map_congr_left fun j _ => ?_
      simp only [Function.comp, zs, List.map_cons, List.getD_cons_succ]
      congr 2; omega
    rw [e, moreGo, more_go L (k + 1)]
    generalize (List.range L.length).map (fun j => (zs L).getD j 0 - ((k + 1 + j : Nat) : Int)) = D
    by_cases h0 : x = k
    · subst h0
      simp only [Nat.beq_refl, cond_true, List.filter_cons, List.map_cons, Int.sub_self]
      simp only [bne_self_eq_false, Bool.false_and, Bool.false_eq_true, if_false]
      split <;> rfl
    · have b0 : Nat.beq x k = false := by
        cases hb : Nat.beq x k with
        | true => exact absurd (Nat.eq_of_beq_eq_true hb) h0
        | false => rfl
      rw [b0]
      by_cases h1 : x = k + 1
      · subst h1
        have hd : ((k + 1 : Nat) : Int) - k = 1 := by omega
        simp only [Nat.beq_refl, cond_true, cond_false, List.filter_cons, List.map_cons, hd]
        rw [if_neg (show ¬ ((1 : Int) != 0 && (1 : Int) != 1) = true by decide)]
        split <;> rfl
      · have b1 : Nat.beq x (k + 1) = false := by
          cases hb : Nat.beq x (k + 1) with
          | true => exact absurd (Nat.eq_of_beq_eq_true hb) h1
          | false => rfl
        rw [b1]
        have hd : (((x : Int) - k) != 0 && ((x : Int) - k) != 1) = true := by
          rw [Bool.and_eq_true, bne_iff_ne, bne_iff_ne]; omega
        rw [List.filter_cons, if_pos hd, if_neg (List.cons_ne_nil _ _)]; rfl
theorem more_zs (r : List Nat) (st : Nat) : moreS (zs r) st = moreN r st := by
  unfold moreS moreN
  rw [List.length_map]
  by_cases h : st < r.length
  · rw [if_pos h]
    have : Nat.ble r.length st = false := by
      cases hb : Nat.ble r.length st with
      | true => have := Nat.le_of_ble_eq_true hb; omega
      | false => rfl
    rw [this]; rfl
  · rw [if_neg h, Nat.ble_eq_true_of_le (by omega), cond_true, more_go]
    have e1 : (List.replicate (st - r.length) 0 ++ r).length = st := by simp; omega
    have e2 : moreI (zs r) st = (List.range st).map fun j => (zs (List.replicate (st - r.length) 0 ++ r)).getD j 0 - ((0 + j : Nat) : Int) := by
      unfold moreI sizesOf
      rw [List.length_map]
      refine List.map_congr_left fun j _ => ?_
      rw [Nat.zero_add]
      congr 2
      simp [zs]
    rw [e1, e2]
    split <;> rfl

/- rows, in plain numbers -/
theorem rowsGo_zs (st : Nat) : ∀ (f : Nat) (q : List WP) (rows : List (List Int)), q.length + f < 64 →
    ∃ q', rowsGo st f q rows (zs (rowN (szs q))) = (q', rows ++ (cPre st f (szs q)).map zs, zs (rowN (szs q'))) ∧ szs q' = cFin st f (szs q) ∧ q'.length ≤ q.length + f
  | 0, q, rows, h => ⟨q, by simp [rowsGo, cPre], rfl, by omega⟩
  | f + 1, q, rows, h => by
    unfold rowsGo cPre cFin
    rw [more_zs]
    cases hm : moreN (rowN (szs q)) st with
    | nil =>
      rw [if_pos rfl]
      have hl := (dealQ_len q).2
      obtain ⟨q', h1, h2, h3⟩ := rowsGo_zs st f (dealQ q) (rows ++ [zs (rowN (szs q))]) (by omega)
      rw [dealQ_szs q (by omega)] at h1 h2
      refine ⟨q', ?_, h2, by omega⟩
      rw [dealRow_zs, h1]
      simp
    | cons a l =>
      rw [if_neg (by simp)]
      exact ⟨q, by simp, rfl, by omega⟩
theorem rowsMore_zs : ∀ (f : Nat) (q : List WP) (rows : List (List Int)), q.length + f < 64 →
    ∃ (q' : List WP) (X : List (List Nat)), rowsMore f q rows (zs (rowN (szs q))) = (q', rows ++ X.map zs, zs (rowN (szs q'))) ∧ szs q' = cIt f (szs q) ∧ cRows f (szs q) = X ++ [rowN (szs q')]
  | 0, q, rows, h => ⟨q, [], by simp [rowsMore], rfl, rfl⟩
  | f + 1, q, rows, h => by
    unfold rowsMore cIt cRows
    have hl := (dealQ_len q).2
    obtain ⟨q', X, h1, h2, h3⟩ := rowsMore_zs f (dealQ q) (rows ++ [zs (rowN (szs q))]) (by omega)
    rw [dealQ_szs q (by omega)] at h1 h2 h3
    refine ⟨q', rowN (szs q) :: X, ?_, h2, by rw [h3]; rfl⟩
    rw [dealRow_zs, h1]
    simp
theorem szs_wps {c : List Nat} (hp : PileOk c) : szs (wps c) = c := by
  unfold szs wps
  rw [List.map_map]
  refine List.ext_getElem (by simp) fun k h1 h2 => ?_
  rw [List.getElem_map, List.getElem_range]
  have := pile_get hp h2
  have e : c.getD k 0 = c[k] := by rw [List.getD_eq_getElem?_getD, List.getElem?_eq_getElem h2]; rfl
  simp only [Function.comp, wp]
  rw [e] at this ⊢
  have h3 : k % 2 < 2 := Nat.mod_lt _ (by decide)
  omega
theorem rowsAll_zs {c : List Nat} (hp : PileOk c) {st : Nat} (hs : st ≤ 4) : rowsAll c st = (rowsC st c).map zs ++ [zs (cIt st (cFin st 42 c))] := by
  have hl := hp.2.1
  have h0 : row0 [] (wps c) = zs (rowN (szs (wps c))) := row0_zs (wps c) []
  obtain ⟨q1, h1, h2, h3⟩ := rowsGo_zs st 42 (wps c) [] (by rw [wps_len]; omega)
  rw [wps_len] at h3
  obtain ⟨q2, X, g1, g2, g3⟩ := rowsMore_zs st q1 ([] ++ (cPre st 42 (szs (wps c))).map zs) (by omega)
  unfold rowsAll
  rw [h0, h1]
  dsimp only
  rw [g1]
  dsimp only
  rw [szs_wps hp] at h2 ⊢
  rw [h2] at g2 g3
  unfold rowsC
  rw [g3, ← g2]
  simp [szs, List.map_map, Function.comp_def]

/- in order -/
theorem insN_perm (x : Nat) (l : List Nat) : (insN x l).Perm (x :: l) := by
  induction l with
  | nil => exact .refl _
  | cons y l ih =>
    unfold insN
    cases Nat.ble y x with
    | true => exact (ih.cons y).trans (.swap x y l)
    | false => exact .refl _
theorem insN_sorted {x : Nat} {l : List Nat} (h : l.Pairwise (· ≤ ·)) : (insN x l).Pairwise (· ≤ ·) := by
  induction l with
  | nil => simp [insN]
  | cons y l ih =>
    obtain ⟨h1, h2⟩ := List.pairwise_cons.mp h
    unfold insN
    cases hb : Nat.ble y x with
    | true =>
      have hxy := Nat.le_of_ble_eq_true hb
      refine List.pairwise_cons.mpr ⟨fun z hz => ?_, ih h2⟩
      rcases List.mem_cons.mp ((insN_perm x l).mem_iff.mp hz) with rfl | hz
      · exact hxy
      · exact h1 z hz
    | false =>
      have hxy : x ≤ y := by
        rcases Nat.le_total x y with h | h
        · exact h
        · rw [Nat.ble_eq_true_of_le h] at hb; cases hb
      refine List.pairwise_cons.mpr ⟨fun z hz => ?_, h⟩
      rcases List.mem_cons.mp hz with rfl | hz
      · exact hxy
      · exact Nat.le_trans hxy (h1 z hz)
theorem rowF_perm : ∀ (c r : List Nat), (rowF r c).Perm (r ++ c)
  | [], r => by rw [List.append_nil]; exact .refl _
  | x :: c, r => (rowF_perm c (insN x r)).trans (((insN_perm x r).append_right c).trans List.perm_middle.symm)
theorem rowF_sorted : ∀ (c : List Nat) {r : List Nat}, r.Pairwise (· ≤ ·) → (rowF r c).Pairwise (· ≤ ·)
  | [], _, h => h
  | _ :: c, _, h => rowF_sorted c (insN_sorted h)
theorem rowN_perm (c : List Nat) : (rowN c).Perm c := rowF_perm c []
theorem rowN_sorted (c : List Nat) : (rowN c).Pairwise (· ≤ ·) := rowF_sorted c .nil
theorem sorted_eq {a b : List Nat} (h1 : a.Pairwise (· ≤ ·)) (h2 : b.Pairwise (· ≤ ·)) (p : a.Perm b) : a = b := p.eq_of_pairwise (fun x y _ _ h3 h4 => Nat.le_antisymm h3 h4) h1 h2
theorem rowN_congr {a b : List Nat} (p : a.Perm b) : rowN a = rowN b := sorted_eq (rowN_sorted a) (rowN_sorted b) ((rowN_perm a).trans (p.trans (rowN_perm b).symm))
theorem rowN_rowN (c : List Nat) : rowN (rowN c) = rowN c := rowN_congr (rowN_perm c)
theorem cless_perm {a b : List Nat} (p : a.Perm b) : (cless a).Perm (cless b) := by
  induction p with
  | nil => exact .refl _
  | cons x _ ih => unfold cless; cases Nat.ble 2 x with | true => exact ih.cons _ | false => exact ih
  | swap x y l => simp only [cless]; cases Nat.ble 2 x <;> cases Nat.ble 2 y <;> first | exact .refl _ | exact .swap _ _ _
  | trans _ _ h1 h2 => exact h1.trans h2
theorem nextP_rowN (c : List Nat) : nextP (rowN c) = rowN (cdeal c) := by
  unfold nextP cdeal
  refine rowN_congr ?_
  rw [(rowN_perm c).length_eq]
  exact (cless_perm (rowN_perm c)).append_right _
theorem srtI_zs (l : List Nat) : srtI (zs l) = zs (rowN l) := by
  unfold srtI
  refine List.Perm.eq_of_pairwise (le := (· ≤ ·)) (fun x y _ _ h3 h4 => Int.le_antisymm h3 h4) ?_ ?_ ?_
  · have := List.pairwise_mergeSort (le := fun a b : Int => decide (a ≤ b)) (fun a b c h1 h2 => by simp at h1 h2 ⊢; omega) (fun a b => by simp; omega) (zs l)
    exact this.imp (fun h => by simpa using h)
  · refine List.pairwise_map.mpr ((rowN_sorted l).imp fun h => ?_)
    exact Int.ofNat_le.mpr h
  · exact (List.mergeSort_perm _ _).trans ((rowN_perm l).map _).symm
theorem pFin_rowN (st : Nat) : ∀ (f : Nat) (c : List Nat), pFin st f (rowN c) = rowN (cFin st f c)
  | 0, c => rfl
  | f + 1, c => by
    unfold pFin cFin
    cases (moreN (rowN c) st).isEmpty with
    | true => rw [cond_true, cond_true, nextP_rowN, pFin_rowN st f]
    | false => rfl
theorem pTail_rowN : ∀ (f : Nat) (c : List Nat), pTail f (rowN c) = cRows f c
  | 0, c => rfl
  | f + 1, c => by unfold pTail cRows; rw [nextP_rowN, pTail_rowN f]
theorem pRows_rowN (st : Nat) : ∀ (f : Nat) (c : List Nat), pRows st f (rowN c) = cPre st f c ++ cRows st (cFin st f c)
  | 0, c => pTail_rowN st c
  | f + 1, c => by
    unfold pRows cPre cFin
    cases (moreN (rowN c) st).isEmpty with
    | true => rw [cond_true, cond_true, cond_true, nextP_rowN, pRows_rowN st f]; rfl
    | false => exact pTail_rowN st c
theorem rowsC_eq (st : Nat) (c : List Nat) : rowsC st c = pRows st 42 (rowN c) := (pRows_rowN st 42 c).symm
end Mine

/- part -/
namespace Mine

noncomputable def Comp (c : List Nat) (n : Nat) : Prop := (∀ x ∈ c, 1 ≤ x) ∧ c.sum = n
theorem Comp.tail {x n : Nat} {c : List Nat} (h : Comp (x :: c) n) : Comp c (n - x) ∧ 1 ≤ x ∧ x ≤ n := by
  obtain ⟨h1, h2⟩ := h
  rw [List.sum_cons] at h2
  exact ⟨⟨fun y hy => h1 y (.tail _ hy), by omega⟩, h1 x (.head _), by omega⟩
theorem Comp.len : ∀ {c : List Nat} {n : Nat}, Comp c n → c.length ≤ n ∧ ∀ x ∈ c, x ≤ n
  | [], n, h => ⟨Nat.zero_le _, fun x hx => by cases hx⟩
  | x :: c, n, h => by
    obtain ⟨h1, h2, h3⟩ := h.tail
    obtain ⟨h4, h5⟩ := h1.len
    refine ⟨by rw [List.length_cons]; omega, fun y hy => ?_⟩
    rcases List.mem_cons.mp hy with rfl | hy
    · exact h3
    · exact Nat.le_trans (h5 y hy) (by omega)
theorem Comp.perm {a b : List Nat} {n : Nat} (h : Comp a n) (p : a.Perm b) : Comp b n := ⟨fun x hx => h.1 x (p.mem_iff.mpr hx), by rw [← p.sum_nat]; exact h.2⟩
theorem Comp.row {c : List Nat} {n : Nat} (h : Comp c n) : Comp (rowN c) n := h.perm (rowN_perm c).symm
theorem Comp.ne {c : List Nat} {n : Nat} (h : Comp c n) (hn : 1 ≤ n) : 1 ≤ c.length := by
  cases c with
  | nil => have := h.2; simp at this; omega
  | cons => simp
theorem cless_sum : ∀ {c : List Nat}, (∀ x ∈ c, 1 ≤ x) → (cless c).sum + c.length = c.sum ∧ ∀ x ∈ cless c, 1 ≤ x
  | [], _ => ⟨rfl, fun x hx => by cases hx⟩
  | x :: c, h => by
    obtain ⟨h1, h2⟩ := cless_sum fun y hy => h y (.tail _ hy)
    have hx := h x (.head _)
    unfold cless
    cases hb : Nat.ble 2 x with
    | true =>
      have := Nat.le_of_ble_eq_true hb
      refine ⟨by simp only [cond_true, List.sum_cons, List.length_cons]; omega, fun y hy => ?_⟩
      rcases List.mem_cons.mp hy with rfl | hy
      · omega
      · exact h2 y hy
    | false =>
      have : ¬ 2 ≤ x := fun q => by rw [Nat.ble_eq_true_of_le q] at hb; cases hb
      exact ⟨by simp only [cond_false, List.sum_cons, List.length_cons]; omega, h2⟩
theorem Comp.deal {c : List Nat} {n : Nat} (h : Comp c n) (hn : 1 ≤ n) : Comp (cdeal c) n := by
  obtain ⟨h1, h2⟩ := cless_sum h.1
  have h3 := h.ne hn
  refine ⟨fun x hx => ?_, by unfold cdeal; rw [List.sum_append]; simp; have := h.2; omega⟩
  rcases List.mem_append.mp hx with hx | hx
  · exact h2 x hx
  · rw [List.mem_singleton] at hx; omega
theorem Comp.next {r : List Nat} {n : Nat} (h : Comp r n) (hn : 1 ≤ n) : Comp (nextP r) n := (h.deal hn).row
theorem mem_cuts : ∀ (k : Nat) {c : List Nat}, Comp c (k + 1) → c ∈ cuts k
  | 0, [], h => by have := h.2; simp at this
  | 0, x :: c, h => by
    obtain ⟨h1, h2, h3⟩ := h.tail
    have hx : x = 1 := by omega
    subst hx
    cases c with
    | nil => exact .head _
    | cons y c => have := h1.tail.2; omega
  | k + 1, [], h => by have := h.2; simp at this
  | k + 1, x :: c, h => by
    obtain ⟨h1, h2, h3⟩ := h.tail
    unfold cuts
    by_cases hx : x = 1
    · subst hx
      exact List.mem_append_left _ (List.mem_map.mpr ⟨c, mem_cuts k h1, rfl⟩)
    · refine List.mem_append_right _ (List.mem_map.mpr ⟨(x - 1) :: c, mem_cuts k ⟨fun y hy => ?_, ?_⟩, ?_⟩)
      · rcases List.mem_cons.mp hy with rfl | hy
        · omega
        · exact h.1 y (.tail _ hy)
      · have := h.2; rw [List.sum_cons] at this ⊢; omega
      · show (x - 1 + 1) :: c = x :: c
        congr 1; omega
theorem set_last : ∀ {ps : List Nat} {n : Nat}, 1 ≤ ps.length → Comp ps n → Comp (ps.set (ps.length - 1) (ps.getD (ps.length - 1) 0 + 1)) (n + 1)
  | [], _, h, _ => by cases h
  | [a], n, _, h => by
    have h1 := h.1 a (.head _)
    have h2 := h.2
    refine ⟨fun x hx => ?_, ?_⟩
    · simp at hx; omega
    · simp at h2 ⊢; omega
  | a :: b :: t, n, _, h => by
    obtain ⟨h1, h2, h3⟩ := h.tail
    have ih := set_last (ps := b :: t) (by simp) h1
    have e : (a :: b :: t).set ((a :: b :: t).length - 1) ((a :: b :: t).getD ((a :: b :: t).length - 1) 0 + 1) = a :: (b :: t).set ((b :: t).length - 1) ((b :: t).getD ((b :: t).length - 1) 0 + 1) := by
      simp [List.getD_eq_getElem?_getD]
    rw [e]
    refine ⟨fun x hx => ?_, ?_⟩
    · rcases List.mem_cons.mp hx with rfl | hx
      · exact h2
      · exact ih.1 x hx
    · rw [List.sum_cons, ih.2]; omega
theorem piles_comp (number : Int) : ∀ k, Comp (pilesTo number k) (k + 1)
  | 0 => ⟨fun x hx => by simp [pilesTo] at hx; omega, rfl⟩
  | k + 1 => by
    have h := piles_comp number k
    have hl := (pilesTo_len number k).1
    unfold pilesTo pstep
    cases bitAt number k with
    | true =>
      refine ⟨fun x hx => ?_, by rw [if_pos rfl, List.sum_append, h.2]; rfl⟩
      rcases List.mem_append.mp hx with hx | hx
      · exact h.1 x hx
      · rw [List.mem_singleton] at hx; omega
    | false => exact set_last hl h
theorem cFin_comp (st : Nat) {n : Nat} (hn : 1 ≤ n) : ∀ (f : Nat) {c : List Nat}, Comp c n → Comp (cFin st f c) n
  | 0, _, h => h
  | f + 1, c, h => by
    unfold cFin
    cases (moreN (rowN c) st).isEmpty with
    | true => exact cFin_comp st hn f (h.deal hn)
    | false => exact h
theorem srtB_of : ∀ {r : List Nat}, r.Pairwise (· ≤ ·) → srtB r = true
  | [], _ => rfl
  | [x], _ => rfl
  | x :: y :: l, h => by
    obtain ⟨h1, h2⟩ := List.pairwise_cons.mp h
    unfold srtB
    rw [srtB_of h2]
    simp [h1 y (.head _)]
theorem mem_words : ∀ (k n : Nat) {a : List Nat}, a ∈ words k n → a.length = k ∧ ∀ c ∈ a, c < 200
  | 0, n, a, h => by
    unfold words at h
    cases hb : Nat.beq n 0 with
    | true => rw [hb] at h; simp at h; subst h; exact ⟨rfl, fun c hc => by cases hc⟩
    | false => rw [hb] at h; simp at h
  | k + 1, n, a, h => by
    unfold words at h
    rcases List.mem_append.mp h with h | h
    · obtain ⟨b, hb, rfl⟩ := List.mem_map.mp h
      obtain ⟨h1, h2⟩ := mem_words k n hb
      refine ⟨by simp [h1], fun c hc => ?_⟩
      rcases List.mem_cons.mp hc with rfl | hc
      · omega
      · exact h2 c hc
    · cases n with
      | zero => cases h
      | succ n =>
        obtain ⟨b, hb, rfl⟩ := List.mem_map.mp h
        obtain ⟨h1, h2⟩ := mem_words k n hb
        refine ⟨by simp [h1], fun c hc => ?_⟩
        rcases List.mem_cons.mp hc with rfl | hc
        · omega
        · exact h2 c hc

/- what was counted out, of all cuts of T counters -/
structure Facts (T : Nat) : Prop where
  line : ∀ c, Comp c T → chkC (stepsOf T) c = true
  part : ∀ r, Comp r T → r.Pairwise (· ≤ ·) → chkP T (stepsOf T) r = true
  ell : ∀ a ∈ wl T, ellB (dots ++ a ++ dots) = true ∧ ∀ b ∈ wl T, tells a b = Nat.beq (canon a) (canon b)
theorem Facts.of {k : Nat} (h1 : ((cuts k).all fun c => chkC (stepsOf (k + 1)) c) = true) (h2 : ((cuts k).all fun c => !srtB c || chkP (k + 1) (stepsOf (k + 1)) c) = true)
    (h3 : ((wl (k + 1)).all fun a => ellB (dots ++ a ++ dots) && (wl (k + 1)).all fun b => tells a b == Nat.beq (canon a) (canon b)) = true) : Facts (k + 1) := by
  refine ⟨fun c hc => List.all_eq_true.mp h1 c (mem_cuts k hc), fun r hr hs => ?_, fun a ha => ?_⟩
  · have := List.all_eq_true.mp h2 r (mem_cuts k hr)
    rw [srtB_of hs] at this
    simpa using this
  · obtain ⟨g1, g2⟩ := Bool.and_eq_true_iff.mp (List.all_eq_true.mp h3 a ha)
    exact ⟨g1, fun b hb => eq_of_beq (List.all_eq_true.mp g2 b hb)⟩
theorem facts {T : Nat} (h1 : 4 ≤ T) (h2 : T ≤ 10) : Facts T := by
  have : T = 4 ∨ T = 5 ∨ T = 6 ∨ T = 7 ∨ T = 8 ∨ T = 9 ∨ T = 10 := by omega
  rcases this with rfl | rfl | rfl | rfl | rfl | rfl | rfl
  · exact .of (k := 3) dc4 dp4 dw4
  · exact .of (k := 4) dc5 dp5 dw5
  · exact .of (k := 5) dc6 dp6 dw6
  · exact .of (k := 6) dc7 dp7 dw7
  · exact .of (k := 7) dc8 dp8 dw8
  · exact .of (k := 8) dc9 dp9 dw9
  · exact .of (k := 9) dc10 dp10 dw10
theorem ell_of {want : List Nat} (h : ellB want = true) : EllOk want := by
  unfold ellB at h
  simp only [Bool.and_eq_true] at h
  obtain ⟨⟨⟨⟨⟨⟨a1, a2⟩, a3⟩, a4⟩, a5⟩, a6⟩, a7⟩ := h
  exact ⟨a1, by rw [Bool.not_eq_true'] at a2; exact a2, by rw [Bool.not_eq_true'] at a3; exact a3, of_decide_eq_true a4, of_decide_eq_true a5, of_decide_eq_true a6, fun w hw => of_decide_eq_true (List.all_eq_true.mp a7 w hw)⟩
end Mine

/- part -/
namespace Mine

/- each row is the one behind it, dealt once -/
noncomputable def Chain : List (List Nat) → Prop
  | [] => True
  | r :: l => (match l with | [] => True | s :: _ => s = nextP r) ∧ Chain l
theorem Chain.at {l : List (List Nat)} (h : Chain l) : ∀ k, k + 1 < l.length → l.getD (k + 1) [] = nextP (l.getD k []) := by
  induction l with
  | nil => intro k hk; simp at hk
  | cons r l ih =>
    intro k hk
    cases l with
    | nil => simp at hk
    | cons s l =>
      cases k with
      | zero => exact h.1
      | succ k => exact ih h.2 k (by simpa using hk)
theorem pTail_head : ∀ (f : Nat) (r : List Nat), ∃ l, pTail f r = r :: l
  | 0, r => ⟨[], rfl⟩
  | f + 1, r => ⟨_, rfl⟩
theorem pTail_chain : ∀ (f : Nat) (r : List Nat), Chain (pTail f r)
  | 0, r => ⟨trivial, trivial⟩
  | f + 1, r => by
    obtain ⟨l, e⟩ := pTail_head f (nextP r)
    have := pTail_chain f (nextP r)
    unfold pTail
    rw [e] at this ⊢
    exact ⟨rfl, this⟩
theorem pRows_head (st : Nat) : ∀ (f : Nat) (r : List Nat), ∃ l, pRows st f r = r :: l
  | 0, r => pTail_head st r
  | f + 1, r => by
    unfold pRows
    cases (moreN r st).isEmpty with
    | true => exact ⟨_, rfl⟩
    | false => exact pTail_head st r
theorem pRows_chain (st : Nat) : ∀ (f : Nat) (r : List Nat), Chain (pRows st f r)
  | 0, r => pTail_chain st r
  | f + 1, r => by
    unfold pRows
    cases (moreN r st).isEmpty with
    | true =>
      obtain ⟨l, e⟩ := pRows_head st f (nextP r)
      have := pRows_chain st f (nextP r)
      rw [cond_true]
      rw [e] at this ⊢
      exact ⟨rfl, this⟩
    | false => exact pTail_chain st r
/- what holds of the first row and goes on, holds of all -/
theorem Chain.all {P : List Nat → Prop} (hP : ∀ r, P r → P (nextP r)) : ∀ {l : List (List Nat)}, Chain l → ∀ {r : List Nat} {l' : List (List Nat)}, l = r :: l' → P r → ∀ x ∈ l, P x
  | [], _, _, _, e, _, x, hx => by cases hx
  | r0 :: l, h, r, l', e, hr, x, hx => by
    injection e with e1 e2
    subst e1
    rcases List.mem_cons.mp hx with rfl | hx
    · exact hr
    · cases l with
      | nil => cases hx
      | cons s l => exact Chain.all hP h.2 rfl (h.1 ▸ hP _ hr) x hx
theorem cRows_len : ∀ (f : Nat) (c : List Nat), (cRows f c).length = f + 1
  | 0, _ => rfl
  | f + 1, c => by unfold cRows; rw [List.length_cons, cRows_len f]
theorem cRows_last : ∀ (f : Nat) (c : List Nat), (cRows f c).getD f [] = rowN (cIt f c)
  | 0, _ => rfl
  | f + 1, c => by unfold cRows cIt; rw [List.getD_cons_succ]; exact cRows_last f _
theorem cRows_head : ∀ (f : Nat) (c : List Nat), (cRows f c).getD 0 [] = rowN c
  | 0, _ => rfl
  | f + 1, c => rfl
theorem cPre_len (st : Nat) : ∀ (f : Nat) (c : List Nat), (cPre st f c).length ≤ f
  | 0, _ => Nat.le_refl _
  | f + 1, c => by
    unfold cPre
    cases (moreN (rowN c) st).isEmpty with
    | true => have := cPre_len st f (cdeal c); rw [cond_true, List.length_cons]; omega
    | false => exact Nat.zero_le _
theorem zs_getD (rows : List (List Nat)) (k : Nat) : (rows.map zs).getD k [] = zs (rows.getD k []) := by
  rw [List.getD_eq_getElem?_getD, List.getD_eq_getElem?_getD, List.getElem?_map]
  cases rows[k]? <;> rfl
theorem zs_inj {a b : List Nat} (h : zs a = zs b) : a = b := by
  have := congrArg (List.map Int.toNat) h
  simpa [zs, List.map_map, Function.comp_def] using this
theorem cless_zs (r : List Nat) : ((zs r).filter fun z => decide (z > 1)).map (fun z => z - 1) = zs (cless r) := by
  induction r with
  | nil => rfl
  | cons x r ih =>
    unfold cless
    simp only [zs, List.map_cons, List.filter_cons] at ih ⊢
    cases hb : Nat.ble 2 x with
    | true =>
      have h2 := Nat.le_of_ble_eq_true hb
      have h3 : decide (Int.ofNat x > 1) = true := by simp; omega
      rw [h3]
      simp only [if_true, List.map_cons, cond_true, ih]
      congr 1
      show (x : Int) - 1 = ((x - 1 : Nat) : Int)
      omega
    | false =>
      have h2 : ¬ 2 ≤ x := fun q => by rw [Nat.ble_eq_true_of_le q] at hb; cases hb
      have h3 : decide (Int.ofNat x > 1) = false := by simp; omega
      rw [h3]
      simpa using ih

theorem run_of {T : Nat} (h1 : 4 ≤ T) (h2 : T ≤ 10) {c : List Nat} (hc : Comp c T) :
    Run c (stepsOf T) ((rowsC (stepsOf T) c).map zs) (word (stepsOf T) (rowN c)) ∧ word (stepsOf T) (rowN c) ∈ wl T := by
  have F := facts h1 h2
  have hst : stepsOf T = 3 ∨ stepsOf T = 4 := by unfold stepsOf; split <;> simp
  generalize hs : stepsOf T = st at hst
  have hT : 1 ≤ T := by omega
  have hP := F.part _ hc.row (rowN_sorted c)
  rw [hs] at hP
  unfold chkP at hP
  simp only [Bool.and_eq_true] at hP
  obtain ⟨⟨⟨g1, g2⟩, g3⟩, g4⟩ := hP
  replace g1 := List.contains_iff_mem.mp g1
  replace g4 := of_decide_eq_true g4
  have hw := mem_words _ _ g1
  rw [hs] at hw
  have hpf := pFin_rowN st 42 c
  have hfin := cFin_comp st hT 42 hc
  have hwd : word st (rowN c) = moreN (rowN (cFin st 42 c)) st := by unfold word; rw [hpf]
  rw [hpf, pTail_rowN] at g4
  generalize word st (rowN c) = w at g1 g4 hw hwd
  have hline := F.line _ hfin
  rw [hs] at hline
  unfold chkC at hline
  rw [← hwd] at hline
  have hne : w.isEmpty = false := by cases w with | nil => have := hw.1; simp at this; omega | cons => rfl
  rw [hne, Bool.false_or] at hline
  have hl := eq_of_beq hline
  have hpre := cPre_len st 42 c
  have hcl := cRows_len st (cFin st 42 c)
  have hlen : (rowsC st c).length = (cPre st 42 c).length + (st + 1) := by unfold rowsC; rw [List.length_append, hcl]
  have hm : (rowsC st c).length - 1 - st = (cPre st 42 c).length := by omega
  have hcomp : ∀ r ∈ rowsC st c, Comp r T := by
    rw [rowsC_eq]
    obtain ⟨l, e⟩ := pRows_head st 42 (rowN c)
    exact (pRows_chain st 42 (rowN c)).all (fun r hr => hr.next hT) e hc.row
  have hgm : (rowsC st c).getD (cPre st 42 c).length [] = rowN (cFin st 42 c) := by
    unfold rowsC
    rw [List.getD_eq_getElem?_getD, List.getElem?_append_right (Nat.le_refl _), Nat.sub_self, ← List.getD_eq_getElem?_getD, cRows_head]
  have pok : PileOk c := ⟨hc.ne hT, by have := hc.len.1; omega, fun y hy => ⟨hc.1 y hy, by have := hc.len.2 y hy; omega⟩⟩
  refine ⟨⟨pok, ⟨zs (cIt st (cFin st 42 c)), rowsAll_zs pok (by omega), ?_⟩, by rw [List.length_map]; omega, by rw [List.length_map]; omega, fun row hr => ?_, ?_, fun k k1 k2 => ?_, hw.1, ?_, ?_, fun x hx => hw.2 x hx⟩, g1⟩
  · rw [List.length_map, zs_getD]
    congr 1
    rw [hl]
    have : (rowsC st c).length - 1 = (cPre st 42 c).length + st := by omega
    rw [this]
    unfold rowsC
    rw [List.getD_eq_getElem?_getD, List.getElem?_append_right (by omega), Nat.add_sub_cancel_left, ← List.getD_eq_getElem?_getD, cRows_last]
  · obtain ⟨r, hr2, rfl⟩ := List.mem_map.mp hr
    rw [List.length_map]
    have := hcomp r hr2
    exact ⟨this.ne hT, by have := this.len.1; omega⟩
  · rw [zs_getD, srtI_zs]
    congr 1
    rw [rowsC_eq]
    obtain ⟨l, e⟩ := pRows_head st 42 (rowN c)
    rw [e]; rfl
  · rw [List.length_map] at k2
    obtain ⟨k, rfl⟩ : ∃ j, k = j + 1 := ⟨k - 1, by omega⟩
    rw [Nat.add_sub_cancel, zs_getD, zs_getD, cless_zs, List.length_map]
    have e : zs (cless ((rowsC st c).getD k [])) ++ [(((rowsC st c).getD k []).length : Int)] = zs (cdeal ((rowsC st c).getD k [])) := by simp [cdeal, zs]
    rw [e, srtI_zs]
    congr 1
    rw [rowsC_eq] at k2 ⊢
    exact (pRows_chain st 42 (rowN c)).at k (by omega)
  · rw [List.length_map, hm, zs_getD, hgm, more_zs, ← hwd]
    have := hw.1
    rw [List.take_append_of_le_length (by omega), List.take_of_length_le (by omega)]
  · rw [List.length_map, hm, ← List.map_drop, List.map_map]
    have hd : (rowsC st c).drop (cPre st 42 c).length = cRows st (cFin st 42 c) := by unfold rowsC; rw [List.drop_left]
    rw [hd]
    rw [← g4]
    exact List.map_congr_left fun r _ => more_zs r st

theorem meets_zs (a b : List (List Nat)) : meets (a.map zs) (b.map zs) = a.any fun r => b.contains r := by
  unfold meets
  rw [List.any_map]
  congr 1
  funext r
  rw [Function.comp, Bool.eq_iff_iff, List.contains_iff_mem, List.contains_iff_mem, List.mem_map]
  exact ⟨fun ⟨x, hx, e⟩ => zs_inj e ▸ hx, fun h => ⟨r, h, rfl⟩⟩
theorem class_row {T : Nat} (h1 : 4 ≤ T) (h2 : T ≤ 10) {c : List Nat} (hc : Comp c T) : ∀ r ∈ rowsC (stepsOf T) c, (Comp r T ∧ r.Pairwise (· ≤ ·)) ∧ canon (word (stepsOf T) r) = canon (word (stepsOf T) (rowN c)) := by
  have F := facts h1 h2
  rw [rowsC_eq]
  obtain ⟨l, e⟩ := pRows_head (stepsOf T) 42 (rowN c)
  refine (pRows_chain (stepsOf T) 42 (rowN c)).all (P := fun r => (Comp r T ∧ r.Pairwise (· ≤ ·)) ∧ canon (word (stepsOf T) r) = canon (word (stepsOf T) (rowN c))) (fun r hr => ?_) e ⟨⟨hc.row, rowN_sorted c⟩, rfl⟩
  obtain ⟨⟨x1, x2⟩, x3⟩ := hr
  refine ⟨⟨x1.next (by omega), rowN_sorted _⟩, ?_⟩
  rw [← x3]
  have hP := F.part r x1 x2
  unfold chkP at hP
  simp only [Bool.and_eq_true] at hP
  exact (Nat.eq_of_beq_eq_true hP.1.1.2).symm
theorem meets_eq {T : Nat} (h1 : 4 ≤ T) (h2 : T ≤ 10) {c c' : List Nat} (hc : Comp c T) (hc' : Comp c' T) :
    meets ((rowsC (stepsOf T) c).map zs) ((rowsC (stepsOf T) c').map zs) = Nat.beq (canon (word (stepsOf T) (rowN c))) (canon (word (stepsOf T) (rowN c'))) := by
  have F := facts h1 h2
  rw [meets_zs, Bool.eq_iff_iff, List.any_eq_true]
  have inn : ∀ {d : List Nat}, Comp d T → rowAt 0 (bitsOf (stepsOf T) (canon (word (stepsOf T) (rowN d)))) ∈ rowsC (stepsOf T) d := fun {d} hd => by
    have hP := F.part _ hd.row (rowN_sorted d)
    unfold chkP at hP
    simp only [Bool.and_eq_true] at hP
    rw [rowsC_eq]
    exact List.contains_iff_mem.mp hP.1.2
  constructor
  · rintro ⟨r, hr, hr'⟩
    have a := (class_row h1 h2 hc r hr).2
    have b := (class_row h1 h2 hc' r (List.contains_iff_mem.mp hr')).2
    rw [← a, ← b]; exact Nat.beq_refl _
  · intro h
    have e := Nat.eq_of_beq_eq_true h
    exact ⟨_, inn hc, List.contains_iff_mem.mpr (by rw [e]; exact inn hc')⟩
theorem plain02 (ns : List Int) : ∃ R1 R2 l1 l2, Run (pilesTo (sum1 ns) (totalOf ns - 1)) (stepsOf (totalOf ns)) R1 l1 ∧ Run (pilesTo (sum2 ns) (totalOf ns - 1)) (stepsOf (totalOf ns)) R2 l2 ∧ EllOk (dots ++ l1 ++ dots) ∧ tells l1 l2 = meets R1 R2 := by
  obtain ⟨_, T4, T10⟩ := totalOf_eq ns
  generalize totalOf ns = T at T4 T10
  have c1 : Comp (pilesTo (sum1 ns) (T - 1)) T := by have := piles_comp (sum1 ns) (T - 1); rwa [show T - 1 + 1 = T by omega] at this
  have c2 : Comp (pilesTo (sum2 ns) (T - 1)) T := by have := piles_comp (sum2 ns) (T - 1); rwa [show T - 1 + 1 = T by omega] at this
  obtain ⟨r1, w1⟩ := run_of T4 T10 c1
  obtain ⟨r2, w2⟩ := run_of T4 T10 c2
  have e := (facts T4 T10).ell _ w1
  exact ⟨_, _, _, _, r1, r2, ell_of e.1, by rw [e.2 _ w2, meets_eq T4 T10 c1 c2]⟩
end Mine

/- part -/
namespace Mine
theorem ref_inj {a b : Nat} (h : some (Value.ref a) = some (Value.ref b)) : a = b := by cases h; rfl
theorem whole02 {p : Params} (B : Bs (K02 p)) (ns : List Int) (hn : ns.length ≤ 63) (C : CodeHd B.h₀ 94 90) : XC B.W 8 (.fn 134) [.loc 0] [] [.ro (intsOf ns), .tab 90 []] fun v H' => v = .bool true ∧ ∃ es, H'[1]? = some (.tab 90 es) := by
  obtain ⟨R1, R2, l1, l2, r1, r2, el, hm⟩ := plain02 ns
  refine XC.mono (law_spec (d := 1) (i := 0) (t := 1) C ⟨[], rfl, fun a b s q j _ h => by cases h⟩ rfl hn r1 r2 el hm) fun v H' h => ⟨h.1, ?_⟩
  obtain ⟨es, h, _⟩ := h.2
  exact ⟨es, h⟩
end Mine
theorem PySem.Challenge.cw_ty0021_02_holds : PySem.Challenge.rw_ty0021_02.Holds := by
  w_on
  refine holds_law Mine.said02 fun said => ?_
  refine holds_open (q := Mine.view02) (loose := Mine.loose02) (Xt := fun s => xlAt Mine.view02 [] s && recOk (RowW.records PySem.Challenge.rw_ty0021_02.row.toRowW) s) (XP := XL Mine.view02 []) (Yf := Hook.obs Mine.hk02) (Ya := Hook.val Mine.hk02) (YP := Hook.says (kmHook Mine.K02 Mine.as02 (fun _ => by kernel_rfl) [90])) (N := 1626) Mine.left02 (Hook.of Mine.hk02) (Hook.keeps Mine.hk02) (fun s e => xl_of s (Bool.and_eq_true_iff.mp e).1) XL.keeps (by rfl) (by rfl) (by rfl) (fun s e => recFacts_of (Bool.and_eq_true_iff.mp e).2) (by rfl) said (by decide +kernel) ⟨rfl, rfl, rfl, rfl, rfl, by decide +kernel⟩ ?hw ?hc
  case hw => w_witness2
  k_fill
  intro w s₀ s₁ mg mb G Y fa o pm cd doc dV kV ho hd hcd hD hmg hg args vals as hpre hlay hrd hwl hlo
  have KX := km_in_of Y
  km_tabs Y
  refine Ground.open G ?_
  intro T B D TE TW
  km_lay T hmg ho hd cd
  have hfa : mg "law" = some (.ref 134) := mg_of KX T.g (by kernel_rfl)
  have hfb : mg "law" = some (.ref fa) := hmg
  rw [hfa] at hfb
  have hfc : (134 : Nat) = fa := Mine.ref_inj hfb
  subst hfc
  clear hfb hmg hfa hd hcd hD ho G Y hT8 TE TW B D
  wrow_args hpre hlay hrd hwl hlo
  rename_i ns hs h1 h2 h3 h4 a1 a2 ls vs a3 hL ra w1 r0 hI hr hlen hc
  exact Mine.law_enter KX T hT9 (by kernel_rfl) hL hI hg (fun B e1 e2 C => Mine.whole02 B ns (by omega) C) (fun x => rfl) (by kc_post)

