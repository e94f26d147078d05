import PyProof.Rows.All
import Wide.All
import OpenK.AllK
import Wide.FinOn
import Lean
import PySem.Challenge.RW_pe0277_01
open PySem PySem.W PyProof.Rows
set_option Elab.async false
set_option maxRecDepth 100000
set_option compiler.extract_closed false
namespace Mine
section
/-- the part of the state behind the top that the walks read: written by a program out of the top's run; the defs' texts are taken out of the row's own term -/
noncomputable def KF : Params → Frag := fun P =>
  ((nat_lit 2), ({ cls := Value.none, data := Data.dict #[{ hash := PyData.keyHash P (Str.ofString "\x69mport.loaded._sre"), key := Value.str (Str.ofString "\x69mport.loaded._sre") 183, val := Value.bool true }, { hash := PyData.keyHash P (Str.ofString "class._frozen_\x69mportlib.BuiltinImporter"), key := Value.str (Str.ofString "class._frozen_\x69mportlib.BuiltinImporter") 185, val := Value.ref 14 }, { hash := PyData.keyHash P (Str.ofString "watched.\x69mport"), key := Value.str (Str.ofString "watched.\x69mport") 206, val := Value.ref 18 }, { hash := PyData.keyHash P (Str.ofString "class._frozen_\x69mportlib.ModuleSpec"), key := Value.str (Str.ofString "class._frozen_\x69mportlib.ModuleSpec") 216, val := Value.ref 22 }, { hash := PyData.keyHash P (Str.ofString "sys.modules.booked-epoch"), key := Value.str (Str.ofString "sys.modules.booked-epoch") 245, val := Value.int 3 0 }, { hash := PyData.keyHash P (Str.ofString "\x69mport.later-laid._sre"), key := Value.str (Str.ofString "\x69mport.later-laid._sre") 270, val := Value.bool true }, { hash := PyData.keyHash P (Str.ofString "watched.library"), key := Value.str (Str.ofString "watched.library") 272, val := Value.ref 27 }, { hash := PyData.keyHash P (Str.ofString "watched.library-objects"), key := Value.str (Str.ofString "watched.library-objects") 0, val := Value.str (Str.ofString "\x0c") 0 }, { hash := PyData.keyHash P (Str.ofString "watched.library-deep._sre"), key := Value.str (Str.ofString "watched.library-deep._sre") 273, val := Value.str (Str.ofString "\x04\x00\x00\x0b\x04\x00\x00\x0b\x04\x00\x00\x03\x04\x00\x00\x0b\x08\x04dict\x02") 0 }] 9 } : Obj)) ::
  ((nat_lit 3), ({ cls := Value.type "dict", data := Data.dict #[{ hash := PyData.keyHash P (Str.ofString "__name__"), key := Value.str (Str.ofString "__name__") 165, val := Value.str (Str.ofString "law_pe0277_01") 673 }, { hash := PyData.keyHash P (Str.ofString "__doc__"), key := Value.str (Str.ofString "__doc__") 166, val := Value.none }, { hash := PyData.keyHash P (Str.ofString "__package__"), key := Value.str (Str.ofString "__package__") 167, val := Value.none }, { hash := PyData.keyHash P (Str.ofString "__loader__"), key := Value.str (Str.ofString "__loader__") 168, val := Value.builtin "__main__.__loader__#opaque" }, { hash := PyData.keyHash P (Str.ofString "__spec__"), key := Value.str (Str.ofString "__spec__") 169, val := Value.none }, { hash := PyData.keyHash P (Str.ofString "__annotations__"), key := Value.str (Str.ofString "__annotations__") 170, val := Value.ref 6 }, { hash := PyData.keyHash P (Str.ofString "__builtins__"), key := Value.str (Str.ofString "__builtins__") 171, val := Value.ref 4 }, { hash := PyData.keyHash P (Str.ofString "__file__"), key := Value.str (Str.ofString "__file__") 173, val := Value.str (Str.ofString "/claim/cut.py") 172 }, { hash := PyData.keyHash P (Str.ofString "__cached__"), key := Value.str (Str.ofString "__cached__") 174, val := Value.none }, { hash := PyData.keyHash P (Str.ofString "_sre"), key := Value.str (Str.ofString "_sre") 275, val := Value.ref 12 }, { hash := PyData.keyHash P (Str.ofString "_wall"), key := Value.str (Str.ofString "_wall") 288, val := Value.ref 38 }, { hash := PyData.keyHash P (Str.ofString "_comment_line"), key := Value.str (Str.ofString "_comment_line") 297, val := Value.ref 45 }, { hash := PyData.keyHash P (Str.ofString "_strip_exception_details"), key := Value.str (Str.ofString "_strip_exception_details") 307, val := Value.ref 52 }, { hash := PyData.keyHash P (Str.ofString "Whitespace"), key := Value.str (Str.ofString "Whitespace") 409, val := Value.ref 114 }, { hash := PyData.keyHash P (Str.ofString "tspecials"), key := Value.str (Str.ofString "tspecials") 445, val := Value.ref 123 }, { hash := PyData.keyHash P (Str.ofString "_name_disallowed_re"), key := Value.str (Str.ofString "_name_disallowed_re") 471, val := Value.ref 128 }, { hash := PyData.keyHash P (Str.ofString "_value_disallowed_re"), key := Value.str (Str.ofString "_value_disallowed_re") 505, val := Value.ref 133 }, { hash := PyData.keyHash P (Str.ofString "_formatparam"), key := Value.str (Str.ofString "_formatparam") 515, val := Value.ref 141 }, { hash := PyData.keyHash P (Str.ofString "Headers"), key := Value.str (Str.ofString "Headers") 672, val := Value.ref 262 }, { hash := PyData.keyHash P (Str.ofString "_law_notes"), key := Value.str (Str.ofString "_law_notes") 687, val := Value.ref 273 }, { hash := PyData.keyHash P (Str.ofString "_law_bare"), key := Value.str (Str.ofString "_law_bare") 696, val := Value.ref 280 }, { hash := PyData.keyHash P (Str.ofString "_law_columns"), key := Value.str (Str.ofString "_law_columns") 707, val := Value.ref 287 }, { hash := PyData.keyHash P (Str.ofString "_law_above"), key := Value.str (Str.ofString "_law_above") 713, val := Value.ref 292 }, { hash := PyData.keyHash P (Str.ofString "_law_least"), key := Value.str (Str.ofString "_law_least") 719, val := Value.ref 297 }, { hash := PyData.keyHash P (Str.ofString "_law_lay"), key := Value.str (Str.ofString "_law_lay") 725, val := Value.ref 302 }, { hash := PyData.keyHash P (Str.ofString "_law_left"), key := Value.str (Str.ofString "_law_left") 731, val := Value.ref 307 }, { hash := PyData.keyHash P (Str.ofString "law"), key := Value.str (Str.ofString "law") 737, val := Value.ref 312 }] 27 } : Obj)) ::
  ((nat_lit 44), ({ cls := Value.type "code", data := Data.fields #[Value.str (Str.ofString "_comment_line") 291, Value.str (Str.ofString "_comment_line") 292, Value.str (Str.ofString "/claim/cut.py") 293, Value.int 6 0, Value.int 1 0, Value.int 0 0, Value.int 0 0, Value.int 3 0, Value.ref 39, Value.bool true, Value.int 276 0, Value.ref 40, Value.none, Value.ref 41, Value.ref 42, Value.ref 43, Value.int 295 0, Value.int 6 0, Value.str (Str.ofString "/claim/cut.py") 296] } : Obj)) ::
  ((nat_lit 45), ((fun (nm : Str) (ag : Arguments) (bd : List Stmt) (dl : List Expr) (rt : Option Expr) (tp : List TypeParam) (sc : Scope) (ts : Option Scope) (bi : Str) (ps : Pos) (_ : PySem.Challenge.pw_pe0277_01.main.body[3]? = some (Stmt.FunctionDef nm ag bd dl rt tp sc ts bi ps)) => ({ cls := .type "function", data := .func { name := (Str.ofString "_comment_line"), qualname := (Str.ofString "_comment_line"), params := ag, body := .stmts bd, scope := sc, globals := 3, closure := [], defaults := Value.none, kwdefaults := Value.none, doc := Value.none, pyModule := Value.str (Str.ofString "cpy313.doctest") 289, annotations := none, code := Value.ref 44, closureTuple := Value.none, builtins := 0 } } : Obj)) _ _ _ _ _ _ _ _ _ _ rfl : Obj)) ::
  ((nat_lit 51), ({ cls := Value.type "code", data := Data.fields #[Value.str (Str.ofString "_strip_exception_details") 298, Value.str (Str.ofString "_strip_exception_details") 299, Value.str (Str.ofString "/claim/cut.py") 300, Value.int 12 0, Value.int 1 0, Value.int 0 0, Value.int 0 0, Value.int 3 0, Value.ref 46, Value.bool true, Value.int 276 0, Value.ref 47, Value.none, Value.ref 48, Value.ref 49, Value.ref 50, Value.int 305 0, Value.int 12 0, Value.str (Str.ofString "/claim/cut.py") 306] } : Obj)) ::
  ((nat_lit 52), ((fun (nm : Str) (ag : Arguments) (bd : List Stmt) (dl : List Expr) (rt : Option Expr) (tp : List TypeParam) (sc : Scope) (ts : Option Scope) (bi : Str) (ps : Pos) (_ : PySem.Challenge.pw_pe0277_01.main.body[4]? = some (Stmt.FunctionDef nm ag bd dl rt tp sc ts bi ps)) => ({ cls := .type "function", data := .func { name := (Str.ofString "_strip_exception_details"), qualname := (Str.ofString "_strip_exception_details"), params := ag, body := .stmts bd, scope := sc, globals := 3, closure := [], defaults := Value.none, kwdefaults := Value.none, doc := Value.none, pyModule := Value.str (Str.ofString "cpy313.doctest") 289, annotations := none, code := Value.ref 51, closureTuple := Value.none, builtins := 0 } } : Obj)) _ _ _ _ _ _ _ _ _ _ rfl : Obj)) ::
  ((nat_lit 68), ({ cls := Value.type "code", data := Data.fields #[Value.str (Str.ofString "__init__") 327, Value.str (Str.ofString "Whitespace.__init__") 328, Value.str (Str.ofString "/claim/cut.py") 329, Value.int 28 0, Value.int 2 0, Value.int 0 0, Value.int 0 0, Value.int 3 0, Value.ref 63, Value.bool true, Value.int 276 0, Value.ref 64, Value.none, Value.ref 65, Value.ref 66, Value.ref 67, Value.int 339 0, Value.int 28 0, Value.str (Str.ofString "/claim/cut.py") 340] } : Obj)) ::
  ((nat_lit 69), ((fun (cn : Str) (cbs : List Expr) (ck : List Keyword) (cb : List Stmt) (cd : List Expr) (ct : List TypeParam) (cs : Scope) (cts : Option Scope) (cbi : Str) (csa : List Str) (cps : Pos) (_ : PySem.Challenge.pw_pe0277_01.main.body[6]? = some (Stmt.ClassDef cn cbs ck cb cd ct cs cts cbi csa cps)) (nm : Str) (ag : Arguments) (bd : List Stmt) (dl : List Expr) (rt : Option Expr) (tp : List TypeParam) (sc : Scope) (ts : Option Scope) (bi : Str) (ps : Pos) (_ : cb[1]? = some (Stmt.FunctionDef nm ag bd dl rt tp sc ts bi ps)) => ({ cls := .type "function", data := .func { name := (Str.ofString "__init__"), qualname := (Str.ofString "Whitespace.__init__"), params := ag, body := .stmts bd, scope := sc, globals := 3, closure := [], defaults := Value.none, kwdefaults := Value.none, doc := Value.none, pyModule := Value.str (Str.ofString "cpy313.tabnanny") 308, annotations := none, code := Value.ref 68, closureTuple := Value.none, builtins := 0 } } : Obj)) _ _ _ _ _ _ _ _ _ _ _ rfl _ _ _ _ _ _ _ _ _ _ rfl : Obj)) ::
  ((nat_lit 75), ({ cls := Value.type "code", data := Data.fields #[Value.str (Str.ofString "longest_run_of_spaces") 342, Value.str (Str.ofString "Whitespace.longest_run_of_spaces") 343, Value.str (Str.ofString "/claim/cut.py") 344, Value.int 51 0, Value.int 1 0, Value.int 0 0, Value.int 0 0, Value.int 3 0, Value.ref 70, Value.bool true, Value.int 276 0, Value.ref 71, Value.none, Value.ref 72, Value.ref 73, Value.ref 74, Value.int 348 0, Value.int 51 0, Value.str (Str.ofString "/claim/cut.py") 349] } : Obj)) ::
  ((nat_lit 76), ((fun (cn : Str) (cbs : List Expr) (ck : List Keyword) (cb : List Stmt) (cd : List Expr) (ct : List TypeParam) (cs : Scope) (cts : Option Scope) (cbi : Str) (csa : List Str) (cps : Pos) (_ : PySem.Challenge.pw_pe0277_01.main.body[6]? = some (Stmt.ClassDef cn cbs ck cb cd ct cs cts cbi csa cps)) (nm : Str) (ag : Arguments) (bd : List Stmt) (dl : List Expr) (rt : Option Expr) (tp : List TypeParam) (sc : Scope) (ts : Option Scope) (bi : Str) (ps : Pos) (_ : cb[2]? = some (Stmt.FunctionDef nm ag bd dl rt tp sc ts bi ps)) => ({ cls := .type "function", data := .func { name := (Str.ofString "longest_run_of_spaces"), qualname := (Str.ofString "Whitespace.longest_run_of_spaces"), params := ag, body := .stmts bd, scope := sc, globals := 3, closure := [], defaults := Value.none, kwdefaults := Value.none, doc := Value.none, pyModule := Value.str (Str.ofString "cpy313.tabnanny") 308, annotations := none, code := Value.ref 75, closureTuple := Value.none, builtins := 0 } } : Obj)) _ _ _ _ _ _ _ _ _ _ _ rfl _ _ _ _ _ _ _ _ _ _ rfl : Obj)) ::
  ((nat_lit 82), ({ cls := Value.type "code", data := Data.fields #[Value.str (Str.ofString "indent_level") 351, Value.str (Str.ofString "Whitespace.indent_level") 352, Value.str (Str.ofString "/claim/cut.py") 353, Value.int 55 0, Value.int 2 0, Value.int 0 0, Value.int 0 0, Value.int 3 0, Value.ref 77, Value.bool true, Value.int 276 0, Value.ref 78, Value.none, Value.ref 79, Value.ref 80, Value.ref 81, Value.int 360 0, Value.int 55 0, Value.str (Str.ofString "/claim/cut.py") 361] } : Obj)) ::
  ((nat_lit 83), ((fun (cn : Str) (cbs : List Expr) (ck : List Keyword) (cb : List Stmt) (cd : List Expr) (ct : List TypeParam) (cs : Scope) (cts : Option Scope) (cbi : Str) (csa : List Str) (cps : Pos) (_ : PySem.Challenge.pw_pe0277_01.main.body[6]? = some (Stmt.ClassDef cn cbs ck cb cd ct cs cts cbi csa cps)) (nm : Str) (ag : Arguments) (bd : List Stmt) (dl : List Expr) (rt : Option Expr) (tp : List TypeParam) (sc : Scope) (ts : Option Scope) (bi : Str) (ps : Pos) (_ : cb[3]? = some (Stmt.FunctionDef nm ag bd dl rt tp sc ts bi ps)) => ({ cls := .type "function", data := .func { name := (Str.ofString "indent_level"), qualname := (Str.ofString "Whitespace.indent_level"), params := ag, body := .stmts bd, scope := sc, globals := 3, closure := [], defaults := Value.none, kwdefaults := Value.none, doc := Value.none, pyModule := Value.str (Str.ofString "cpy313.tabnanny") 308, annotations := none, code := Value.ref 82, closureTuple := Value.none, builtins := 0 } } : Obj)) _ _ _ _ _ _ _ _ _ _ _ rfl _ _ _ _ _ _ _ _ _ _ rfl : Obj)) ::
  ((nat_lit 89), ({ cls := Value.type "code", data := Data.fields #[Value.str (Str.ofString "equal") 363, Value.str (Str.ofString "Whitespace.equal") 364, Value.str (Str.ofString "/claim/cut.py") 365, Value.int 62 0, Value.int 2 0, Value.int 0 0, Value.int 0 0, Value.int 3 0, Value.ref 84, Value.bool true, Value.int 276 0, Value.ref 85, Value.none, Value.ref 86, Value.ref 87, Value.ref 88, Value.int 368 0, Value.int 62 0, Value.str (Str.ofString "/claim/cut.py") 369] } : Obj)) ::
  ((nat_lit 90), ((fun (cn : Str) (cbs : List Expr) (ck : List Keyword) (cb : List Stmt) (cd : List Expr) (ct : List TypeParam) (cs : Scope) (cts : Option Scope) (cbi : Str) (csa : List Str) (cps : Pos) (_ : PySem.Challenge.pw_pe0277_01.main.body[6]? = some (Stmt.ClassDef cn cbs ck cb cd ct cs cts cbi csa cps)) (nm : Str) (ag : Arguments) (bd : List Stmt) (dl : List Expr) (rt : Option Expr) (tp : List TypeParam) (sc : Scope) (ts : Option Scope) (bi : Str) (ps : Pos) (_ : cb[4]? = some (Stmt.FunctionDef nm ag bd dl rt tp sc ts bi ps)) => ({ cls := .type "function", data := .func { name := (Str.ofString "equal"), qualname := (Str.ofString "Whitespace.equal"), params := ag, body := .stmts bd, scope := sc, globals := 3, closure := [], defaults := Value.none, kwdefaults := Value.none, doc := Value.none, pyModule := Value.str (Str.ofString "cpy313.tabnanny") 308, annotations := none, code := Value.ref 89, closureTuple := Value.none, builtins := 0 } } : Obj)) _ _ _ _ _ _ _ _ _ _ _ rfl _ _ _ _ _ _ _ _ _ _ rfl : Obj)) ::
  ((nat_lit 103), ({ cls := Value.type "code", data := Data.fields #[Value.str (Str.ofString "less") 379, Value.str (Str.ofString "Whitespace.less") 380, Value.str (Str.ofString "/claim/cut.py") 381, Value.int 68 0, Value.int 2 0, Value.int 0 0, Value.int 0 0, Value.int 3 0, Value.ref 98, Value.bool true, Value.int 276 0, Value.ref 99, Value.none, Value.ref 100, Value.ref 101, Value.ref 102, Value.int 386 0, Value.int 68 0, Value.str (Str.ofString "/claim/cut.py") 387] } : Obj)) ::
  ((nat_lit 104), ((fun (cn : Str) (cbs : List Expr) (ck : List Keyword) (cb : List Stmt) (cd : List Expr) (ct : List TypeParam) (cs : Scope) (cts : Option Scope) (cbi : Str) (csa : List Str) (cps : Pos) (_ : PySem.Challenge.pw_pe0277_01.main.body[6]? = some (Stmt.ClassDef cn cbs ck cb cd ct cs cts cbi csa cps)) (nm : Str) (ag : Arguments) (bd : List Stmt) (dl : List Expr) (rt : Option Expr) (tp : List TypeParam) (sc : Scope) (ts : Option Scope) (bi : Str) (ps : Pos) (_ : cb[6]? = some (Stmt.FunctionDef nm ag bd dl rt tp sc ts bi ps)) => ({ cls := .type "function", data := .func { name := (Str.ofString "less"), qualname := (Str.ofString "Whitespace.less"), params := ag, body := .stmts bd, scope := sc, globals := 3, closure := [], defaults := Value.none, kwdefaults := Value.none, doc := Value.none, pyModule := Value.str (Str.ofString "cpy313.tabnanny") 308, annotations := none, code := Value.ref 103, closureTuple := Value.none, builtins := 0 } } : Obj)) _ _ _ _ _ _ _ _ _ _ _ rfl _ _ _ _ _ _ _ _ _ _ rfl : Obj)) ::
  ((nat_lit 113), ({ cls := Value.type "dict", data := Data.dict #[{ hash := PyData.keyHash P (Str.ofString "__module__"), key := Value.str (Str.ofString "__module__") 317, val := Value.str (Str.ofString "cpy313.tabnanny") 308 }, { hash := PyData.keyHash P (Str.ofString "__firstlineno__"), key := Value.str (Str.ofString "__firstlineno__") 321, val := Value.int 25 320 }, { hash := PyData.keyHash P (Str.ofString "S"), key := Value.str (Str.ofString "S") 325, val := Value.str (Str.ofString " ") 323 }, { hash := PyData.keyHash P (Str.ofString "T"), key := Value.str (Str.ofString "T") 326, val := Value.str (Str.ofString "\t") 324 }, { hash := PyData.keyHash P (Str.ofString "__init__"), key := Value.str (Str.ofString "__init__") 341, val := Value.ref 69 }, { hash := PyData.keyHash P (Str.ofString "longest_run_of_spaces"), key := Value.str (Str.ofString "longest_run_of_spaces") 350, val := Value.ref 76 }, { hash := PyData.keyHash P (Str.ofString "indent_level"), key := Value.str (Str.ofString "indent_level") 362, val := Value.ref 83 }, { hash := PyData.keyHash P (Str.ofString "equal"), key := Value.str (Str.ofString "equal") 370, val := Value.ref 90 }, { hash := PyData.keyHash P (Str.ofString "not_equal_witness"), key := Value.str (Str.ofString "not_equal_witness") 378, val := Value.ref 97 }, { hash := PyData.keyHash P (Str.ofString "less"), key := Value.str (Str.ofString "less") 388, val := Value.ref 104 }, { hash := PyData.keyHash P (Str.ofString "not_less_witness"), key := Value.str (Str.ofString "not_less_witness") 396, val := Value.ref 111 }, { hash := PyData.keyHash P (Str.ofString "__static_attributes__"), key := Value.str (Str.ofString "__static_attributes__") 402, val := Value.ref 112 }, { hash := PyData.keyHash P (Str.ofString "__dict__"), key := Value.str (Str.ofString "__dict__") 404, val := Value.ref 115 }, { hash := PyData.keyHash P (Str.ofString "__weakref__"), key := Value.str (Str.ofString "__weakref__") 406, val := Value.ref 116 }, { hash := PyData.keyHash P (Str.ofString "__doc__"), key := Value.str (Str.ofString "__doc__") 407, val := Value.none }] 4 } : Obj)) ::
  ((nat_lit 114), ({ cls := Value.type "type", data := Data.cls { name := Str.ofString "Whitespace", bases := [Value.type "object"], mro := [Value.ref 114, Value.type "object"], ns := 113, qualname := Str.ofString "Whitespace" }, slots := #[none, none, some (Value.str (Str.ofString "Whitespace") 310), some (Value.str (Str.ofString "Whitespace") 318), some (Value.builtin "object.__new__"), some (Value.bool true)] } : Obj)) ::
  ((nat_lit 115), ({ cls := Value.type "getset_descriptor", data := Data.fields #[Value.str (Str.ofString "__dict__") 403, Value.ref 114, Value.builtin "function.__dict__", Value.builtin "function.__dict__#set"] } : Obj)) ::
  ((nat_lit 116), ({ cls := Value.type "getset_descriptor", data := Data.fields #[Value.str (Str.ofString "__weakref__") 405, Value.ref 114, Value.builtin "ExceptionGroup.__weakref__", Value.none] } : Obj)) ::
  ((nat_lit 127), ({ cls := Value.type "tuple", data := Data.seq #[Value.int 14 0, Value.int 10 0, Value.int 4 0, Value.int 1 0, Value.int 1 0, Value.int 22 0, Value.int 0 0, Value.int 31 0, Value.int 16 0, Value.int 127 0, Value.int 0 0, Value.int 13 0, Value.int 7 0, Value.int 22 0, Value.int 0 0, Value.int 31 0, Value.int 16 0, Value.int 127 0, Value.int 0 0, Value.int 1 0] } : Obj)) ::
  ((nat_lit 128), ({ cls := Value.type "re.Pattern", data := Data.fields #[Value.str (Str.ofString "[\\x00-\\x1F\\x7F]") 447, Value.int 32 470, Value.int 0 0, Value.none, Value.none, Value.ref 127, Value.int 0 0] } : Obj)) ::
  ((nat_lit 132), ({ cls := Value.type "tuple", data := Data.seq #[Value.int 14 0, Value.int 14 0, Value.int 4 0, Value.int 1 0, Value.int 1 0, Value.int 9 0, Value.int 4294966783 0, Value.int 0 0, Value.int 0 0, Value.int 2147483648 0, Value.int 0 0, Value.int 0 0, Value.int 0 0, Value.int 0 0, Value.int 0 0, Value.int 13 0, Value.int 11 0, Value.int 9 0, Value.int 4294966783 0, Value.int 0 0, Value.int 0 0, Value.int 2147483648 0, Value.int 0 0, Value.int 0 0, Value.int 0 0, Value.int 0 0, Value.int 0 0, Value.int 1 0] } : Obj)) ::
  ((nat_lit 133), ({ cls := Value.type "re.Pattern", data := Data.fields #[Value.str (Str.ofString "[\\x00-\\x08\\x0A-\\x1F\\x7F]") 473, Value.int 32 504, Value.int 0 0, Value.none, Value.none, Value.ref 132, Value.int 0 0] } : Obj)) ::
  ((nat_lit 149), ({ cls := Value.type "tuple", data := Data.seq #[Value.none] } : Obj)) ::
  ((nat_lit 155), ({ cls := Value.type "code", data := Data.fields #[Value.str (Str.ofString "__init__") 528, Value.str (Str.ofString "Headers.__init__") 529, Value.str (Str.ofString "/claim/cut.py") 530, Value.int 96 0, Value.int 2 0, Value.int 0 0, Value.int 0 0, Value.int 3 0, Value.ref 150, Value.bool true, Value.int 276 0, Value.ref 151, Value.none, Value.ref 152, Value.ref 153, Value.ref 154, Value.int 535 0, Value.int 96 0, Value.str (Str.ofString "/claim/cut.py") 536] } : Obj)) ::
  ((nat_lit 156), ((fun (cn : Str) (cbs : List Expr) (ck : List Keyword) (cb : List Stmt) (cd : List Expr) (ct : List TypeParam) (cs : Scope) (cts : Option Scope) (cbi : Str) (csa : List Str) (cps : Pos) (_ : PySem.Challenge.pw_pe0277_01.main.body[12]? = some (Stmt.ClassDef cn cbs ck cb cd ct cs cts cbi csa cps)) (nm : Str) (ag : Arguments) (bd : List Stmt) (dl : List Expr) (rt : Option Expr) (tp : List TypeParam) (sc : Scope) (ts : Option Scope) (bi : Str) (ps : Pos) (_ : cb[0]? = some (Stmt.FunctionDef nm ag bd dl rt tp sc ts bi ps)) => ({ cls := .type "function", data := .func { name := (Str.ofString "__init__"), qualname := (Str.ofString "Headers.__init__"), params := ag, body := .stmts bd, scope := sc, globals := 3, closure := [], defaults := Value.ref 149, kwdefaults := Value.none, doc := Value.none, pyModule := Value.str (Str.ofString "cpy313.wsgiref.headers") 410, annotations := none, code := Value.ref 155, closureTuple := Value.none, builtins := 0 } } : Obj)) _ _ _ _ _ _ _ _ _ _ _ rfl _ _ _ _ _ _ _ _ _ _ rfl : Obj)) ::
  ((nat_lit 162), ({ cls := Value.type "code", data := Data.fields #[Value.str (Str.ofString "_convert_string_type") 538, Value.str (Str.ofString "Headers._convert_string_type") 539, Value.str (Str.ofString "/claim/cut.py") 540, Value.int 106 0, Value.int 2 0, Value.int 0 0, Value.int 1 0, Value.int 3 0, Value.ref 157, Value.bool true, Value.int 276 0, Value.ref 158, Value.none, Value.ref 159, Value.ref 160, Value.ref 161, Value.int 545 0, Value.int 106 0, Value.str (Str.ofString "/claim/cut.py") 546] } : Obj)) ::
  ((nat_lit 163), ((fun (cn : Str) (cbs : List Expr) (ck : List Keyword) (cb : List Stmt) (cd : List Expr) (ct : List TypeParam) (cs : Scope) (cts : Option Scope) (cbi : Str) (csa : List Str) (cps : Pos) (_ : PySem.Challenge.pw_pe0277_01.main.body[12]? = some (Stmt.ClassDef cn cbs ck cb cd ct cs cts cbi csa cps)) (nm : Str) (ag : Arguments) (bd : List Stmt) (dl : List Expr) (rt : Option Expr) (tp : List TypeParam) (sc : Scope) (ts : Option Scope) (bi : Str) (ps : Pos) (_ : cb[1]? = some (Stmt.FunctionDef nm ag bd dl rt tp sc ts bi ps)) => ({ cls := .type "function", data := .func { name := (Str.ofString "_convert_string_type"), qualname := (Str.ofString "Headers._convert_string_type"), params := ag, body := .stmts bd, scope := sc, globals := 3, closure := [], defaults := Value.none, kwdefaults := Value.none, doc := Value.none, pyModule := Value.str (Str.ofString "cpy313.wsgiref.headers") 410, annotations := none, code := Value.ref 162, closureTuple := Value.none, builtins := 0 } } : Obj)) _ _ _ _ _ _ _ _ _ _ _ rfl _ _ _ _ _ _ _ _ _ _ rfl : Obj)) ::
  ((nat_lit 169), ({ cls := Value.type "code", data := Data.fields #[Value.str (Str.ofString "__len__") 548, Value.str (Str.ofString "Headers.__len__") 549, Value.str (Str.ofString "/claim/cut.py") 550, Value.int 114 0, Value.int 1 0, Value.int 0 0, Value.int 0 0, Value.int 3 0, Value.ref 164, Value.bool true, Value.int 276 0, Value.ref 165, Value.none, Value.ref 166, Value.ref 167, Value.ref 168, Value.int 552 0, Value.int 114 0, Value.str (Str.ofString "/claim/cut.py") 553] } : Obj)) ::
  ((nat_lit 170), ((fun (cn : Str) (cbs : List Expr) (ck : List Keyword) (cb : List Stmt) (cd : List Expr) (ct : List TypeParam) (cs : Scope) (cts : Option Scope) (cbi : Str) (csa : List Str) (cps : Pos) (_ : PySem.Challenge.pw_pe0277_01.main.body[12]? = some (Stmt.ClassDef cn cbs ck cb cd ct cs cts cbi csa cps)) (nm : Str) (ag : Arguments) (bd : List Stmt) (dl : List Expr) (rt : Option Expr) (tp : List TypeParam) (sc : Scope) (ts : Option Scope) (bi : Str) (ps : Pos) (_ : cb[2]? = some (Stmt.FunctionDef nm ag bd dl rt tp sc ts bi ps)) => ({ cls := .type "function", data := .func { name := (Str.ofString "__len__"), qualname := (Str.ofString "Headers.__len__"), params := ag, body := .stmts bd, scope := sc, globals := 3, closure := [], defaults := Value.none, kwdefaults := Value.none, doc := Value.none, pyModule := Value.str (Str.ofString "cpy313.wsgiref.headers") 410, annotations := none, code := Value.ref 169, closureTuple := Value.none, builtins := 0 } } : Obj)) _ _ _ _ _ _ _ _ _ _ _ rfl _ _ _ _ _ _ _ _ _ _ rfl : Obj)) ::
  ((nat_lit 181), ({ cls := Value.type "code", data := Data.fields #[Value.str (Str.ofString "__delitem__") 564, Value.str (Str.ofString "Headers.__delitem__") 565, Value.str (Str.ofString "/claim/cut.py") 566, Value.int 121 0, Value.int 2 0, Value.int 0 0, Value.int 0 0, Value.int 3 0, Value.ref 178, Value.bool true, Value.int 276 0, Value.ref 179, Value.none, Value.none, Value.none, Value.ref 180, Value.int 567 0, Value.int 121 0, Value.str (Str.ofString "/claim/cut.py") 568] } : Obj)) ::
  ((nat_lit 182), ((fun (cn : Str) (cbs : List Expr) (ck : List Keyword) (cb : List Stmt) (cd : List Expr) (ct : List TypeParam) (cs : Scope) (cts : Option Scope) (cbi : Str) (csa : List Str) (cps : Pos) (_ : PySem.Challenge.pw_pe0277_01.main.body[12]? = some (Stmt.ClassDef cn cbs ck cb cd ct cs cts cbi csa cps)) (nm : Str) (ag : Arguments) (bd : List Stmt) (dl : List Expr) (rt : Option Expr) (tp : List TypeParam) (sc : Scope) (ts : Option Scope) (bi : Str) (ps : Pos) (_ : cb[4]? = some (Stmt.FunctionDef nm ag bd dl rt tp sc ts bi ps)) => ({ cls := .type "function", data := .func { name := (Str.ofString "__delitem__"), qualname := (Str.ofString "Headers.__delitem__"), params := ag, body := .stmts bd, scope := sc, globals := 3, closure := [], defaults := Value.none, kwdefaults := Value.none, doc := Value.none, pyModule := Value.str (Str.ofString "cpy313.wsgiref.headers") 410, annotations := none, code := Value.ref 181, closureTuple := Value.none, builtins := 0 } } : Obj)) _ _ _ _ _ _ _ _ _ _ _ rfl _ _ _ _ _ _ _ _ _ _ rfl : Obj)) ::
  ((nat_lit 200), ({ cls := Value.type "code", data := Data.fields #[Value.str (Str.ofString "get_all") 586, Value.str (Str.ofString "Headers.get_all") 587, Value.str (Str.ofString "/claim/cut.py") 588, Value.int 131 0, Value.int 2 0, Value.int 0 0, Value.int 0 0, Value.int 3 0, Value.ref 197, Value.bool true, Value.int 276 0, Value.ref 198, Value.none, Value.none, Value.none, Value.ref 199, Value.int 589 0, Value.int 131 0, Value.str (Str.ofString "/claim/cut.py") 590] } : Obj)) ::
  ((nat_lit 201), ((fun (cn : Str) (cbs : List Expr) (ck : List Keyword) (cb : List Stmt) (cd : List Expr) (ct : List TypeParam) (cs : Scope) (cts : Option Scope) (cbi : Str) (csa : List Str) (cps : Pos) (_ : PySem.Challenge.pw_pe0277_01.main.body[12]? = some (Stmt.ClassDef cn cbs ck cb cd ct cs cts cbi csa cps)) (nm : Str) (ag : Arguments) (bd : List Stmt) (dl : List Expr) (rt : Option Expr) (tp : List TypeParam) (sc : Scope) (ts : Option Scope) (bi : Str) (ps : Pos) (_ : cb[7]? = some (Stmt.FunctionDef nm ag bd dl rt tp sc ts bi ps)) => ({ cls := .type "function", data := .func { name := (Str.ofString "get_all"), qualname := (Str.ofString "Headers.get_all"), params := ag, body := .stmts bd, scope := sc, globals := 3, closure := [], defaults := Value.none, kwdefaults := Value.none, doc := Value.none, pyModule := Value.str (Str.ofString "cpy313.wsgiref.headers") 410, annotations := none, code := Value.ref 200, closureTuple := Value.none, builtins := 0 } } : Obj)) _ _ _ _ _ _ _ _ _ _ _ rfl _ _ _ _ _ _ _ _ _ _ rfl : Obj)) ::
  ((nat_lit 225), ({ cls := Value.type "code", data := Data.fields #[Value.str (Str.ofString "items") 615, Value.str (Str.ofString "Headers.items") 616, Value.str (Str.ofString "/claim/cut.py") 617, Value.int 148 0, Value.int 1 0, Value.int 0 0, Value.int 0 0, Value.int 3 0, Value.ref 220, Value.bool true, Value.int 276 0, Value.ref 221, Value.none, Value.ref 222, Value.ref 223, Value.ref 224, Value.int 619 0, Value.int 148 0, Value.str (Str.ofString "/claim/cut.py") 620] } : Obj)) ::
  ((nat_lit 226), ((fun (cn : Str) (cbs : List Expr) (ck : List Keyword) (cb : List Stmt) (cd : List Expr) (ct : List TypeParam) (cs : Scope) (cts : Option Scope) (cbi : Str) (csa : List Str) (cps : Pos) (_ : PySem.Challenge.pw_pe0277_01.main.body[12]? = some (Stmt.ClassDef cn cbs ck cb cd ct cs cts cbi csa cps)) (nm : Str) (ag : Arguments) (bd : List Stmt) (dl : List Expr) (rt : Option Expr) (tp : List TypeParam) (sc : Scope) (ts : Option Scope) (bi : Str) (ps : Pos) (_ : cb[11]? = some (Stmt.FunctionDef nm ag bd dl rt tp sc ts bi ps)) => ({ cls := .type "function", data := .func { name := (Str.ofString "items"), qualname := (Str.ofString "Headers.items"), params := ag, body := .stmts bd, scope := sc, globals := 3, closure := [], defaults := Value.none, kwdefaults := Value.none, doc := Value.none, pyModule := Value.str (Str.ofString "cpy313.wsgiref.headers") 410, annotations := none, code := Value.ref 225, closureTuple := Value.none, builtins := 0 } } : Obj)) _ _ _ _ _ _ _ _ _ _ _ rfl _ _ _ _ _ _ _ _ _ _ rfl : Obj)) ::
  ((nat_lit 258), ({ cls := Value.type "code", data := Data.fields #[Value.str (Str.ofString "add_header") 651, Value.str (Str.ofString "Headers.add_header") 652, Value.str (Str.ofString "/claim/cut.py") 653, Value.int 163 0, Value.int 3 0, Value.int 0 0, Value.int 0 0, Value.int 11 0, Value.ref 253, Value.bool true, Value.int 276 0, Value.ref 254, Value.none, Value.ref 255, Value.ref 256, Value.ref 257, Value.int 661 0, Value.int 163 0, Value.str (Str.ofString "/claim/cut.py") 662] } : Obj)) ::
  ((nat_lit 259), ((fun (cn : Str) (cbs : List Expr) (ck : List Keyword) (cb : List Stmt) (cd : List Expr) (ct : List TypeParam) (cs : Scope) (cts : Option Scope) (cbi : Str) (csa : List Str) (cps : Pos) (_ : PySem.Challenge.pw_pe0277_01.main.body[12]? = some (Stmt.ClassDef cn cbs ck cb cd ct cs cts cbi csa cps)) (nm : Str) (ag : Arguments) (bd : List Stmt) (dl : List Expr) (rt : Option Expr) (tp : List TypeParam) (sc : Scope) (ts : Option Scope) (bi : Str) (ps : Pos) (_ : cb[16]? = some (Stmt.FunctionDef nm ag bd dl rt tp sc ts bi ps)) => ({ cls := .type "function", data := .func { name := (Str.ofString "add_header"), qualname := (Str.ofString "Headers.add_header"), params := ag, body := .stmts bd, scope := sc, globals := 3, closure := [], defaults := Value.none, kwdefaults := Value.none, doc := Value.none, pyModule := Value.str (Str.ofString "cpy313.wsgiref.headers") 410, annotations := none, code := Value.ref 258, closureTuple := Value.none, builtins := 0 } } : Obj)) _ _ _ _ _ _ _ _ _ _ _ rfl _ _ _ _ _ _ _ _ _ _ rfl : Obj)) ::
  ((nat_lit 261), ({ cls := Value.type "dict", data := Data.dict #[{ hash := PyData.keyHash P (Str.ofString "__module__"), key := Value.str (Str.ofString "__module__") 523, val := Value.str (Str.ofString "cpy313.wsgiref.headers") 410 }, { hash := PyData.keyHash P (Str.ofString "__firstlineno__"), key := Value.str (Str.ofString "__firstlineno__") 527, val := Value.int 94 526 }, { hash := PyData.keyHash P (Str.ofString "__init__"), key := Value.str (Str.ofString "__init__") 537, val := Value.ref 156 }, { hash := PyData.keyHash P (Str.ofString "_convert_string_type"), key := Value.str (Str.ofString "_convert_string_type") 547, val := Value.ref 163 }, { hash := PyData.keyHash P (Str.ofString "__len__"), key := Value.str (Str.ofString "__len__") 554, val := Value.ref 170 }, { hash := PyData.keyHash P (Str.ofString "__setitem__"), key := Value.str (Str.ofString "__setitem__") 563, val := Value.ref 177 }, { hash := PyData.keyHash P (Str.ofString "__delitem__"), key := Value.str (Str.ofString "__delitem__") 569, val := Value.ref 182 }, { hash := PyData.keyHash P (Str.ofString "__getitem__"), key := Value.str (Str.ofString "__getitem__") 577, val := Value.ref 189 }, { hash := PyData.keyHash P (Str.ofString "__contains__"), key := Value.str (Str.ofString "__contains__") 585, val := Value.ref 196 }, { hash := PyData.keyHash P (Str.ofString "get_all"), key := Value.str (Str.ofString "get_all") 591, val := Value.ref 201 }, { hash := PyData.keyHash P (Str.ofString "get"), key := Value.str (Str.ofString "get") 602, val := Value.ref 209 }, { hash := PyData.keyHash P (Str.ofString "keys"), key := Value.str (Str.ofString "keys") 608, val := Value.ref 214 }, { hash := PyData.keyHash P (Str.ofString "values"), key := Value.str (Str.ofString "values") 614, val := Value.ref 219 }, { hash := PyData.keyHash P (Str.ofString "items"), key := Value.str (Str.ofString "items") 621, val := Value.ref 226 }, { hash := PyData.keyHash P (Str.ofString "__repr__"), key := Value.str (Str.ofString "__repr__") 628, val := Value.ref 233 }, { hash := PyData.keyHash P (Str.ofString "__str__"), key := Value.str (Str.ofString "__str__") 634, val := Value.ref 238 }, { hash := PyData.keyHash P (Str.ofString "__bytes__"), key := Value.str (Str.ofString "__bytes__") 641, val := Value.ref 245 }, { hash := PyData.keyHash P (Str.ofString "setdefault"), key := Value.str (Str.ofString "setdefault") 650, val := Value.ref 252 }, { hash := PyData.keyHash P (Str.ofString "add_header"), key := Value.str (Str.ofString "add_header") 663, val := Value.ref 259 }, { hash := PyData.keyHash P (Str.ofString "__static_attributes__"), key := Value.str (Str.ofString "__static_attributes__") 665, val := Value.ref 260 }, { hash := PyData.keyHash P (Str.ofString "__dict__"), key := Value.str (Str.ofString "__dict__") 667, val := Value.ref 263 }, { hash := PyData.keyHash P (Str.ofString "__weakref__"), key := Value.str (Str.ofString "__weakref__") 669, val := Value.ref 264 }, { hash := PyData.keyHash P (Str.ofString "__doc__"), key := Value.str (Str.ofString "__doc__") 670, val := Value.none }] 4 } : Obj)) ::
  ((nat_lit 262), ({ cls := Value.type "type", data := Data.cls { name := Str.ofString "Headers", bases := [Value.type "object"], mro := [Value.ref 262, Value.type "object"], ns := 261, qualname := Str.ofString "Headers" }, slots := #[none, none, some (Value.str (Str.ofString "Headers") 516), some (Value.str (Str.ofString "Headers") 524), some (Value.builtin "object.__new__"), some (Value.bool true)] } : Obj)) ::
  ((nat_lit 263), ({ cls := Value.type "getset_descriptor", data := Data.fields #[Value.str (Str.ofString "__dict__") 666, Value.ref 262, Value.builtin "function.__dict__", Value.builtin "function.__dict__#set"] } : Obj)) ::
  ((nat_lit 264), ({ cls := Value.type "getset_descriptor", data := Data.fields #[Value.str (Str.ofString "__weakref__") 668, Value.ref 262, Value.builtin "ExceptionGroup.__weakref__", Value.none] } : Obj)) ::
  ((nat_lit 272), ({ cls := Value.type "code", data := Data.fields #[Value.str (Str.ofString "_law_notes") 675, Value.str (Str.ofString "_law_notes") 676, Value.str (Str.ofString "/claim/cut.py") 677, Value.int 177 0, Value.int 1 0, Value.int 0 0, Value.int 0 0, Value.int 3 0, Value.ref 267, Value.bool true, Value.int 276 0, Value.ref 268, Value.none, Value.ref 269, Value.ref 270, Value.ref 271, Value.int 685 0, Value.int 177 0, Value.str (Str.ofString "/claim/cut.py") 686] } : Obj)) ::
  ((nat_lit 273), ((fun (nm : Str) (ag : Arguments) (bd : List Stmt) (dl : List Expr) (rt : Option Expr) (tp : List TypeParam) (sc : Scope) (ts : Option Scope) (bi : Str) (ps : Pos) (_ : PySem.Challenge.pw_pe0277_01.main.body[14]? = some (Stmt.FunctionDef nm ag bd dl rt tp sc ts bi ps)) => ({ cls := .type "function", data := .func { name := (Str.ofString "_law_notes"), qualname := (Str.ofString "_law_notes"), params := ag, body := .stmts bd, scope := sc, globals := 3, closure := [], defaults := Value.none, kwdefaults := Value.none, doc := Value.none, pyModule := Value.str (Str.ofString "law_pe0277_01") 673, annotations := none, code := Value.ref 272, closureTuple := Value.none, builtins := 0 } } : Obj)) _ _ _ _ _ _ _ _ _ _ rfl : Obj)) ::
  ((nat_lit 279), ({ cls := Value.type "code", data := Data.fields #[Value.str (Str.ofString "_law_bare") 688, Value.str (Str.ofString "_law_bare") 689, Value.str (Str.ofString "/claim/cut.py") 690, Value.int 188 0, Value.int 1 0, Value.int 0 0, Value.int 0 0, Value.int 3 0, Value.ref 274, Value.bool true, Value.int 276 0, Value.ref 275, Value.none, Value.ref 276, Value.ref 277, Value.ref 278, Value.int 694 0, Value.int 188 0, Value.str (Str.ofString "/claim/cut.py") 695] } : Obj)) ::
  ((nat_lit 280), ((fun (nm : Str) (ag : Arguments) (bd : List Stmt) (dl : List Expr) (rt : Option Expr) (tp : List TypeParam) (sc : Scope) (ts : Option Scope) (bi : Str) (ps : Pos) (_ : PySem.Challenge.pw_pe0277_01.main.body[15]? = some (Stmt.FunctionDef nm ag bd dl rt tp sc ts bi ps)) => ({ cls := .type "function", data := .func { name := (Str.ofString "_law_bare"), qualname := (Str.ofString "_law_bare"), params := ag, body := .stmts bd, scope := sc, globals := 3, closure := [], defaults := Value.none, kwdefaults := Value.none, doc := Value.none, pyModule := Value.str (Str.ofString "law_pe0277_01") 673, annotations := none, code := Value.ref 279, closureTuple := Value.none, builtins := 0 } } : Obj)) _ _ _ _ _ _ _ _ _ _ rfl : Obj)) ::
  ((nat_lit 286), ({ cls := Value.type "code", data := Data.fields #[Value.str (Str.ofString "_law_columns") 697, Value.str (Str.ofString "_law_columns") 698, Value.str (Str.ofString "/claim/cut.py") 699, Value.int 197 0, Value.int 1 0, Value.int 0 0, Value.int 0 0, Value.int 3 0, Value.ref 281, Value.bool true, Value.int 276 0, Value.ref 282, Value.none, Value.ref 283, Value.ref 284, Value.ref 285, Value.int 705 0, Value.int 197 0, Value.str (Str.ofString "/claim/cut.py") 706] } : Obj)) ::
  ((nat_lit 287), ((fun (nm : Str) (ag : Arguments) (bd : List Stmt) (dl : List Expr) (rt : Option Expr) (tp : List TypeParam) (sc : Scope) (ts : Option Scope) (bi : Str) (ps : Pos) (_ : PySem.Challenge.pw_pe0277_01.main.body[16]? = some (Stmt.FunctionDef nm ag bd dl rt tp sc ts bi ps)) => ({ cls := .type "function", data := .func { name := (Str.ofString "_law_columns"), qualname := (Str.ofString "_law_columns"), params := ag, body := .stmts bd, scope := sc, globals := 3, closure := [], defaults := Value.none, kwdefaults := Value.none, doc := Value.none, pyModule := Value.str (Str.ofString "law_pe0277_01") 673, annotations := none, code := Value.ref 286, closureTuple := Value.none, builtins := 0 } } : Obj)) _ _ _ _ _ _ _ _ _ _ rfl : Obj)) ::
  ((nat_lit 291), ({ cls := Value.type "code", data := Data.fields #[Value.str (Str.ofString "_law_above") 708, Value.str (Str.ofString "_law_above") 709, Value.str (Str.ofString "/claim/cut.py") 710, Value.int 207 0, Value.int 2 0, Value.int 0 0, Value.int 0 0, Value.int 3 0, Value.ref 288, Value.bool true, Value.int 276 0, Value.ref 289, Value.none, Value.none, Value.none, Value.ref 290, Value.int 711 0, Value.int 207 0, Value.str (Str.ofString "/claim/cut.py") 712] } : Obj)) ::
  ((nat_lit 292), ((fun (nm : Str) (ag : Arguments) (bd : List Stmt) (dl : List Expr) (rt : Option Expr) (tp : List TypeParam) (sc : Scope) (ts : Option Scope) (bi : Str) (ps : Pos) (_ : PySem.Challenge.pw_pe0277_01.main.body[17]? = some (Stmt.FunctionDef nm ag bd dl rt tp sc ts bi ps)) => ({ cls := .type "function", data := .func { name := (Str.ofString "_law_above"), qualname := (Str.ofString "_law_above"), params := ag, body := .stmts bd, scope := sc, globals := 3, closure := [], defaults := Value.none, kwdefaults := Value.none, doc := Value.none, pyModule := Value.str (Str.ofString "law_pe0277_01") 673, annotations := none, code := Value.ref 291, closureTuple := Value.none, builtins := 0 } } : Obj)) _ _ _ _ _ _ _ _ _ _ rfl : Obj)) ::
  ((nat_lit 296), ({ cls := Value.type "code", data := Data.fields #[Value.str (Str.ofString "_law_least") 714, Value.str (Str.ofString "_law_least") 715, Value.str (Str.ofString "/claim/cut.py") 716, Value.int 209 0, Value.int 2 0, Value.int 0 0, Value.int 0 0, Value.int 3 0, Value.ref 293, Value.bool true, Value.int 276 0, Value.ref 294, Value.none, Value.none, Value.none, Value.ref 295, Value.int 717 0, Value.int 209 0, Value.str (Str.ofString "/claim/cut.py") 718] } : Obj)) ::
  ((nat_lit 297), ((fun (nm : Str) (ag : Arguments) (bd : List Stmt) (dl : List Expr) (rt : Option Expr) (tp : List TypeParam) (sc : Scope) (ts : Option Scope) (bi : Str) (ps : Pos) (_ : PySem.Challenge.pw_pe0277_01.main.body[18]? = some (Stmt.FunctionDef nm ag bd dl rt tp sc ts bi ps)) => ({ cls := .type "function", data := .func { name := (Str.ofString "_law_least"), qualname := (Str.ofString "_law_least"), params := ag, body := .stmts bd, scope := sc, globals := 3, closure := [], defaults := Value.none, kwdefaults := Value.none, doc := Value.none, pyModule := Value.str (Str.ofString "law_pe0277_01") 673, annotations := none, code := Value.ref 296, closureTuple := Value.none, builtins := 0 } } : Obj)) _ _ _ _ _ _ _ _ _ _ rfl : Obj)) ::
  ((nat_lit 301), ({ cls := Value.type "code", data := Data.fields #[Value.str (Str.ofString "_law_lay") 720, Value.str (Str.ofString "_law_lay") 721, Value.str (Str.ofString "/claim/cut.py") 722, Value.int 217 0, Value.int 3 0, Value.int 0 0, Value.int 0 0, Value.int 3 0, Value.ref 298, Value.bool true, Value.int 276 0, Value.ref 299, Value.none, Value.none, Value.none, Value.ref 300, Value.int 723 0, Value.int 217 0, Value.str (Str.ofString "/claim/cut.py") 724] } : Obj)) ::
  ((nat_lit 302), ((fun (nm : Str) (ag : Arguments) (bd : List Stmt) (dl : List Expr) (rt : Option Expr) (tp : List TypeParam) (sc : Scope) (ts : Option Scope) (bi : Str) (ps : Pos) (_ : PySem.Challenge.pw_pe0277_01.main.body[19]? = some (Stmt.FunctionDef nm ag bd dl rt tp sc ts bi ps)) => ({ cls := .type "function", data := .func { name := (Str.ofString "_law_lay"), qualname := (Str.ofString "_law_lay"), params := ag, body := .stmts bd, scope := sc, globals := 3, closure := [], defaults := Value.none, kwdefaults := Value.none, doc := Value.none, pyModule := Value.str (Str.ofString "law_pe0277_01") 673, annotations := none, code := Value.ref 301, closureTuple := Value.none, builtins := 0 } } : Obj)) _ _ _ _ _ _ _ _ _ _ rfl : Obj)) ::
  ((nat_lit 306), ({ cls := Value.type "code", data := Data.fields #[Value.str (Str.ofString "_law_left") 726, Value.str (Str.ofString "_law_left") 727, Value.str (Str.ofString "/claim/cut.py") 728, Value.int 229 0, Value.int 1 0, Value.int 0 0, Value.int 0 0, Value.int 3 0, Value.ref 303, Value.bool true, Value.int 276 0, Value.ref 304, Value.none, Value.none, Value.none, Value.ref 305, Value.int 729 0, Value.int 229 0, Value.str (Str.ofString "/claim/cut.py") 730] } : Obj)) ::
  ((nat_lit 307), ((fun (nm : Str) (ag : Arguments) (bd : List Stmt) (dl : List Expr) (rt : Option Expr) (tp : List TypeParam) (sc : Scope) (ts : Option Scope) (bi : Str) (ps : Pos) (_ : PySem.Challenge.pw_pe0277_01.main.body[20]? = some (Stmt.FunctionDef nm ag bd dl rt tp sc ts bi ps)) => ({ cls := .type "function", data := .func { name := (Str.ofString "_law_left"), qualname := (Str.ofString "_law_left"), params := ag, body := .stmts bd, scope := sc, globals := 3, closure := [], defaults := Value.none, kwdefaults := Value.none, doc := Value.none, pyModule := Value.str (Str.ofString "law_pe0277_01") 673, annotations := none, code := Value.ref 306, closureTuple := Value.none, builtins := 0 } } : Obj)) _ _ _ _ _ _ _ _ _ _ rfl : Obj)) ::
  ((nat_lit 311), ({ cls := Value.type "code", data := Data.fields #[Value.str (Str.ofString "law") 732, Value.str (Str.ofString "law") 733, Value.str (Str.ofString "/claim/cut.py") 734, Value.int 253 0, Value.int 1 0, Value.int 0 0, Value.int 0 0, Value.int 3 0, Value.ref 308, Value.bool true, Value.int 276 0, Value.ref 309, Value.none, Value.none, Value.none, Value.ref 310, Value.int 735 0, Value.int 253 0, Value.str (Str.ofString "/claim/cut.py") 736] } : Obj)) ::
  ((nat_lit 312), ((fun (nm : Str) (ag : Arguments) (bd : List Stmt) (dl : List Expr) (rt : Option Expr) (tp : List TypeParam) (sc : Scope) (ts : Option Scope) (bi : Str) (ps : Pos) (_ : PySem.Challenge.pw_pe0277_01.main.body[21]? = some (Stmt.FunctionDef nm ag bd dl rt tp sc ts bi ps)) => ({ cls := .type "function", data := .func { name := (Str.ofString "law"), qualname := (Str.ofString "law"), params := ag, body := .stmts bd, scope := sc, globals := 3, closure := [], defaults := Value.none, kwdefaults := Value.none, doc := Value.none, pyModule := Value.str (Str.ofString "law_pe0277_01") 673, annotations := none, code := Value.ref 311, closureTuple := Value.none, builtins := 0 } } : Obj)) _ _ _ _ _ _ _ _ _ _ rfl : Obj)) :: []
end
section
noncomputable def asK : List Addr := [2, 3, 44, 45, 51, 52, 68, 69, 75, 76, 82, 83, 89, 90, 103, 104, 113, 114, 115, 116, 127, 128, 132, 133, 149, 155, 156, 162, 163, 169, 170, 181, 182, 200, 201, 225, 226, 258, 259, 261, 262, 263, 264, 272, 273, 279, 280, 286, 287, 291, 292, 296, 297, 301, 302, 306, 307, 311, 312]
noncomputable def VW : Program := { PySem.Challenge.pw_pe0277_01 with main := { PySem.Challenge.pw_pe0277_01.main with body := [0, 21].filterMap fun i => PySem.Challenge.pw_pe0277_01.main.body[i]? } }
noncomputable def LO0 : List Str := [Str.ofString "_wall", Str.ofString "_comment_line", Str.ofString "_strip_exception_details", Str.ofString "Whitespace", Str.ofString "tspecials", Str.ofString "_name_disallowed_re", Str.ofString "_value_disallowed_re", Str.ofString "_formatparam", Str.ofString "Headers", Str.ofString "_law_notes", Str.ofString "_law_bare", Str.ofString "_law_columns", Str.ofString "_law_above", Str.ofString "_law_least", Str.ofString "_law_lay", Str.ofString "_law_left"]
noncomputable def HK : Hook := kHook Mine.KF asK (fun _ => by kernel_rfl)
noncomputable def leftAt (w : World) : Prop := (openEnds treeTable PySem.Challenge.rw_pe0277_01.row.prog w 4000).map (fun s => (openSeen VW LO0 (importedModules PySem.Challenge.rw_pe0277_01.row.prog.main.body) (fun s => xlAt VW [] s && recOk (RowW.records PySem.Challenge.rw_pe0277_01.row.toRowW) s) true s, Hook.obs HK s)) = some (openGood VW LO0, Hook.val HK w)
-- Fast.te..: the library's quick twins of importEnds, start, fenceModules?, topRun, openSeen, treeTable; the last one of OpenLaw.wellSaid
set_option maxHeartbeats 0 in
theorem leftF (w : World) : leftAt (w.withFollow "special-get-raises" false) := by
  unfold leftAt openEnds fencedOpening topFrom
  rw [Fast.te10274390034422433532, Fast.te1435165496053646825, Fast.te14289696077712309145, Fast.te14082659384304107361, Fast.te4187177175401517315, Fast.te14364793385576792824]
  kernel_rfl
set_option maxHeartbeats 0 in
theorem leftT (w : World) : leftAt (w.withFollow "special-get-raises" true) := by
  unfold leftAt openEnds fencedOpening topFrom
  rw [Fast.te10274390034422433532, Fast.te1435165496053646825, Fast.te14289696077712309145, Fast.te14082659384304107361, Fast.te4187177175401517315, Fast.te14364793385576792824]
  kernel_rfl
theorem law_said : PySem.Challenge.rw_pe0277_01.wellSaid = true := by
  rw [Fast.te9446332074065402090]
  kernel_rfl
end
section
abbrev Led := List (Addr × Obj)
/-- the world, and what the top tells of the globals -/
structure Env0 where
  w : World
  p : Program
  loose : List Str
  mean : ExcName → Option Value
  mg : Str → Option Value
  mb : Str → Option Value
/-- a call of the object f, from any frame: what it hands back and the ledger behind it satisfy P -/
noncomputable def Spec (e : Env0) (b : Nat) (f : Addr) (vs : List Value) (news : Led) (P : Value → Led → Prop) : Prop :=
  ∀ (dp un : Nat) (gd : Option (List Code)) (cn : Str) (ns : List (Str × NameKind)) (ig ic : Bool) (mo : List (Str × Const)) (a : Addr) (ccd : Value) (cl : List (Str × Addr)) (outer : List Env) (A₀ : Around) (base h₀ : Heap) (L : Addr) (m : Str → Option Value) (s : Shared) (Q E : Value → Shared → Prop),
    Below A₀ base outer h₀ → Fr h₀ L s.heap m → (Mine.KF e.w.params).In h₀ → News h₀ L s.heap news → Top e.p e.loose e.mean e.mg e.mb h₀ →
    dp + b < recursionLimit → un + 10 * b < cLine →
    (∀ v h' tk' news', Fr h₀ L h' m → News h₀ L h' news' → P v news' → Q v { s with heap := h', toks := tk' }) →
    wpAny (model PySem.Challenge.rw_pe0277_01.row.prog e.w) (ktrTop dp un gd cn ⟨.function, ns, ig, ic, mo⟩ L a ccd cl outer) (call (.ref f) vs) Q E s
theorem Spec.use {w : World} {p : Program} {loose : List Str} {mean : ExcName → Option Value} {mg mb : Str → Option Value} {b : Nat} {f : Addr} {vs : List Value} {news : Led} {P : Value → Led → Prop} (h : Spec ⟨w, p, loose, mean, mg, mb⟩ b f vs news P)
    {dp un : Nat} {gd : Option (List Code)} {cn : Str} {ns : List (Str × NameKind)} {ig ic : Bool} {mo : List (Str × Const)} {a : Addr} {ccd : Value} {cl : List (Str × Addr)} {outer : List Env} {A₀ : Around} {base h₀ : Heap} {L : Addr} {m : Str → Option Value} {s : Shared} {Q E : Value → Shared → Prop}
    (B : Below A₀ base outer h₀) (F : Fr h₀ L s.heap m) (X : (Mine.KF w.params).In h₀) (N : News h₀ L s.heap news) (T : Top p loose mean mg mb h₀) (hd : dp + b < recursionLimit) (hu : un + 10 * b < cLine)
    (hret : ∀ v h' tk' news', Fr h₀ L h' m → News h₀ L h' news' → P v news' → Q v { s with heap := h', toks := tk' }) :
    wpAny (model PySem.Challenge.rw_pe0277_01.row.prog w) (ktrTop dp un gd cn ⟨.function, ns, ig, ic, mo⟩ L a ccd cl outer) (call (.ref f) vs) Q E s :=
  h dp un gd cn ns ig ic mo a ccd cl outer A₀ base h₀ L m s Q E B F X N T hd hu hret
/-- the same, with keywords -/
noncomputable def SpecK (e : Env0) (b : Nat) (f : Addr) (vs : List Value) (kw : List (Str × Value)) (news : Led) (P : Value → Led → Prop) : Prop :=
  ∀ (dp un : Nat) (gd : Option (List Code)) (cn : Str) (ns : List (Str × NameKind)) (ig ic : Bool) (mo : List (Str × Const)) (a : Addr) (ccd : Value) (cl : List (Str × Addr)) (outer : List Env) (A₀ : Around) (base h₀ : Heap) (L : Addr) (m : Str → Option Value) (s : Shared) (Q E : Value → Shared → Prop),
    Below A₀ base outer h₀ → Fr h₀ L s.heap m → (Mine.KF e.w.params).In h₀ → News h₀ L s.heap news → Top e.p e.loose e.mean e.mg e.mb h₀ →
    dp + b < recursionLimit → un + 10 * b < cLine →
    (∀ v h' tk' news', Fr h₀ L h' m → News h₀ L h' news' → P v news' → Q v { s with heap := h', toks := tk' }) →
    wpAny (model PySem.Challenge.rw_pe0277_01.row.prog e.w) (ktrTop dp un gd cn ⟨.function, ns, ig, ic, mo⟩ L a ccd cl outer) (call (.ref f) vs kw) Q E s
theorem SpecK.use {w : World} {p : Program} {loose : List Str} {mean : ExcName → Option Value} {mg mb : Str → Option Value} {b : Nat} {f : Addr} {vs : List Value} {kw : List (Str × Value)} {news : Led} {P : Value → Led → Prop} (h : SpecK ⟨w, p, loose, mean, mg, mb⟩ b f vs kw news P)
    {dp un : Nat} {gd : Option (List Code)} {cn : Str} {ns : List (Str × NameKind)} {ig ic : Bool} {mo : List (Str × Const)} {a : Addr} {ccd : Value} {cl : List (Str × Addr)} {outer : List Env} {A₀ : Around} {base h₀ : Heap} {L : Addr} {m : Str → Option Value} {s : Shared} {Q E : Value → Shared → Prop}
    (B : Below A₀ base outer h₀) (F : Fr h₀ L s.heap m) (X : (Mine.KF w.params).In h₀) (N : News h₀ L s.heap news) (T : Top p loose mean mg mb h₀) (hd : dp + b < recursionLimit) (hu : un + 10 * b < cLine)
    (hret : ∀ v h' tk' news', Fr h₀ L h' m → News h₀ L h' news' → P v news' → Q v { s with heap := h', toks := tk' }) :
    wpAny (model PySem.Challenge.rw_pe0277_01.row.prog w) (ktrTop dp un gd cn ⟨.function, ns, ig, ic, mo⟩ L a ccd cl outer) (call (.ref f) vs kw) Q E s :=
  h dp un gd cn ns ig ic mo a ccd cl outer A₀ base h₀ L m s Q E B F X N T hd hu hret
theorem drop_tail {α : Type} {x y : α} {l : List α} (h : y ∈ l) : y ∈ x :: l := List.mem_cons_of_mem _ h
end
section
/-- a goal at which the walk halts -/
noncomputable def Halt (P : Prop) : Prop := P
theorem halt {P : Prop} (h : Halt P) : P := h
/-- a map with some names told -/
noncomputable def upd (l : List (Str × Option Value)) (m : Str → Option Value) : Str → Option Value := fun z => match l.lookup z with
  | some o => o
  | none => m z
theorem upd_of {l : List (Str × Option Value)} {m m' : Str → Option Value} (h : ∀ z, m' z = upd l m z) : m' = upd l m := funext h

section
variable {prog : Program} {w : World} {A : Around} {E : Value → Shared → Prop} {s : Shared} {env : Env} {h₀ : Heap} {x : Str} {body : List Stmt} {Q : Flow → Shared → Prop}
theorem iter_strP {tx : Str} {t : Tok} {m₀ : Str → Option Value} {news : Led} (S : List Nat → (Str → Option Value) → Led → Prop)
    (hh : A.handled = none) (F : Fr h₀ env.locals s.heap m₀) (N : News h₀ env.locals s.heap news) (h0 : S [] m₀ news)
    (turn : ∀ pre c post u it I m n h tk, tx.cps.toList = pre ++ c :: post → S pre m n → (∀ p ∈ news, p.1 < I) → (∀ p ∈ n, p.1 ≠ I) → Fr h₀ env.locals h (fun y => if y = x then some (.str ⟨#[c]⟩ u) else m y) → News h₀ env.locals h ((I, it) :: n) →
      wpAny (model prog w) A (execs body env) (UnrPost h₀ env.locals { s with heap := h, toks := tk } I it (S (pre ++ [c])) Q) E { s with heap := h, toks := tk })
    (done : ∀ m n h tk, S tx.cps.toList m n → Fr h₀ env.locals h m → News h₀ env.locals h n → Q .next { s with heap := h, toks := tk }) :
    wpAny (model prog w) A (pyIter (.str tx t)) (fun it s₂ => LoopAtV prog w A h₀ env x body Q E it s₂) E s := by
  refine iter_strUnr (l := tx.cps.toList.map fun c => (⟨#[c]⟩ : Str)) hh F N rfl fun I hI => ?_
  suffices h : ∀ post pre m n, tx.cps.toList = pre ++ post → S pre m n → (∀ p ∈ n, p.1 ≠ I) → StrRest prog w A E h₀ env x body Q s I (post.map fun c => (⟨#[c]⟩ : Str)) m n from h _ [] _ _ rfl h0 fun p hp => Nat.ne_of_lt (hI p hp)
  intro post
  induction post with
  | nil =>
    intro pre m n e hS ho
    rw [List.append_nil] at e
    exact StrRest.zero fun h tk F' N' => done m n h tk (e ▸ hS) F' N'
  | cons c post ih =>
    intro pre m n e hS ho
    refine StrRest.succ fun u it h tk F' N' => ?_
    refine wpAny_mono (turn pre c post u it I m n h tk e hS hI ho F' N') (fun f s₂ p => ?_) fun _ _ q => q
    have go : UnrEnd h₀ env.locals { s with heap := h, toks := tk } I it (S (pre ++ [c])) s₂ → UnrEnd h₀ env.locals { s with heap := h, toks := tk } I it (StrRest prog w A E h₀ env x body Q s I (post.map fun c => (⟨#[c]⟩ : Str))) s₂ := by
      rintro ⟨h', tk', m', n', e1, F1, N1, o1, r1⟩
      exact ⟨h', tk', m', n', e1, F1, N1, o1, ih (pre ++ [c]) m' n' (by rw [e]; simp) r1 o1⟩
    cases f with
    | ret v => exact p
    | brk => exact p
    | next => exact go p
    | cont => exact go p

noncomputable def BrkEnd (h₀ : Heap) (L : Addr) (s₁ : Shared) (Fin : (Str → Option Value) → Led → Prop) (s₂ : Shared) : Prop :=
  ∃ h' tk m' n', s₂ = { s₁ with heap := h', toks := tk } ∧ Fr h₀ L h' m' ∧ News h₀ L h' n' ∧ Fin m' n'
noncomputable def BPost (h₀ : Heap) (L : Addr) (s₁ : Shared) (I : Addr) (it : Obj) (S Fin : (Str → Option Value) → Led → Prop) (Q : Flow → Shared → Prop) (f : Flow) (s₂ : Shared) : Prop :=
  match f with
  | .ret v => Q (.ret v) s₂
  | .brk => BrkEnd h₀ L s₁ Fin s₂
  | _ => UnrEnd h₀ L s₁ I it S s₂
/-- a loop over a text's signs that may leave by break -/
theorem iter_strB {tx : Str} {t : Tok} {m₀ : Str → Option Value} {news : Led} (S : List Nat → (Str → Option Value) → Led → Prop) (Fin : (Str → Option Value) → Led → Prop)
    (hh : A.handled = none) (F : Fr h₀ env.locals s.heap m₀) (N : News h₀ env.locals s.heap news) (h0 : S [] m₀ news)
    (rest : ∀ m n h tk, Fin m n → Fr h₀ env.locals h m → News h₀ env.locals h n → Q .next { s with heap := h, toks := tk })
    (fin : ∀ m n, S tx.cps.toList m n → Fin m n)
    (turn : ∀ pre c post u it I m n h tk, tx.cps.toList = pre ++ c :: post → S pre m n → (∀ p ∈ news, p.1 < I) → (∀ p ∈ n, p.1 ≠ I) → Fr h₀ env.locals h (fun y => if y = x then some (.str ⟨#[c]⟩ u) else m y) → News h₀ env.locals h ((I, it) :: n) →
      wpAny (model prog w) A (execs body env) (BPost h₀ env.locals { s with heap := h, toks := tk } I it (S (pre ++ [c])) Fin Q) E { s with heap := h, toks := tk }) :
    wpAny (model prog w) A (pyIter (.str tx t)) (fun it s₂ => LoopAtV prog w A h₀ env x body Q E it s₂) E s :=
  iter_strP S hh F N h0 (fun pre c post u it I m n h tk e1 e2 e3 e4 F' N' => wpAny_mono (turn pre c post u it I m n h tk e1 e2 e3 e4 F' N') (fun f s₂ p => by
    cases f with
    | ret v => exact p
    | brk => obtain ⟨h', tk', m', n', rfl, F1, N1, r1⟩ := p; exact rest m' n' h' tk' r1 F1 N1
    | next => exact p
    | cont => exact p) fun _ _ q => q) fun m n h tk hS F' N' => rest m n h tk (fin m n hS) F' N'

theorem iter_listP {ax : Addr} {lo : Obj} {vs : List Value} {k : Nat} {m₀ : Str → Option Value} {news : Led} (S : List Value → (Str → Option Value) → Led → Prop)
    (hh : A.handled = none) (F : Fr h₀ env.locals s.heap m₀) (N : News h₀ env.locals s.heap news) (hm : (ax, lo) ∈ news) (hc : lo.cls = .type "list") (hd : lo.data = .seq vs.toArray k) (h0 : S [] m₀ news)
    (turn : ∀ pre v post it I m n h tk, vs = pre ++ v :: post → S pre m n → (∀ p ∈ news, p.1 < I) → (∀ p ∈ n, p.1 ≠ I) → it.cls = .type "list_iterator" → Fr h₀ env.locals h (fun y => if y = x then some v else m y) → News h₀ env.locals h ((I, it) :: n) →
      wpAny (model prog w) A (execs body env) (UnrPost h₀ env.locals { s with heap := h, toks := tk } I it (fun m' n' => (ax, lo) ∈ n' ∧ S (pre ++ [v]) m' n') Q) E { s with heap := h, toks := tk })
    (done : ∀ m n h tk, S vs m n → Fr h₀ env.locals h m → News h₀ env.locals h n → Q .next { s with heap := h, toks := tk }) :
    wpAny (model prog w) A (pyIter (.ref ax)) (fun it s₂ => LoopAtV prog w A h₀ env x body Q E it s₂) E s := by
  refine iter_listUnr hh F N hm hc hd fun I hI => ?_
  suffices h : ∀ post pre m n, vs = pre ++ post → S pre m n → (∀ p ∈ n, p.1 ≠ I) → ListRest prog w A E h₀ env x body Q s I (ax, lo) post m n from h _ [] _ _ rfl h0 fun p hp => Nat.ne_of_lt (hI p hp)
  intro post
  induction post with
  | nil =>
    intro pre m n e hS ho
    rw [List.append_nil] at e
    exact ListRest.zero fun h tk F' N' => done m n h tk (e ▸ hS) F' N'
  | cons c post ih =>
    intro pre m n e hS ho
    refine ListRest.succ fun it h tk hi F' N' => ?_
    refine wpAny_mono (turn pre c post it I m n h tk e hS hI ho hi F' N') (fun f s₂ p => ?_) fun _ _ q => q
    have go : UnrEnd h₀ env.locals { s with heap := h, toks := tk } I it (fun m' n' => (ax, lo) ∈ n' ∧ S (pre ++ [c]) m' n') s₂ → UnrEnd h₀ env.locals { s with heap := h, toks := tk } I it (fun m' n' => (ax, lo) ∈ n' ∧ ListRest prog w A E h₀ env x body Q s I (ax, lo) post m' n') s₂ := by
      rintro ⟨h', tk', m', n', e1, F1, N1, o1, l1, r1⟩
      exact ⟨h', tk', m', n', e1, F1, N1, o1, l1, ih (pre ++ [c]) m' n' (by rw [e]; simp) r1 o1⟩
    cases f with
    | ret v => exact p
    | brk => exact p
    | next => exact go p
    | cont => exact go p

theorem iter_listT {target : Expr} {ax : Addr} {lo : Obj} {vs : List Value} {k : Nat} {m₀ : Str → Option Value} {news : Led} (S : List Value → (Str → Option Value) → Led → Prop)
    (hh : A.handled = none) (F : Fr h₀ env.locals s.heap m₀) (N : News h₀ env.locals s.heap news) (hm : (ax, lo) ∈ news) (hc : lo.cls = .type "list") (hd : lo.data = .seq vs.toArray k) (h0 : S [] m₀ news)
    (turn : ∀ pre v post it I m n h tk, vs = pre ++ v :: post → S pre m n → (∀ p ∈ news, p.1 < I) → (∀ p ∈ n, p.1 ≠ I) → it.cls = .type "list_iterator" → Fr h₀ env.locals h m → News h₀ env.locals h ((I, it) :: n) →
      wpAny (model prog w) A (assign target env v) (fun _ s₂ => wpAny (model prog w) A (execs body env) (UnrPostW h₀ env.locals { s with heap := h, toks := tk } [(I, it)] (fun m' n' => (ax, lo) ∈ n' ∧ S (pre ++ [v]) m' n') Q) E s₂) E { s with heap := h, toks := tk })
    (done : ∀ m n h tk, S vs m n → Fr h₀ env.locals h m → News h₀ env.locals h n → Q .next { s with heap := h, toks := tk }) :
    wpAny (model prog w) A (pyIter (.ref ax)) (fun it s₂ => TurnsAt prog w A h₀ env target body Q E it s₂) E s := by
  refine iter_listTurns hh F N hm hc hd fun I hI => ?_
  suffices h : ∀ post pre m n, vs = pre ++ post → S pre m n → (∀ p ∈ n, p.1 ≠ I) → ItemsRest prog w A E h₀ env target body Q s [(I, "list_iterator")] [(ax, lo)] (post.map .val) m n from h _ [] _ _ rfl h0 fun p hp => Nat.ne_of_lt (hI p hp)
  intro post
  induction post with
  | nil =>
    intro pre m n e hS ho
    rw [List.append_nil] at e
    exact ItemsRest.zero fun h tk F' N' => done m n h tk (e ▸ hS) F' N'
  | cons c post ih =>
    intro pre m n e hS ho
    refine ItemsRest.val fun h tk F' => AllObj.cons fun it hi => AllObj.nil fun N' => ?_
    refine wpAny_mono (turn pre c post it I m n h tk e hS hI ho hi F' N') (fun _ s₂ q => wpAny_mono q (fun f s₃ p => ?_) fun _ _ q => q) fun _ _ q => q
    have go : UnrEndW h₀ env.locals { s with heap := h, toks := tk } [(I, it)] (fun m' n' => (ax, lo) ∈ n' ∧ S (pre ++ [c]) m' n') s₃ → UnrEndW h₀ env.locals { s with heap := h, toks := tk } [(I, it)] (fun m' n' => SubL [(ax, lo)] n' ∧ ItemsRest prog w A E h₀ env target body Q s [(I, "list_iterator")] [(ax, lo)] (post.map .val) m' n') s₃ := by
      rintro ⟨h', tk', m', n', e1, F1, N1, o1, l1, r1⟩
      exact ⟨h', tk', m', n', e1, F1, N1, o1, ⟨l1, trivial⟩, ih (pre ++ [c]) m' n' (by rw [e]; simp) r1 fun p hp => o1 p hp (I, it) (.head _)⟩
    cases f with
    | ret v => exact p
    | brk => exact p
    | next => exact go p
    | cont => exact go p

theorem iter_rangeP {r : Addr} {a₀ b₀ : Int} {t₀ u₀ v₀ : Tok} {n : Nat} {m₀ : Str → Option Value} {news : Led} (S : Nat → (Str → Option Value) → Led → Prop)
    (hh : A.handled = none) (hr : IsRange s.heap r a₀ b₀ 1 t₀ u₀ v₀) (hsmall : Builtin.Range.small a₀ b₀ 1 = true) (hn : Builtin.Range.rangeSize a₀ b₀ 1 = (n : Int)) (F : Fr h₀ env.locals s.heap m₀) (N : News h₀ env.locals s.heap news) (h0 : S 0 m₀ news)
    (turn : ∀ i t it I m nw h tk, i < n → S i m nw → (∀ p ∈ news, p.1 < I) → (∀ p ∈ nw, p.1 ≠ I) → Fr h₀ env.locals h (fun y => if y = x then some (.int (a₀ + (i : Int)) t) else m y) → News h₀ env.locals h ((I, it) :: nw) →
      wpAny (model prog w) A (execs body env) (UnrPost h₀ env.locals { s with heap := h, toks := tk } I it (S (i + 1)) Q) E { s with heap := h, toks := tk })
    (done : ∀ m nw h tk, S n m nw → Fr h₀ env.locals h m → News h₀ env.locals h nw → Q .next { s with heap := h, toks := tk }) :
    wpAny (model prog w) A (pyIter (.ref r)) (fun it s₂ => LoopAtV prog w A h₀ env x body Q E it s₂) E s := by
  refine iter_rangeUnr hh hr hsmall hn F N fun I hI => ?_
  suffices h : ∀ k i m nw, i + k = n → S i m nw → (∀ p ∈ nw, p.1 ≠ I) → RangeRest prog w A E h₀ env x body Q s I a₀ n k i m nw from h n 0 _ _ (Nat.zero_add n) h0 fun p hp => Nat.ne_of_lt (hI p hp)
  intro k
  induction k with
  | zero =>
    intro i m nw e hS ho
    have e' : i = n := by omega
    subst e'
    exact RangeRest.zero fun h tk F' N' => done m nw h tk hS F' N'
  | succ k ih =>
    intro i m nw e hS ho
    refine RangeRest.succ fun t h tk F' N' => ?_
    refine wpAny_mono (turn i t _ I m nw h tk (by omega) hS hI ho F' N') (fun f s₂ p => ?_) fun _ _ q => q
    have go : ∀ it, UnrEnd h₀ env.locals { s with heap := h, toks := tk } I it (S (i + 1)) s₂ → UnrEnd h₀ env.locals { s with heap := h, toks := tk } I it (RangeRest prog w A E h₀ env x body Q s I a₀ n k (i + 1)) s₂ := by
      rintro it ⟨h', tk', m', n', e1, F1, N1, o1, r1⟩
      exact ⟨h', tk', m', n', e1, F1, N1, o1, ih (i + 1) m' n' (by omega) r1 o1⟩
    cases f with
    | ret v => exact p
    | brk => exact p
    | next => exact go _ p
    | cont => exact go _ p
end
end
section
section
variable {prog : Program} {w : World} {A : Around} {E : Value → Shared → Prop} {s : Shared} {h₀ : Heap} {L : Addr} {m : Str → Option Value} {news : Led}
theorem Fr.gen {h : Heap} (F : Fr h₀ L h m) : ∃ m', m' = m ∧ Fr h₀ L h m' := ⟨m, rfl, F⟩
theorem News.gen {h : Heap} (N : News h₀ L h news) : ∃ n', n' = news ∧ News h₀ L h n' := ⟨news, rfl, N⟩
theorem len_l {D : Addr} {items : List Value} {n : Nat} {Q : Value → Shared → Prop} (N : News h₀ L s.heap news) (hm : (D, listOf items.toArray n) ∈ news) (hf : items.length < 2 ^ 62)
    (h : ∀ t k, Q (.int items.length t) { s with toks := k }) : wpAny (model prog w) A (call (.builtin "len") [.ref D]) Q E s := by
  refine len_list (News.isList N hm) (by rw [List.size_toArray]; omega) ?_
  rw [List.size_toArray]
  exact h _ _
theorem len_t {D : Addr} {items : List Value} {n : Nat} {Q : Value → Shared → Prop} (N : News h₀ L s.heap news) (hm : (D, ({ cls := .type "tuple", data := .seq items.toArray n } : Obj)) ∈ news) (hf : items.length < 2 ^ 62)
    (h : ∀ t k, Q (.int items.length t) { s with toks := k }) : wpAny (model prog w) A (call (.builtin "len") [.ref D]) Q E s := by
  refine len_tuple (News.isTup N hm) (by rw [List.size_toArray]; omega) ?_
  rw [List.size_toArray]
  exact h _ _
theorem add_ll {l b : Addr} {xs ys : List Value} {i j : Nat} {Q : Value → Shared → Prop} (F : Fr h₀ L s.heap m) (N : News h₀ L s.heap news) (hl : (l, listOf xs.toArray i) ∈ news) (hb : (b, listOf ys.toArray j) ∈ news)
    (hs : xs.length + ys.length ≤ 2 ^ 20)
    (h : ∀ D h', Fr h₀ L h' m → News h₀ L h' ((D, listOf (xs ++ ys).toArray 0) :: news) → (∀ p ∈ news, p.1 < D) → Q (.ref D) { s with heap := h' }) :
    wpAny (model prog w) A (binaryOp .Add (.ref l) (.ref b)) Q E s :=
  add_arrays F N (News.isList N hl) (News.isList N hb) (fun h' F' N' => h _ h' F' N' fun p hp => Heap.lt_size (N p hp).1) (by rw [List.size_toArray, List.size_toArray]; show _ ≤ 2 ^ 24; omega)
theorem foldl_app (v : Value) : ∀ (k : Nat) (acc : Array Value), List.foldl (fun x1 x2 => x1 ++ x2) acc (List.replicate k #[v]) = acc ++ (List.replicate k v).toArray
  | 0, acc => by simp
  | k + 1, acc => by rw [List.replicate_succ, List.foldl_cons, foldl_app v k, List.replicate_succ]; apply Array.toList_inj.mp; simp
theorem mul_l1 {l : Addr} {v : Value} {k : Nat} {x : Int} {u : Tok} {Q : Value → Shared → Prop} (F : Fr h₀ L s.heap m) (N : News h₀ L s.heap news) (hl : (l, listOf #[v] k) ∈ news) (h0 : x < 2 ^ 20) (hlo : 0 ≤ x)
    (h : ∀ D h', Fr h₀ L h' m → News h₀ L h' ((D, listOf (List.replicate x.toNat v).toArray 0) :: news) → (∀ p ∈ news, p.1 < D) → Q (.ref D) { s with heap := h' }) :
    wpAny (model prog w) A (binaryOp .Mult (.ref l) (.int x u)) Q E s := by
  refine mul_list F N (N _ hl).1 (by omega) (by omega) (by show 1 * x.toNat ≤ 2 ^ 24; omega) fun h' F' N' => ?_
  refine h _ h' F' ?_ fun p hp => Heap.lt_size (N p hp).1
  have e : (if (#[v] : Array Value).isEmpty = true then 0 else x.toNat) = x.toNat := rfl
  rw [e, foldl_app, Array.empty_append] at N'
  exact N'
theorem ld_as {name : Str} {scope : Scope} {a : Addr} {cd : Value} {x : Str} {pos : Pos} {v : Value} {Q : Value → Shared → Prop} (F : Fr h₀ L s.heap m) (hv : m x = some v) (h : Q v s)
    (hk : scope.kind = .function := by rfl) (hl : (envOf name scope L a cd).kindOf x = some .local := by rfl)
    (hd : (x == ("__debug__" : Str)) = false := by decide) :
    wpAny (model prog w) A (eval (.Name x pos) (envOf name scope L a cd)) Q E s := ld F hv h hk hl hd
end
theorem allLt_mem {d : Addr} {l : Led} (h : AllLt d l) : ∀ p ∈ l, p.1 < d := by
  induction l with
  | nil => intro p hp; exact nomatch hp
  | cons x r ih =>
    intro p hp
    rcases List.mem_cons.mp hp with e | hp
    · rw [e]; exact h.1
    · exact ih h.2 p hp
theorem lookup_none {l : List (Str × Option Value)} {z : Str} (h : ∀ k ∈ l.map (·.1), z ≠ k) : l.lookup z = none := by
  induction l with
  | nil => rfl
  | cons p r ih =>
    rw [List.lookup_cons]
    have h1 : (z == p.1) = false := beq_eq_false_iff_ne.mpr (h p.1 (by simp))
    simp only [h1]
    exact ih fun k hk => h k (List.mem_cons_of_mem _ hk)
theorem upd_none {l : List (Str × Option Value)} {m : Str → Option Value} {z : Str} (h : ∀ k ∈ l.map (·.1), z ≠ k) : upd l m z = m z := by
  unfold upd; rw [lookup_none h]
noncomputable def AllAt (m : Str → Option Value) : List (Str × Option Value) → Prop
  | [] => True
  | p :: r => m p.1 = p.2 ∧ AllAt m r
theorem upd_eq {l : List (Str × Option Value)} {m m₀ : Str → Option Value} (h : AllAt m l) (ho : ∀ z, (∀ k ∈ l.map (·.1), z ≠ k) → m z = m₀ z) : m = upd l m₀ := by
  funext z
  by_cases hz : ∀ k ∈ l.map (·.1), z ≠ k
  · rw [upd_none hz]; exact ho z hz
  · unfold upd
    have key : ∀ l : List (Str × Option Value), AllAt m l → ¬ (∀ k ∈ l.map (·.1), z ≠ k) → l.lookup z = some (m z) := by
      intro l
      induction l with
      | nil => intro _ h; exact absurd (fun k hk => nomatch hk) h
      | cons p r ih =>
        intro h1 h2
        rw [List.lookup_cons]
        cases hq : z == p.1 with
        | true => rw [beq_iff_eq.mp hq]; exact congrArg some h1.1.symm
        | false =>
          refine ih h1.2 fun h3 => h2 fun k hk => ?_
          rcases List.mem_cons.mp hk with e | hk
          · rw [e]; exact beq_eq_false_iff_ne.mp hq
          · exact h3 k hk
    rw [key l h hz]
theorem sign_eq {c d : Nat} : ((⟨#[c]⟩ : Str) == ⟨#[d]⟩) = (c == d) := by
  cases hq : (c == d) with
  | true => rw [beq_iff_eq.mp hq]; exact beq_self_eq_true _
  | false => refine beq_eq_false_iff_ne.mpr fun e => beq_eq_false_iff_ne.mp hq ?_; simpa using congrArg Str.cps e
theorem sp_eq {c : Nat} : ((⟨#[c]⟩ : Str) == Str.ofString " ") = (c == 32) := by
  rw [show Str.ofString " " = ⟨#[32]⟩ from by decide +kernel]; exact sign_eq
theorem tab_eq {c : Nat} : ((⟨#[c]⟩ : Str) == Str.ofString "\t") = (c == 9) := by
  rw [show Str.ofString "\t" = ⟨#[9]⟩ from by decide +kernel]; exact sign_eq
theorem replicate_ints (t : Tok) : ∀ k : Nat, IntsAre (List.replicate k (Value.int 0 t)) (List.replicate k 0)
  | 0 => .nil
  | k + 1 => .cons 0 t (replicate_ints t k)
theorem ints_app {vs ws : List Value} {ns ms : List Int} (h : IntsAre vs ns) (k : IntsAre ws ms) : IntsAre (vs ++ ws) (ns ++ ms) := by
  induction h with
  | nil => exact k
  | cons i t _ ih => exact .cons i t ih
theorem ints_at {vs : List Value} {ns : List Int} (h : IntsAre vs ns) : ∀ {i : Nat}, i < ns.length → ∃ t, vs[i]? = some (.int (ns.getD i 0) t) := by
  induction h with
  | nil => intro i hi; exact absurd hi (Nat.not_lt_zero _)
  | cons x t _ ih =>
    intro i hi
    cases i with
    | zero => exact ⟨t, rfl⟩
    | succ i =>
      obtain ⟨t', e⟩ := ih (i := i) (by simpa using hi)
      exact ⟨t', by simpa using e⟩
theorem sub_tint {prog : Program} {w : World} {A : Around} {E : Value → Shared → Prop} {s : Shared} {h₀ : Heap} {L D : Addr} {news : Led} {value slice : Expr} {vs : List Value} {ns : List Int} {n : Nat} {k : Int} {u : Tok} {Q : Value → Shared → Prop} (N : News h₀ L s.heap news) (hm : (D, ({ cls := .type "tuple", data := .seq vs.toArray n } : Obj)) ∈ news) (hi : IntsAre vs ns) (h0 : 0 ≤ k) (h1 : k < ns.length) (hfit : k < 2 ^ 63) (h : ∀ t, Q (.int (ns.getD k.toNat 0) t) s)
    (hs : subscripted slice false (.ref D) (.int k u) = operate [.ref D, .int k u] (getItem (.ref D) (.int k u)) := by with_unfolding_all rfl) (hg : ∀ r, letTemporaryGo value (.ref D) r = pure () := by intro _; with_unfolding_all rfl) :
    wpAny (model prog w) A (subscriptTail value slice (.ref D) (.int k u)) Q E s := by
  obtain ⟨t, e⟩ := ints_at hi (i := k.toNat) (by omega)
  refine kim_tup N hm rfl rfl (by omega) hfit (j := k.toNat) ?_ e (h t) hs hg
  have l := hi.length
  unfold seqIndex?
  have e1 : ¬ k < 0 := by omega
  simp only [e1, if_false]
  rw [if_pos]
  simp only [Bool.and_eq_true, decide_eq_true_eq]
  omega
theorem dat_eq {prog : Program} {w : World} {A : Around} {E : Value → Shared → Prop} {s : Shared} {h₀ : Heap} {L : Addr} {news : Led} {a b : Value} {d e : Dat} {Q : Value → Shared → Prop} (N : News h₀ L s.heap news) (D1 : DatIn news a d) (D2 : DatIn news b e) (k1 : kqdOk 8 d = true) (k2 : kqdOk 8 e = true) (hu : A.units + 64 < cLine)
    (h : ∀ r : Bool, (r = true ↔ d = e) → Q (.bool r) s) : wpAny (model prog w) A (compareOp .Eq a b) Q E s := by
  obtain ⟨as, ra⟩ := kqd_in N 8 D1 k1
  obtain ⟨bs, rb⟩ := kqd_in N 8 D2 k2
  have la := kqd_lay 8 d k1
  have lb := kqd_lay 8 e k2
  refine eq_dataH ra rb ?_ ?_ hu (h _ (kqd_eqv 8 d e 8 k1 k2))
  · unfold SeqAt.shaped; rw [la.1, Bool.true_and]; exact decide_eq_true (Nat.le_trans la.2 (by decide))
  · unfold SeqAt.shaped; rw [lb.1, Bool.true_and]; exact decide_eq_true (Nat.le_trans lb.2 (by decide))
theorem dat_ne {prog : Program} {w : World} {A : Around} {E : Value → Shared → Prop} {s : Shared} {h₀ : Heap} {L : Addr} {news : Led} {a b : Value} {d e : Dat} {Q : Value → Shared → Prop} (N : News h₀ L s.heap news) (D1 : DatIn news a d) (D2 : DatIn news b e) (k1 : kqdOk 8 d = true) (k2 : kqdOk 8 e = true) (hu : A.units + 64 < cLine)
    (h : ∀ r : Bool, (r = true ↔ d ≠ e) → Q (.bool r) s) : wpAny (model prog w) A (compareOp .NotEq a b) Q E s := by
  obtain ⟨as, ra⟩ := kqd_in N 8 D1 k1
  obtain ⟨bs, rb⟩ := kqd_in N 8 D2 k2
  have la := kqd_lay 8 d k1
  have lb := kqd_lay 8 e k2
  refine ne_dataH ra rb ?_ ?_ hu (h _ ?_)
  · unfold SeqAt.shaped; rw [la.1, Bool.true_and]; exact decide_eq_true (Nat.le_trans la.2 (by decide))
  · unfold SeqAt.shaped; rw [lb.1, Bool.true_and]; exact decide_eq_true (Nat.le_trans lb.2 (by decide))
  · have q := kqd_eqv 8 d e 8 k1 k2
    rw [Bool.not_eq_true', ← Bool.not_eq_true, q]
theorem dat_ints {news : Led} {vs : List Value} {ns : List Int} (h : IntsAre vs ns) : DatAll news vs (ns.map .int) := by
  induction h with
  | nil => exact .nil
  | cons i t _ ih => exact .cons (.int i t) ih
theorem ok_ints {n : Nat} {ns : List Int} : (ns.map Dat.int).all (kqdOk n) = true := by
  induction ns with
  | nil => rfl
  | cons i r ih => rw [List.map_cons, List.all_cons, ih]; cases n <;> rfl
theorem int_inj {ns ms : List Int} : ns.map Dat.int = ms.map Dat.int ↔ ns = ms :=
  List.map_inj_right fun _ _ e => Dat.int.inj e
theorem allNe {D : Addr} {l : Led} (h : ∀ p ∈ l, p.1 < D) : ∀ p ∈ l, p.1 ≠ D := fun p hp => Nat.ne_of_lt (h p hp)
theorem allNeS {D : Addr} {l : Led} (h : ∀ p ∈ l, p.1 < D) : ∀ p ∈ l, p.1 ≠ D + 1 := fun p hp => Nat.ne_of_lt (Nat.lt_succ_of_lt (h p hp))
theorem room2 {d a b n R : Nat} (h : d + n < R) (e : Nat.ble (a + b) n = true) : d + a + b < R := by
  rw [Nat.add_assoc]; exact Nat.lt_of_le_of_lt (Nat.add_le_add_left (Nat.le_of_ble_eq_true e) d) h
theorem room3 {d a b c n R : Nat} (h : d + n < R) (e : Nat.ble (a + b + c) n = true) : d + a + b + c < R := by
  rw [Nat.add_assoc d, Nat.add_assoc d]; exact Nat.lt_of_le_of_lt (Nat.add_le_add_left (Nat.le_of_ble_eq_true e) d) h
theorem room1 {d a n R : Nat} (h : d + n < R) (e : Nat.ble a n = true) : d + a < R := Nat.lt_of_le_of_lt (Nat.add_le_add_left (Nat.le_of_ble_eq_true e) d) h
theorem fit_ll {x c d : Nat} (h : x < c) (e : Nat.ble c d = true) : x < d := Nat.lt_of_lt_of_le h (Nat.le_of_ble_eq_true e)
theorem fit_lle {x c d : Nat} (h : x < c) (e : Nat.ble c d = true) : x ≤ d := Nat.le_of_lt (Nat.lt_of_lt_of_le h (Nat.le_of_ble_eq_true e))
theorem fit_el {x c d : Nat} (h : x ≤ c) (e : Nat.ble (c + 1) d = true) : x < d := Nat.lt_of_le_of_lt h (Nat.le_of_ble_eq_true e)
theorem fit_ee {x c d : Nat} (h : x ≤ c) (e : Nat.ble c d = true) : x ≤ d := Nat.le_trans h (Nat.le_of_ble_eq_true e)
end
section
local macro_rules | `(tactic| k_room) => `(tactic| ((try simp only [depth_mark, depth_under_make, depth_under_kw, depth_in1, depth_deeper, depth_caller]); (try dsimp only [ktrTop]); first | exact Mine.room2 (by assumption) rfl | exact Mine.room1 (by assumption) rfl | exact Mine.room3 (by assumption) rfl | omega))
local macro_rules | `(tactic| k_units) => `(tactic| ((try simp only [units_under_make, units_in1, units_deeper, Around.mark_units, units_caller]); (try dsimp only [ktrTop]); first | exact Mine.room2 (by assumption) rfl | exact Mine.room3 (by assumption) rfl | omega))
local macro_rules | `(tactic| walk_at "my news") => `(tactic| first | k_asm | (refine cb_drop (by k_asm) ?_; walk_at "my sub"))
local macro_rules | `(tactic| walk_at "pyIter str") => `(tactic| refine Mine.halt ?_)
local macro_rules | `(tactic| walk_at "pyIter ref") => `(tactic| refine Mine.halt ?_)
local macro_rules | `(tactic| walk_at "my fit") => `(tactic| first | exact Mine.fit_ll (by with_reducible assumption) rfl | exact Mine.fit_lle (by with_reducible assumption) rfl | exact Mine.fit_el (by with_reducible assumption) rfl | exact Mine.fit_ee (by with_reducible assumption) rfl | omega | (simp only [List.length_append, List.length_replicate, List.length_set, List.length_cons, List.length_nil]; omega) | (simp; omega))
local macro_rules | `(tactic| walk_at "call builtin:len") => `(tactic| (k_here; (with_reducible show wpAny _ _ (call (Value.builtin "len") [Value.ref _]) _ _ _); k_dflt (first | (refine' Mine.len_l ?k1 ?k2 ?k3 ?_; (case k1 => k_asm); (case k2 => k_mem); (case k3 => walk_at "my fit"); k_whole) | (refine' Mine.len_t ?k1 ?k2 ?k3 ?_; (case k1 => k_asm); (case k2 => k_mem); (case k3 => walk_at "my fit"); k_whole)); intro _ _))
local macro_rules | `(tactic| walk_at "binaryOp Add ref ref") => `(tactic| (k_here; (with_reducible show wpAny _ _ (binaryOp _ (Value.ref _) (Value.ref _)) _ _ _); k_dflt (refine' Mine.add_ll ?k1 ?k2 ?k3 ?k4 ?k5 ?_; (case k1 | k2 => k_asm); (case k3 | k4 => k_mem); (case k5 => walk_at "my fit"); k_whole); intro D' h' F' N' l1; (try k_lt l1); (try k_sweep)))
local macro_rules | `(tactic| walk_at "binaryOp Mult ref int") => `(tactic| (k_here; (with_reducible show wpAny _ _ (binaryOp _ (Value.ref _) (Value.int _ _)) _ _ _); k_dflt (refine' Mine.mul_l1 ?k1 ?k2 ?k3 ?k4 ?k5 ?_; (case k1 | k2 => k_asm); (case k3 => k_mem); (case k4 | k5 => walk_at "my fit"); k_whole); intro D' h' F' N' l1; (try k_lt l1); (try k_sweep)))
local macro_rules | `(tactic| walk_at "eval Name") => `(tactic| (k_here; k_dflt (refine' Mine.ld_as ?k1 ?k2 ?_; (case k1 => k_asm); (case k2 => assumption); k_whole)))
local macro_rules | `(tactic| walk_at "my lt") => `(tactic| first | with_reducible assumption | exact Mine.allLt_mem (by walk_at "my allLt"))
local macro_rules | `(tactic| k_all) => `(tactic| first | with_reducible assumption | exact Mine.allNe (by walk_at "my lt") | exact Mine.allNeS (by walk_at "my lt"))
local macro_rules | `(tactic| walk_at "my ints") => `(tactic| first | with_reducible assumption | exact Mine.ints_app (by assumption) (Mine.replicate_ints _ _) | exact Mine.replicate_ints _ _ | exact ints_set (by assumption) _ | exact ints_set (Mine.ints_app (by assumption) (Mine.replicate_ints _ _)) _)
local macro_rules | `(tactic| walk_at "my ne") => `(tactic| first | assumption | (refine Ne.symm ?_; assumption) | (refine neN ?_; (try dsimp only); omega))
local macro_rules | `(tactic| walk_at "my upd") => `(tactic| first | (refine' Upd.head ?a; (case a => k_all)) | (refine' Upd.tail ?a ?b; (case a => walk_at "my ne"); (case b => walk_at "my upd")))
local macro_rules | `(tactic| walk_at "setItem ref int") => `(tactic| (k_here; (with_reducible show wpAny _ _ (setItem (Value.ref _) (Value.int _ _) (Value.int _ _)) _ _ _); k_dflt (refine' ksa_set ?k1 ?k2 ?k3 ?k4 ?k5 ?k6 ?k7 ?_; (case k1 | k2 => k_asm); (case k3 => walk_at "my upd"); (case k4 => walk_at "my ints"); (case k5 | k6 | k7 => walk_at "my fit"); k_whole); intro h' F' N' hi' hl' _; (try k_sweep)))
local macro_rules | `(tactic| walk_at "subscriptTail") => `(tactic| (k_here; (with_reducible show wpAny _ _ (subscriptTail _ _ (Value.ref _) (Value.int _ _)) _ _ _); k_dflt (refine' ksa_sub ?k1 ?k2 ?k3 ?k4 ?k5 ?k6 ?_ ?k7; (case k1 => k_asm); (case k2 => k_mem); (case k3 => walk_at "my ints"); (case k4 | k5 | k6 => walk_at "my fit"); (case k7 => with_unfolding_all rfl); k_whole); intro _))
local macro_rules | `(tactic| walk_at "BPost") => `(tactic| dsimp only [Mine.BPost])
local macro_rules | `(tactic| walk_at "my map") => `(tactic| (refine' Mine.upd_eq ?ma ?mb; (case ma => repeat (first | exact True.intro | refine And.intro (by first | exact rfl | assumption) ?_)); (case mb => (intro z hz; (try dsimp only); repeat (first | exact Mine.upd_none hz | exact rfl | refine Eq.trans (if_neg (hz _ (by k_memK))) ?_)))))
local macro_rules | `(tactic| walk_at "my allLt") => `(tactic| first | assumption | exact (by assumption : _ ∧ AllLt _ _).2 | exact (by assumption : _ ∧ _ ∧ AllLt _ _).2.2 | exact (by assumption : _ ∧ _ ∧ _ ∧ AllLt _ _).2.2.2 | exact (by assumption : _ ∧ _ ∧ _ ∧ _ ∧ AllLt _ _).2.2.2.2 | exact (by assumption : _ ∧ _ ∧ _ ∧ _ ∧ _ ∧ AllLt _ _).2.2.2.2.2 | exact (by assumption : _ ∧ _ ∧ _ ∧ _ ∧ _ ∧ _ ∧ AllLt _ _).2.2.2.2.2.2)
local macro_rules | `(tactic| walk_at "my sub") => `(tactic| first | exact List.forall_mem_nil _ | (refine List.forall_mem_cons.mpr ⟨?_, ?_⟩; k_mem; walk_at "my sub") | (intro p hp; (repeat (first | exact hp | refine Mine.drop_tail ?_)); done))
local macro_rules | `(tactic| walk_at "call type:tuple") => `(tactic| (k_here; (with_reducible show wpAny _ _ (call (Value.type _) [Value.ref _]) _ _ _); k_dflt (refine' kde_tupleOf ?k1 ?k2 ?k3 ?k4 ?k5 ?_; (case k1 | k2 => k_asm); (case k3 => exact News.isList (by k_asm) (by k_mem)); (case k4 => rw [List.size_toArray]; walk_at "my fit"); (case k5 => exact rfl); k_whole); intro D' h' F' N' l1; (try k_lt l1); (try k_sweep)))
local macro_rules | `(tactic| k_mem) => `(tactic| first | exact List.Mem.head _ | with_reducible assumption | (refine Mine.drop_tail ?_; k_mem))
local macro_rules | `(tactic| walk_at "subscriptTail") => `(tactic| (k_here; (with_reducible show wpAny _ _ (subscriptTail _ _ (Value.ref _) (Value.int _ _)) _ _ _); k_dflt (refine' Mine.sub_tint ?k1 ?k2 ?k3 ?k4 ?k5 ?k6 ?_ ?k7 ?k8; (case k1 => k_asm); (case k2 => k_mem); (case k3 => walk_at "my ints"); (case k4 | k5 | k6 => walk_at "my fit"); (case k7 => with_unfolding_all rfl); (case k8 => (intro _; with_unfolding_all rfl)); k_whole); intro _))
section
open PySem.Builtin PySem.Builtin.Str in
noncomputable def find4 (x y : Str) (i j : Int) : Int := match occurrences x y (fromIndex x.length i) (min (fromIndex x.length j) x.length) 1 with | k :: _ => (k : Int) | [] => -1
open PySem.Builtin PySem.Builtin.Str in
noncomputable def rfind4 (x y : Str) (i j : Int) : Int := match lastOccurrence x y (fromIndex x.length i) (min (fromIndex x.length j) x.length) with | some k => (k : Int) | none => -1
open PySem.Builtin PySem.Builtin.Str in
theorem gives_find4 (x y : Str) (i j : Int) (t u v z : Tok) : Gives («str.find» ⟨[.str x t, .str y u, .int i v, .int j z], []⟩) (.int (find4 x y i j)) := by
  unfold find4
  show Gives (match occurrences x y (fromIndex x.length i) (min (fromIndex x.length j) x.length) 1 with | k :: _ => retInt k | [] => (do rule "str.find.not-found"; retInt (-1))) _
  cases occurrences x y (fromIndex x.length i) (min (fromIndex x.length j) x.length) 1 with
  | nil => exact .rule (.of_eq rfl)
  | cons k _ => exact .of_eq rfl
open PySem.Builtin PySem.Builtin.Str in
theorem gives_rfind4 (x y : Str) (i j : Int) (t u v z : Tok) : Gives («str.rfind» ⟨[.str x t, .str y u, .int i v, .int j z], []⟩) (.int (rfind4 x y i j)) := by
  unfold rfind4
  show Gives (match lastOccurrence x y (fromIndex x.length i) (min (fromIndex x.length j) x.length) with | some k => retInt k | none => (do rule "str.rfind.not-found"; retInt (-1))) _
  cases lastOccurrence x y (fromIndex x.length i) (min (fromIndex x.length j) x.length) with
  | none => exact .rule (.of_eq rfl)
  | some k => exact .of_eq rfl
theorem call_find4 {prog : Program} {w : World} {A : Around} {E : Value → Shared → Prop} {s : Shared} {x y : Str} {t u v z : Tok} {i j : Int} {Q : Value → Shared → Prop} (hq : Q (.int (find4 x y i j) s.toks) { s with toks := s.toks + 1 }) :
    wpAny (model prog w) A (call (.builtin "str.find") [.str x t, .str y u, .int i v, .int j z]) Q E s :=
  call_gives F.slot_str_find (typeIs_str _ _ _) F.entry_str_find (F.args_str_find_4 _ _ _ _) (gives_find4 x y i j t u v z) hq
theorem call_rfind4 {prog : Program} {w : World} {A : Around} {E : Value → Shared → Prop} {s : Shared} {x y : Str} {t u v z : Tok} {i j : Int} {Q : Value → Shared → Prop} (hq : Q (.int (rfind4 x y i j) s.toks) { s with toks := s.toks + 1 }) :
    wpAny (model prog w) A (call (.builtin "str.rfind") [.str x t, .str y u, .int i v, .int j z]) Q E s :=
  call_gives F.slot_str_rfind (typeIs_str _ _ _) F.entry_str_rfind (F.args_str_rfind_4 _ _ _ _) (gives_rfind4 x y i j t u v z) hq
theorem find4_low (x y : Str) (i j : Int) : -1 ≤ find4 x y i j := by
  unfold find4; split <;> omega
theorem rfind4_low (x y : Str) (i j : Int) : -1 ≤ rfind4 x y i j := by
  unfold rfind4; split <;> omega
local macro_rules | `(tactic| walk_at "call builtin:str.find") => `(tactic| (k_here; (with_reducible show wpAny _ _ (call (Value.builtin _) [Value.str _ _, Value.str _ _, Value.int _ _, Value.int _ _]) _ _ _); refine call_find4 ?_))
local macro_rules | `(tactic| walk_at "call builtin:str.rfind") => `(tactic| (k_here; (with_reducible show wpAny _ _ (call (Value.builtin _) [Value.str _ _, Value.str _ _, Value.int _ _, Value.int _ _]) _ _ _); refine call_rfind4 ?_))

noncomputable def commentV (line : Str) : Str := if (Txt.rstrip line).length = 0 then Str.ofString "#" else Str.ofString "# " ++ Txt.rstrip line
set_option maxHeartbeats 4000000 in
theorem comment_s (e : Env0) (news : Led) (line : Str) (t : Tok) (hl : line.length < 1000) :
    Spec e 20 45 [.str line t] news (fun v n => n = news ∧ ∃ t, v = .str (commentV line) t) := by
  obtain ⟨w, p, loose, mean, mg, mb⟩ := e
  unfold Spec
  dsimp only
  k_fill
  intro dp un gd cn ns ig ic mo a ccd cl outer A₀ base h₀ L m s Q E B F X N T hd hu hret
  k_steps
  all_goals refine hret _ _ _ _ (by k_asm) (by k_asm) ?_
  · unfold commentV
    rw [if_neg (by omega)]
    exact ⟨rfl, _, rfl⟩
  · unfold commentV
    rw [if_pos (by omega)]
    exact ⟨rfl, _, rfl⟩

noncomputable def stripE (msg : Str) : Int := if 0 ≤ Txt.find msg (Str.ofString "\n") then Txt.find msg (Str.ofString "\n") else (msg.length : Int)
noncomputable def stripL (msg : Str) : Int := if 0 ≤ find4 msg (Str.ofString ":") 0 (stripE msg) then find4 msg (Str.ofString ":") 0 (stripE msg) else stripE msg
noncomputable def stripS (msg : Str) : Int := if 0 ≤ rfind4 msg (Str.ofString ".") 0 (stripL msg) then rfind4 msg (Str.ofString ".") 0 (stripL msg) + 1 else 0
noncomputable def stripV (msg : Str) : Str := Txt.slice msg (some (stripS msg)) (some (stripL msg))
theorem strip_e {msg : Str} {r : Int} (hr : (0 ≤ Txt.find msg (Str.ofString "\n") ∧ r = Txt.find msg (Str.ofString "\n")) ∨ (¬ 0 ≤ Txt.find msg (Str.ofString "\n") ∧ r = (msg.length : Int))) : r = stripE msg := by
  unfold stripE
  rcases hr with ⟨h1, h2⟩ | ⟨h1, h2⟩
  · rw [if_pos h1, h2]
  · rw [if_neg h1, h2]
theorem strip_1 {msg : Str} (h1 : 0 ≤ find4 msg (Str.ofString ":") 0 (stripE msg)) (h2 : 0 ≤ rfind4 msg (Str.ofString ".") 0 (find4 msg (Str.ofString ":") 0 (stripE msg))) :
    Txt.slice msg (some (rfind4 msg (Str.ofString ".") 0 (find4 msg (Str.ofString ":") 0 (stripE msg)) + 1)) (some (find4 msg (Str.ofString ":") 0 (stripE msg))) = stripV msg := by
  simp only [stripV, stripS, stripL, if_pos h1, if_pos h2]
theorem strip_2 {msg : Str} (h1 : 0 ≤ find4 msg (Str.ofString ":") 0 (stripE msg)) (h2 : ¬ 0 ≤ rfind4 msg (Str.ofString ".") 0 (find4 msg (Str.ofString ":") 0 (stripE msg))) :
    Txt.slice msg (some 0) (some (find4 msg (Str.ofString ":") 0 (stripE msg))) = stripV msg := by
  simp only [stripV, stripS, stripL, if_pos h1, if_neg h2]
theorem strip_3 {msg : Str} (h1 : ¬ 0 ≤ find4 msg (Str.ofString ":") 0 (stripE msg)) (h2 : 0 ≤ rfind4 msg (Str.ofString ".") 0 (stripE msg)) :
    Txt.slice msg (some (rfind4 msg (Str.ofString ".") 0 (stripE msg) + 1)) (some (stripE msg)) = stripV msg := by
  simp only [stripV, stripS, stripL, if_neg h1, if_pos h2]
theorem strip_4 {msg : Str} (h1 : ¬ 0 ≤ find4 msg (Str.ofString ":") 0 (stripE msg)) (h2 : ¬ 0 ≤ rfind4 msg (Str.ofString ".") 0 (stripE msg)) :
    Txt.slice msg (some 0) (some (stripE msg)) = stripV msg := by
  simp only [stripV, stripS, stripL, if_neg h1, if_neg h2]
set_option maxHeartbeats 4000000 in
theorem strip_s (e : Env0) (news : Led) (msg : Str) (t : Tok) (hl : msg.length < 1000) :
    Spec e 20 52 [.str msg t] news (fun v n => n = news ∧ ∃ t, v = .str (stripV msg) t) := by
  obtain ⟨w, p, loose, mean, mg, mb⟩ := e
  unfold Spec
  dsimp only
  k_fill
  intro dp un gd cn ns ig ic mo a ccd cl outer A₀ base h₀ L m s Q E B F X N T hd hu hret
  k_steps
  all_goals (
    rename (_ ∨ _) => hr
    obtain rfl := strip_e hr
    refine hret _ _ _ news (by k_asm) (by walk_at "my news") ⟨rfl, ?_⟩)
  · exact ⟨_, congrArg (fun x => Value.str x _) (strip_1 (msg := msg) (by assumption) (by assumption))⟩
  · exact ⟨_, congrArg (fun x => Value.str x _) (strip_2 (msg := msg) (by assumption) (by assumption))⟩
  · exact ⟨_, congrArg (fun x => Value.str x _) (strip_3 (msg := msg) (by assumption) (by assumption))⟩
  · exact ⟨_, congrArg (fun x => Value.str x _) (strip_4 (msg := msg) (by assumption) (by assumption))⟩
end
section
structure WsSt where
  count : List Int
  b : Int
  n : Int
  nt : Int
noncomputable def WsSt.bump (count : List Int) (b : Nat) : List Int :=
  (if b < count.length then count else count ++ List.replicate (b - count.length + 1) 0).set b ((if b < count.length then count else count ++ List.replicate (b - count.length + 1) 0).getD b 0 + 1)
noncomputable def WsSt.step (s : WsSt) (c : Nat) : WsSt := if c = 32 then { s with n := s.n + 1, b := s.b + 1 } else { count := WsSt.bump s.count s.b.toNat, b := 0, n := s.n + 1, nt := s.nt + 1 }
noncomputable def WsSt.of (l : List Nat) : WsSt := l.foldl WsSt.step ⟨[], 0, 0, 0⟩
noncomputable def wsS (m₀ : Str → Option Value) (base : Led) (pre : List Nat) (m : Str → Option Value) (n : Led) : Prop :=
  ∃ (c : Addr) (u : Option Value) (tb tn tt : Tok) (k : Nat) (vs : List Value), m = upd [(Str.ofString "ch", u), (Str.ofString "b", some (.int (WsSt.of pre).b tb)), (Str.ofString "n", some (.int (WsSt.of pre).n tn)), (Str.ofString "nt", some (.int (WsSt.of pre).nt tt)), (Str.ofString "count", some (.ref c))] m₀ ∧
    n = (c, listOf vs.toArray k) :: base ∧ (∀ p ∈ base, p.1 < c) ∧ IntsAre vs (WsSt.of pre).count ∧ 0 ≤ (WsSt.of pre).b ∧ (WsSt.of pre).b ≤ pre.length ∧ (WsSt.of pre).count.length ≤ pre.length ∧ ∀ x ∈ pre, x = 32 ∨ x = 9
theorem wsS_mk {m₀ : Str → Option Value} {base : Led} {pre : List Nat} {m : Str → Option Value} {n : Led} (st : WsSt) (hst : WsSt.of pre = st) (c : Addr) {u : Option Value} {tb tn tt : Tok} (k : Nat) (vs : List Value)
    (hm : m = upd [(Str.ofString "ch", u), (Str.ofString "b", some (.int st.b tb)), (Str.ofString "n", some (.int st.n tn)), (Str.ofString "nt", some (.int st.nt tt)), (Str.ofString "count", some (.ref c))] m₀)
    (hn : n = (c, listOf vs.toArray k) :: base) (o : ∀ p ∈ base, p.1 < c) (hi : IntsAre vs st.count) (b0 : 0 ≤ st.b) (b1 : st.b ≤ pre.length) (c1 : st.count.length ≤ pre.length) (all : ∀ x ∈ pre, x = 32 ∨ x = 9) : wsS m₀ base pre m n := by
  subst hst
  exact ⟨c, u, tb, tn, tt, k, vs, hm, hn, o, hi, b0, b1, c1, all⟩
theorem wsS_start {m₀ : Str → Option Value} {base : Led} {c : Addr} {tb tn tt : Tok} (h1 : m₀ (Str.ofString "b") = some (.int 0 tb)) (h2 : m₀ (Str.ofString "n") = some (.int 0 tn)) (h3 : m₀ (Str.ofString "nt") = some (.int 0 tt))
    (h4 : m₀ (Str.ofString "count") = some (.ref c)) (hb : ∀ p ∈ base, p.1 < c) : wsS m₀ base [] m₀ ((c, listOf #[] 0) :: base) := by
  refine ⟨c, m₀ (Str.ofString "ch"), tb, tn, tt, 0, [], ?_, rfl, hb, .nil, Int.le_refl _, Int.le_refl _, Nat.le_refl _, fun _ h => nomatch h⟩
  funext z
  unfold upd
  have e : ∀ (k : Str) (o : Option Value) (l : List (Str × Option Value)), m₀ k = o → (m₀ z = match l.lookup z with | some o => o | none => m₀ z) → m₀ z = match ((k, o) :: l).lookup z with | some o => o | none => m₀ z := by
    intro k o l h1 h2
    rw [List.lookup_cons]
    cases hq : z == k with
    | true => rw [beq_iff_eq.mp hq]; exact h1
    | false => exact h2
  exact e _ _ _ rfl (e _ _ _ h1 (e _ _ _ h2 (e _ _ _ h3 (e _ _ _ h4 rfl))))

theorem WsSt.of_snoc (pre : List Nat) (c : Nat) : WsSt.of (pre ++ [c]) = (WsSt.of pre).step c := by
  unfold WsSt.of; rw [List.foldl_append]; rfl
theorem bump_in {count : List Int} {b : Int} (h0 : 0 ≤ b) (h : ¬ (count.length : Int) ≤ b) : WsSt.bump count b.toNat = count.set b.toNat (count.getD b.toNat 0 + 1) := by
  unfold WsSt.bump; rw [if_pos (by omega)]
theorem bump_out {count : List Int} {b : Int} {n : Nat} (hn : n = count.length) (h0 : 0 ≤ b) (h : (n : Int) ≤ b) :
    WsSt.bump count b.toNat = (count ++ List.replicate (b - (n : Int) + 1).toNat 0).set b.toNat ((count ++ List.replicate (b - (n : Int) + 1).toNat 0).getD b.toNat 0 + 1) := by
  unfold WsSt.bump; rw [if_neg (by omega)]
  have : (b - (n : Int) + 1).toNat = b.toNat - count.length + 1 := by omega
  rw [this]
theorem bump_len {count : List Int} {b : Nat} : (WsSt.bump count b).length ≤ max count.length (b + 1) := by
  unfold WsSt.bump
  rw [List.length_set]
  split
  · omega
  · rw [List.length_append, List.length_replicate]; omega
theorem snoc_all {pre : List Nat} {c : Nat} (all : ∀ x ∈ pre, x = 32 ∨ x = 9) (hc : c = 32 ∨ c = 9) : ∀ x ∈ pre ++ [c], x = 32 ∨ x = 9 := by
  intro x hx
  rcases List.mem_append.mp hx with hx | hx
  · exact all x hx
  · rw [List.mem_singleton.mp hx]; exact hc
theorem takeWhile_brk {l pre post : List Nat} {c : Nat} (e : l = pre ++ c :: post) (all : ∀ x ∈ pre, x = 32 ∨ x = 9) (h1 : c ≠ 32) (h2 : c ≠ 9) : (l.takeWhile fun c => c = 32 ∨ c = 9) = pre := by
  subst e
  rw [List.takeWhile_append_of_pos (by intro a ha; simpa using all a ha), List.takeWhile_cons_of_neg (by simp [h1, h2]), List.append_nil]
theorem takeWhile_all {l : List Nat} (all : ∀ x ∈ l, x = 32 ∨ x = 9) : (l.takeWhile fun c => c = 32 ∨ c = 9) = l := by
  have h := List.takeWhile_append_of_pos (p := fun c : Nat => decide (c = 32 ∨ c = 9)) (l₁ := l) (l₂ := []) (by intro a ha; simpa using all a ha)
  simpa using h
noncomputable def wsOf (ws : Str) : WsSt := WsSt.of (ws.cps.toList.takeWhile fun c => c = 32 ∨ c = 9)
@[reducible] def wsDict (p : Params) (s : WsSt) (raw : Str) (nm : Addr) (t1 t2 t3 t4 t5 t6 t7 t8 : Tok) : Obj :=
  dictOf [⟨PyData.keyHash p (Str.ofString "raw"), .str (Str.ofString "raw") t1, .str raw t6⟩, ⟨PyData.keyHash p (Str.ofString "n"), .str (Str.ofString "n") t2, .int s.n t7⟩, ⟨PyData.keyHash p (Str.ofString "nt"), .str (Str.ofString "nt") t3, .int s.nt t8⟩,
    ⟨PyData.keyHash p (Str.ofString "norm"), .str (Str.ofString "norm") t4, .ref nm⟩, ⟨PyData.keyHash p (Str.ofString "is_simple"), .str (Str.ofString "is_simple") t5, .bool (decide ((s.count.length : Int) ≤ 1))⟩] 5
/-- a Whitespace: its parts, newest first -/
noncomputable def IsWs (p : Params) (s : WsSt) (news : Led) (v : Value) (n : Led) : Prop :=
  ∃ (x d nm ct : Addr) (raw : Str) (vs : List Value) (t1 t2 t3 t4 t5 t6 t7 t8 t9 : Tok), v = .ref x ∧ n = (nm, { cls := .type "tuple", data := .seq #[.ref ct, .int s.b t9] }) :: (ct, { cls := .type "tuple", data := .seq vs.toArray }) :: (x, instObj 114 d) :: (d, wsDict p s raw nm t1 t2 t3 t4 t5 t6 t7 t8) :: news ∧
    IntsAre vs s.count ∧ (∀ p ∈ news, p.1 < d) ∧ @LT.lt Nat _ d x ∧ @LT.lt Nat _ x ct ∧ @LT.lt Nat _ ct nm
theorem IsWs.mk {p : Params} {s : WsSt} {news : Led} {x d nm ct : Addr} {raw : Str} {vs : List Value} {t1 t2 t3 t4 t5 t6 t7 t8 t9 : Tok} (hi : IntsAre vs s.count) (l2 : ∀ p ∈ news, p.1 < d) (l1 : @LT.lt Nat _ d x) (l3 : @LT.lt Nat _ x ct) (l4 : @LT.lt Nat _ ct nm) :
    IsWs p s news (.ref x) ((nm, { cls := .type "tuple", data := .seq #[.ref ct, .int s.b t9] }) :: (ct, { cls := .type "tuple", data := .seq vs.toArray }) :: (x, instObj 114 d) :: (d, wsDict p s raw nm t1 t2 t3 t4 t5 t6 t7 t8) :: news) :=
  ⟨x, d, nm, ct, raw, vs, t1, t2, t3, t4, t5, t6, t7, t8, t9, rfl, rfl, hi, l2, l1, l3, l4⟩
set_option maxHeartbeats 4000000 in
theorem ws_s (e : Env0) (news : Led) (ws : Str) (t : Tok) (hl : ws.length < 1000) : Spec e 20 114 [.str ws t] news (IsWs e.w.params (wsOf ws) news) := by
  obtain ⟨w, p, loose, mean, mg, mb⟩ := e
  unfold Spec
  dsimp only
  k_fill
  intro dp un gd cn ns ig ic mo a ccd cl outer A₀ base h₀ L m s Q E B F X N T hd hu hret
  k_steps
  unfold Halt
  rename Fr _ _ _ _ => F9
  rename News _ _ _ _ => N9
  obtain ⟨m₀, em, F9⟩ := Fr.gen F9
  obtain ⟨c₀, xs, ds, tr, base, ec, q3, eb, hb, l1, l2, N9⟩ : ∃ (c₀ xs ds : Addr) (tr : Tok) (base : Led), m₀ (Str.ofString "count") = some (.ref c₀) ∧ m₀ (Str.ofString "self") = some (Value.ref xs) ∧
      base = (xs, instObj 114 ds) :: (ds, dictOf [⟨PyData.keyHash w.params (Str.ofString "raw"), .str (Str.ofString "raw") tr, .str ws t⟩] 1) :: news ∧ AllLt c₀ base ∧ @LT.lt Nat _ ds xs ∧ (∀ p ∈ news, p.1 < ds) ∧ News _ _ _ ((c₀, listOf #[] 0) :: base) :=
    by
      refine' ⟨_, _, _, _, _, ?h1, ?h2, ?h3, ?h4, ?h5, ?h6, ?h7⟩
      case h1 => rw [em]; rfl
      case h2 => rw [em]; rfl
      case h3 => exact rfl
      case h7 => exact cb_drop N9 (by walk_at "my sub")
      case h5 => assumption
      case h6 => assumption
      case h4 => (simp only [AllLt]; exact ⟨by omega, by omega, by walk_at "my allLt"⟩)
  have q5 := q3
  rw [em] at q5
  replace q5 := Value.ref.inj (Option.some.inj q5)
  subst q5
  obtain ⟨ts, q1⟩ : ∃ t, m₀ (Str.ofString "S") = some (Value.str (Str.ofString " ") t) := ⟨_, by rw [em]; rfl⟩
  obtain ⟨tt, q2⟩ : ∃ t, m₀ (Str.ofString "T") = some (Value.str (Str.ofString "\t") t) := ⟨_, by rw [em]; rfl⟩
  refine iter_strB (wsS m₀ base) (wsS m₀ base (ws.cps.toList.takeWhile fun c => c = 32 ∨ c = 9)) (by rfl) F9 N9 (wsS_start (by rw [em]; rfl) (by rw [em]; rfl) (by rw [em]; rfl) ec (allLt_mem hb)) ?_ ?_ ?_
  · clear F9 N9
    rintro m n h tk ⟨c, u', tb, tn, tt', k, vs, rfl, rfl, o1, hi, b0, b1, c1, all⟩ F8 N8
    have o2 : ∀ p ∈ base, p.1 ≠ c := fun p hp => Nat.ne_of_lt (o1 p hp)
    have o6 := hi.length
    subst eb
    have o7 : ∀ p ∈ news, p.1 ≠ ds := fun p hp => Nat.ne_of_lt (l2 p hp)
    have o8 := allLt_of o1
    simp only [AllLt] at o8
    have o9 : (ws.cps.toList.takeWhile fun c => c = 32 ∨ c = 9).length < 1000 := Nat.lt_of_le_of_lt (List.takeWhile_sublist _).length_le (by rw [Array.length_toList]; exact hl)
    k_steps
    rename Fr _ _ _ _ => F7
    rename News _ _ _ _ => N7
    rw [o6] at N7
    refine' hret _ _ _ _ F7 ?a2 (IsWs.mk (s := wsOf ws) hi l2 l1 ?z1 ?z2)
    case a2 => exact cb_drop N7 (by walk_at "my sub")
    all_goals omega
  · intro m n hS
    have e : ws.cps.toList.takeWhile (fun c => c = 32 ∨ c = 9) = ws.cps.toList := by
      obtain ⟨_, _, _, _, _, _, _, _, _, _, _, _, _, _, all⟩ := hS
      exact takeWhile_all all
    rw [e]
    exact hS
  · clear F9 N9
    rintro pre ch post u it I m n h tk e1 ⟨c, u', tb, tn, tt', k, vs, rfl, rfl, o1, hi, b0, b1, c1, all⟩ e3 e4 F8 N8
    have o2 : ∀ p ∈ base, p.1 ≠ c := fun p hp => Nat.ne_of_lt (o1 p hp)
    have o3 : ∀ p ∈ base, p.1 ≠ I := fun p hp => e4 p (.tail _ hp)
    have o4 : c ≠ I := e4 _ (.head _)
    have o5 : pre.length < 1000 := by
      have := congrArg List.length e1
      rw [List.length_append, List.length_cons, Array.length_toList] at this
      have hl' : ws.cps.size < 1000 := hl
      omega
    have o6 := hi.length
    k_steps
    · refine UnrEnd.intro (by k_asm) (by k_asm) ((c, listOf vs.toArray k) :: base) (by walk_at "my sub") (List.forall_mem_cons.mpr ⟨o4, o3⟩) ?_
      rename ((_ == _) = true) => hch
      have hc : ch = 32 := by rw [sp_eq] at hch; exact beq_iff_eq.mp hch
      refine wsS_mk ⟨(WsSt.of pre).count, (WsSt.of pre).b + 1, (WsSt.of pre).n + 1, (WsSt.of pre).nt⟩ (by rw [WsSt.of_snoc, hc]; rfl) c k vs (by walk_at "my map") rfl o1 hi ?_ ?_ ?_ ?_
      · dsimp only; omega
      · rw [List.length_append]; dsimp only; simp only [List.length_singleton]; omega
      · rw [List.length_append]; dsimp only; omega
      · exact snoc_all all (.inl hc)
    · rename ((_ == Str.ofString "\t") = true) => hch
      have hc : ch = 9 := by rw [tab_eq] at hch; exact beq_iff_eq.mp hch
      have hbl := bump_len (count := (WsSt.of pre).count) (b := (WsSt.of pre).b.toNat)
      rename ((_ : Int) ≤ (WsSt.of pre).b) => hle
      have hout := bump_out o6 b0 hle
      rename IntsAre (List.set _ _ _) _ => hi'
      rename Fr _ _ _ _ => F7
      rename News _ _ _ _ => N7
      refine UnrEnd.intro F7 N7 (_ :: base) (List.forall_mem_cons.mpr ⟨?_, List.forall_mem_cons.mpr ⟨List.Mem.head _, ?_⟩⟩) (List.forall_mem_cons.mpr ⟨?_, o3⟩) ?_
      · k_mem
      · walk_at "my sub"
      · walk_at "my ne"
      refine' wsS_mk ⟨WsSt.bump (WsSt.of pre).count (WsSt.of pre).b.toNat, 0, (WsSt.of pre).n + 1, (WsSt.of pre).nt + 1⟩ ?hst _ _ _ ?hm ?hn ?o ?hi ?b0 ?b1 ?c1 ?all
      case hn => exact rfl
      case hst => rw [WsSt.of_snoc, hc]; rfl
      case hm => walk_at "my map"
      case o => exact allLt_mem (by walk_at "my allLt")
      case hi => rw [hout]; exact hi'
      case b0 => exact Int.le_refl _
      case b1 => rw [List.length_append]; dsimp only; omega
      case c1 => rw [List.length_append]; dsimp only; simp only [List.length_singleton]; omega
      case all => exact snoc_all all (.inr hc)
    · rename ((_ == Str.ofString "\t") = true) => hch
      have hc : ch = 9 := by rw [tab_eq] at hch; exact beq_iff_eq.mp hch
      have hbl := bump_len (count := (WsSt.of pre).count) (b := (WsSt.of pre).b.toNat)
      rename (¬ (_ : Int) ≤ (WsSt.of pre).b) => hle
      have hin := bump_in b0 (o6 ▸ hle)
      rename IntsAre (List.set _ _ _) _ => hi'
      refine UnrEnd.intro (by k_asm) (by k_asm) ((c, _) :: base) (by walk_at "my sub") (List.forall_mem_cons.mpr ⟨o4, o3⟩) ?_
      refine' wsS_mk ⟨WsSt.bump (WsSt.of pre).count (WsSt.of pre).b.toNat, 0, (WsSt.of pre).n + 1, (WsSt.of pre).nt + 1⟩ ?hst _ _ _ ?hm ?hn ?o ?hi ?b0 ?b1 ?c1 ?all
      case hn => exact rfl
      case hst => rw [WsSt.of_snoc, hc]; rfl
      case hm => walk_at "my map"
      case o => exact o1
      case hi => rw [hin]; exact hi'
      case b0 => exact Int.le_refl _
      case b1 => rw [List.length_append]; dsimp only; omega
      case c1 => rw [List.length_append]; dsimp only; simp only [List.length_singleton]; omega
      case all => exact snoc_all all (.inr hc)
    · rename ((_ == Str.ofString " ") = false) => h1
      rename ((_ == Str.ofString "\t") = false) => h2
      rw [sp_eq] at h1
      rw [tab_eq] at h2
      refine ⟨_, _, _, (c, listOf vs.toArray k) :: base, rfl, by k_asm, by walk_at "my news", ?_⟩
      rw [takeWhile_brk e1 all (beq_eq_false_iff_ne.mp h1) (beq_eq_false_iff_ne.mp h2)]
      refine' wsS_mk (WsSt.of pre) rfl c k vs ?hm rfl o1 hi b0 b1 c1 all
      case hm => walk_at "my map"
end
section
local macro_rules | `(tactic| walk_at "my pad") => `(tactic| skip)
/-- a Whitespace that lies in the ledger -/
structure WsIn (p : Params) (s : WsSt) (news : Led) (x d nm ct : Addr) (raw : Str) (vs : List Value) (t1 t2 t3 t4 t5 t6 t7 t8 t9 : Tok) : Prop where
  w1 : (nm, ({ cls := .type "tuple", data := .seq #[.ref ct, .int s.b t9] } : Obj)) ∈ news
  w2 : (ct, ({ cls := .type "tuple", data := .seq vs.toArray } : Obj)) ∈ news
  w3 : (x, instObj 114 d) ∈ news
  w4 : (d, wsDict p s raw nm t1 t2 t3 t4 t5 t6 t7 t8) ∈ news
  hi : IntsAre vs s.count
  len : s.count.length < 1000
  bnd : ∀ k : Nat, 0 ≤ s.count.getD k 0 ∧ s.count.getD k 0 ≤ 1000
noncomputable def WsSt.long (s : WsSt) : Int := if s.b > (s.count.length : Int) - 1 then s.b else (s.count.length : Int) - 1
noncomputable def WsSt.il (s : WsSt) (ts : Nat) : Nat → Int
  | 0 => 0
  | k + 1 => WsSt.il s ts k + ((ts : Int) + k) / ts * s.count.getD (ts + k) 0
noncomputable def WsSt.indent (s : WsSt) (ts : Nat) : Int := s.b + ts * (s.il ts (s.count.length - ts) + s.nt)
set_option maxHeartbeats 4000000 in
theorem indent_s {e : Env0} {news : Led} {s : WsSt} {x d nm ct : Addr} {raw : Str} {vs : List Value} {t1 t2 t3 t4 t5 t6 t7 t8 t9 : Tok} (W : WsIn e.w.params s news x d nm ct raw vs t1 t2 t3 t4 t5 t6 t7 t8 t9) {ts : Nat} (h2 : 2 ≤ ts) (h3 : ts < 2000) {tt : Tok} :
    Spec e 20 83 [.ref x, .int ts tt] news (fun v n => n = news ∧ ∃ t, v = .int (s.indent ts) t) := by
  obtain ⟨w, p, loose, mean, mg, mb⟩ := e
  obtain ⟨W1, W2, W3, W4, W5, W6, W7⟩ := W
  have o6 := W5.length
  unfold Spec
  dsimp only
  k_fill
  intro dp un gd cn ns ig ic mo a ccd cl outer A₀ base h₀ L m s' Q E B F X N T hd hu hret
  k_steps
  unfold Halt
  rename Fr _ _ _ _ => F9
  rename News _ _ _ _ => N9
  rename IsRange _ _ _ _ _ _ _ _ => R9
  obtain ⟨m₀, em, F9⟩ := Fr.gen F9
  obtain ⟨u1, q1⟩ : ∃ t, m₀ (Str.ofString "tabsize") = some (Value.int ts t) := ⟨_, by rw [em]; rfl⟩
  have q2 : m₀ (Str.ofString "count") = some (Value.ref ct) := by rw [em]; rfl
  have q3 : m₀ (Str.ofString "self") = some (Value.ref x) := by rw [em]; rfl
  obtain ⟨u4, q4⟩ : ∃ t, m₀ (Str.ofString "trailing") = some (Value.int s.b t) := ⟨_, by rw [em]; rfl⟩
  have hsm := R9
  refine iter_rangeP (n := ((s.count.length : Int) - ts).toNat) (fun k m n => n = news ∧ ∃ u t, m = upd [(Str.ofString "i", u), (Str.ofString "il", some (.int (s.il ts k) t))] m₀) (by rfl) R9 (small_one (by omega) (by omega) (by omega) (by omega)) (rangeSize_nat _ _) F9 (news := news) (by walk_at "my news") ?g0 ?g1 ?g2
  case g0 => exact ⟨rfl, m₀ (Str.ofString "i"), _, upd_eq ⟨rfl, by rw [em]; rfl, trivial⟩ (fun _ _ => rfl)⟩
  case g1 =>
    clear F9 N9
    rintro i t it I m n h tk hi ⟨rfl, u, t', rfl⟩ e3 e4 F8 N8
    have hb9 := W7 ((ts : Int) + i).toNat
    k_steps
    refine UnrEnd.intro (by k_asm) (by k_asm) n (by walk_at "my sub") e4 ?_
    have e5 : ((ts : Int) + i).fdiv ts = ((ts : Int) + i) / ts := by rw [Int.fdiv_eq_ediv_of_nonneg _ (by omega)]
    have e6 : ((ts : Int) + i).toNat = ts + i := by omega
    rw [e5, e6]
    refine' ⟨rfl, _, _, ?mp⟩
    case mp => walk_at "my map"
  case g2 =>
    clear F9 N9
    rintro m _ h tk ⟨rfl, u, t', rfl⟩ F8 N8
    k_steps
    have e6 : ((s.count.length : Int) - ts).toNat = s.count.length - ts := by omega
    rw [e6]
    exact hret _ _ _ _ (by k_asm) (by k_asm) ⟨rfl, _, congrArg (fun x => Value.int x _) (rfl : _ = s.indent ts)⟩
theorem indent_i {e : Env0} {news : Led} {s : WsSt} {x d nm ct : Addr} {raw : Str} {vs : List Value} {t1 t2 t3 t4 t5 t6 t7 t8 t9 : Tok} (W : WsIn e.w.params s news x d nm ct raw vs t1 t2 t3 t4 t5 t6 t7 t8 t9) {ts : Int} (h2 : 2 ≤ ts) (h3 : ts < 2000) {tt : Tok} :
    Spec e 20 83 [.ref x, .int ts tt] news (fun v n => n = news ∧ ∃ t, v = .int (s.indent ts.toNat) t) := by
  obtain ⟨k, rfl⟩ := Int.eq_ofNat_of_zero_le (a := ts) (by omega)
  exact indent_s W (by omega) (by omega)
end
section
local macro_rules | `(tactic| walk_at "my ws") => `(tactic| first | with_reducible assumption | (refine' Mine.WsIn.mk ?w1 ?w2 ?w3 ?w4 ?w5 ?w6 ?w7; (case w3 | w4 | w1 | w2 => k_mem); (case w5 | w6 | w7 => assumption)))
local macro_rules | `(tactic| walk_at "call ref") => `(tactic| (k_here; (show wpAny _ _ (call (Value.ref 83) [Value.ref _, Value.int _ _]) _ _ _); k_dflt (refine' Mine.Spec.use (Mine.indent_i ?cW ?c2 ?c3) ?cB ?cF ?cX ?cN ?cT ?cd ?cu ?_; (case cB | cF | cX | cN | cT => k_asm); (case cW => walk_at "my ws"); (case c2 | c3 => omega); (case cd => k_room); (case cu => k_units); k_whole); intro v' h' tk' n' F' N' P'; obtain ⟨e', t', e''⟩ := P'; subst e'; subst e''; (try k_sweep)))
section
set_option maxHeartbeats 4000000 in
theorem equal_s {e : Env0} {news : Led} {s s' : WsSt} {x d nm ct x' d' nm' ct' : Addr} {raw raw' : Str} {vs vs' : List Value} {t1 t2 t3 t4 t5 t6 t7 t8 t9 u1 u2 u3 u4 u5 u6 u7 u8 u9 : Tok} (W : WsIn e.w.params s news x d nm ct raw vs t1 t2 t3 t4 t5 t6 t7 t8 t9) (W' : WsIn e.w.params s' news x' d' nm' ct' raw' vs' u1 u2 u3 u4 u5 u6 u7 u8 u9) :
    Spec e 40 90 [.ref x, .ref x'] news (fun v n => n = news ∧ v = .bool (decide (s.count = s'.count ∧ s.b = s'.b))) := by
  obtain ⟨w, p, loose, mean, mg, mb⟩ := e
  obtain ⟨W1, W2, W3, W4, W5, W6, W7⟩ := W
  obtain ⟨V1, V2, V3, V4, V5, V6, V7⟩ := W'
  have o6 := W5.length
  have o7 := V5.length
  unfold Spec
  dsimp only
  k_fill
  intro dp un gd cn ns ig ic mo a ccd cl outer A₀ base h₀ L m sh Q E B F X N T hd hu hret
  k_steps
  refine dat_eq (by k_asm) (DatIn.tuple W1 (.cons (DatIn.tuple W2 (dat_ints W5)) (.cons (.int _ _) .nil))) (DatIn.tuple V1 (.cons (DatIn.tuple V2 (dat_ints V5)) (.cons (.int _ _) .nil))) (by simp [kqdOk]) (by simp [kqdOk]) (by k_units) fun r hr => ?_
  k_steps
  refine hret _ _ _ _ (by k_asm) (by k_asm) ⟨rfl, ?_⟩
  simp only [Dat.tuple.injEq, List.cons.injEq, Dat.int.injEq, int_inj, and_true] at hr
  congr 1
  exact Bool.eq_iff_iff.mpr (hr.trans decide_eq_true_iff.symm)
theorem all_false {n i : Nat} {f : Nat → Bool} (hi : i < n) (h : f i = false) : (List.range n).all f = false := by
  rw [← Bool.not_eq_true]
  intro hc
  rw [List.all_eq_true] at hc
  rw [hc i (List.mem_range.mpr hi)] at h
  cases h
theorem all_true {n : Nat} {f : Nat → Bool} (h : ∀ i < n, f i = true) : (List.range n).all f = true :=
  List.all_eq_true.mpr fun i hi => h i (List.mem_range.mp hi)
noncomputable def WsSt.simple (s : WsSt) : Bool := decide ((s.count.length : Int) ≤ 1)
noncomputable def WsSt.top (s s' : WsSt) : Nat := (if s'.long > s.long then s'.long else s.long).toNat
noncomputable def WsSt.less (s s' : WsSt) : Bool :=
  if s'.n ≤ s.n then false else if s.simple = true ∧ s'.simple = true then decide (s.nt ≤ s'.nt)
  else (List.range (s.top s')).all fun i => decide (s.indent (i + 2) < s'.indent (i + 2))
set_option maxHeartbeats 4000000 in
theorem less_s {e : Env0} {news : Led} {s s' : WsSt} {x d nm ct x' d' nm' ct' : Addr} {raw raw' : Str} {vs vs' : List Value} {t1 t2 t3 t4 t5 t6 t7 t8 t9 u1 u2 u3 u4 u5 u6 u7 u8 u9 : Tok} (W : WsIn e.w.params s news x d nm ct raw vs t1 t2 t3 t4 t5 t6 t7 t8 t9) (W' : WsIn e.w.params s' news x' d' nm' ct' raw' vs' u1 u2 u3 u4 u5 u6 u7 u8 u9)
    (hb : 0 ≤ s.b ∧ s.b < 1000) (hb' : 0 ≤ s'.b ∧ s'.b < 1000) :
    Spec e 40 104 [.ref x, .ref x'] news (fun v n => n = news ∧ v = .bool (s.less s')) := by
  obtain ⟨w, p, loose, mean, mg, mb⟩ := e
  obtain ⟨W1, W2, W3, W4, W5, W6, W7⟩ := W
  obtain ⟨V1, V2, V3, V4, V5, V6, V7⟩ := W'
  have o6 := W5.length
  have o7 := V5.length
  unfold Spec
  dsimp only
  k_fill
  intro dp un gd cn ns ig ic mo a ccd cl outer A₀ base h₀ L m sh Q E B F X N T hd hu hret
  k_steps
  · refine hret _ _ _ _ (by k_asm) (by k_asm) ⟨rfl, ?_⟩
    unfold WsSt.less
    rw [if_pos ‹_›]
  · refine hret _ _ _ _ (by k_asm) (by k_asm) ⟨rfl, ?_⟩
    unfold WsSt.less WsSt.simple
    rw [if_neg ‹¬ s'.n ≤ s.n›, if_pos (by simp only [decide_eq_true_eq]; omega)]
  all_goals
    have e1 : s.less s' = (List.range (s.top s')).all fun i => decide (s.indent (i + 2) < s'.indent (i + 2)) := by
      unfold WsSt.less WsSt.simple
      rw [if_neg ‹¬ s'.n ≤ s.n›, if_neg (by simp only [decide_eq_true_eq]; omega)]
    unfold Halt
    rename Fr _ _ _ _ => F9
    rename News _ _ _ _ => N9
    rename IsRange _ _ _ _ _ _ _ _ => R9
    obtain ⟨bb, ebb, R9⟩ : ∃ bb, bb = ((s.top s' : Nat) : Int) + 2 ∧ IsRange _ _ 2 bb 1 _ _ _ := ⟨_, by unfold WsSt.top WsSt.long; (repeat' split) <;> omega, R9⟩
    have etop : s.top s' ≤ 1000 := by unfold WsSt.top WsSt.long; (repeat' split) <;> omega
    obtain ⟨m₀, em, F9⟩ := Fr.gen F9
    have q2 : m₀ (Str.ofString "self") = some (Value.ref x) := by rw [em]; rfl
    have q3 : m₀ (Str.ofString "other") = some (Value.ref x') := by rw [em]; rfl
    refine iter_rangeP (n := s.top s') (fun k m n => n = news ∧ (∃ u, m = upd [(Str.ofString "ts", u)] m₀) ∧ ∀ j < k, s.indent (j + 2) < s'.indent (j + 2)) (by rfl) R9 (small_one (by omega) (by omega) (by omega) (by omega)) (by rw [rangeSize_nat]; omega) F9 (news := news) (by walk_at "my news") ?g0 ?g1 ?g2
    case g0 => exact ⟨rfl, ⟨m₀ (Str.ofString "ts"), upd_eq ⟨rfl, trivial⟩ (fun _ _ => rfl)⟩, fun j hj => absurd hj (Nat.not_lt_zero _)⟩
    case g1 =>
      clear F9 N9
      rintro i t it I m n h tk hi ⟨rfl, ⟨u, rfl⟩, hall⟩ e3 e4 F8 N8
      have e6 : ((2 : Int) + i).toNat = i + 2 := by omega
      k_steps
      · refine hret _ _ _ _ (by k_asm) (by walk_at "my news") ⟨rfl, ?_⟩
        rename _ ≤ WsSt.indent _ _ => hle
        rw [e6] at hle
        rw [e1, all_false hi (decide_eq_false (by omega))]
      · refine UnrEnd.intro (by k_asm) (by k_asm) n (by walk_at "my sub") e4 ⟨rfl, ⟨_, by walk_at "my map"⟩, fun j hj => ?_⟩
        rename ¬ _ ≤ WsSt.indent _ _ => hle
        rw [e6] at hle
        by_cases hji : j = i
        · subst hji; omega
        · exact hall j (by omega)
    case g2 =>
      clear F9 N9
      rintro m n h tk ⟨rfl, ⟨u, rfl⟩, hall⟩ F8 N8
      k_steps
      refine hret _ _ _ _ (by k_asm) (by walk_at "my news") ⟨rfl, ?_⟩
      rw [e1, all_true fun j hj => decide_eq_true (hall j hj)]
end
end
section
theorem slot_search : Slot "re.Pattern" "search" "re.Pattern.search" :=
  .of (owner := "re.Pattern") (n := "search") (by rw [typeLookup_type, builtinLookup_eq_fast]; kernel_rfl) (by decide +kernel) (by decide +kernel) (by decide +kernel)
    (by first | exact .inl (by decide +kernel) | exact .inr (by decide +kernel)) (by rw [isSubtype_type]; kernel_rfl)
theorem type_search : typeOf (.builtin "re.Pattern.search") = pure (.type "method_descriptor") := by show builtinType _ = _; rw [builtinType_eq_fast]; kernel_rfl
theorem entry_search : entryFor table "re.Pattern.search" = some Builtin.«re.Pattern.search» := entryFor_of_tree (by kernel_rfl)
theorem plain_pattern : PlainAttrs "re.Pattern" :=
  ⟨⟨"object.__getattribute__", by rw [typeLookup_type, builtinLookup_eq_fast]; kernel_rfl, by decide +kernel⟩, by rw [typeLookup_type, builtinLookup_eq_fast]; kernel_rfl⟩
theorem owner_pattern : Manifest.owners.lookup (String.ofList ['n', 'r', 'e', 't', 't', 'a', 'P', '.', 'e', 'r'].reverse) = some Manifest.sig_re_Pattern := by kernel_rfl
theorem args_search (a b : Value) : argsOk "re.Pattern.search" ⟨[a, b], []⟩ := by
  unfold argsOk; rw [signature?_of (id := "re.Pattern.search") (n := ['h', 'c', 'r', 'a', 'e', 's']) (o := ['n', 'r', 'e', 't', 't', 'a', 'P', '.', 'e', 'r']) (by kernel_rfl) owner_pattern]; kernel_rfl
/-- the machine run to its end, in turns -/
noncomputable def drive : Nat → Sre.M → Option Sre.M
  | 0, _ => none
  | k + 1, m => if (m.runFor 4).outcome.isSome then some (m.runFor 4) else drive k (m.runFor 4)
section
variable {M : Model} {A : Around} {E : Value → Shared → Prop} {s : Shared}
theorem wp_drive {m' : Sre.M} {Q : Sre.M → Shared → Prop} (h : Q m' s) : ∀ (k n : Nat) (m : Sre.M), k ≤ n → drive k m = some m' → wpAny M A (Builtin.Re.reDrive n m) Q E s
  | 0, _, _, _, hd => nomatch hd
  | k + 1, 0, _, hk, _ => absurd hk (Nat.not_succ_le_zero _)
  | k + 1, n + 1, m, hk, hd => by
    unfold drive at hd
    unfold Builtin.Re.reDrive
    dsimp only
    by_cases ho : (m.runFor 4).outcome.isSome
    · rw [if_pos ho] at hd
      have : Builtin.Re.reTurnSteps = 4 := rfl
      rw [this, if_pos ho]
      rw [Option.some.inj hd]
      exact wpAny_pure h
    · rw [if_neg ho] at hd
      have : Builtin.Re.reTurnSteps = 4 := rfl
      rw [this, if_neg ho]
      exact wpAny_bind (wpAny_rule (wp_drive h k n _ (Nat.le_of_succ_le_succ hk) hd))
theorem wp_end {m m' : Sre.M} {Q : Option Sre.M → Shared → Prop} {k : Nat} (hk : k ≤ 2 ^ 64) (hd : drive k m = some m') (ho : m'.outcome = some .failed) (h : Q none s) : wpAny M A (Builtin.Re.reRunToEnd m) Q E s := by
  unfold Builtin.Re.reRunToEnd
  refine wpAny_bind (wp_drive ?_ k _ m hk hd)
  refine wpAny_bind (wpAny_forIn_list _ (fun _ _ s' => s' = s) _ ?_ ?_ _ _ rfl)
  · rintro x rest b s' rfl
    by_cases hx : m'.seen.has x = true
    · rw [if_pos hx]
      exact wpAny_bind (wpAny_rule (wpAny_pure rfl))
    · rw [if_neg hx]
      exact wpAny_pure rfl
  · rintro b s' rfl
    rw [ho]
    exact wpAny_pure h
end
noncomputable def codeOf (items : Array Value) : Array Nat := (items.map Builtin.Re.reRawOf).map (·.toNat)
theorem pat_search {prog : Program} {w : World} {A : Around} {E : Value → Shared → Prop} {s : Shared} {pat tup : Addr} {op ot : Obj} {fs items : Array Value} {n : Nat} {x : Str} {t : Tok} {m' : Sre.M} {k : Nat} {Q : Value → Shared → Prop}
    (hp : s.heap.get? pat = some op) (hc : op.cls = .type "re.Pattern") (hd : op.data = .fields fs) (h5 : fs.getD 5 .none = .ref tup) (h6 : Builtin.Re.reRawNat (fs.getD 6 .none) = 0)
    (ht : s.heap.get? tup = some ot) (hi : ot.data = .seq items n) (hk : k ≤ 2 ^ 64) (hm : drive k (Sre.forSearch (codeOf items) x.cps (Builtin.Re.reRawNat (fs.getD 2 .none)) 0 (min (2 ^ 63 - 1 : Int).toNat x.cps.size) false) = some m') (ho : m'.outcome = some .failed)
    (h : Q .none s) : wpAny (model prog w) A (call (.builtin "re.Pattern.search") [.ref pat, .str x t]) Q E s := by
  refine wpAny_call (codeAny_call_builtin slot_search.plain entry_search (slot_search.check _ _ _ _ _ _ _ _ ⟨op, hp, hc⟩ (args_search _ _) ?_))
  unfold Builtin.«re.Pattern.search» Builtin.Re.reTarget
  refine wpAny_bind ?_
  dsimp only
  refine wpAny_bind (wpAny_of_eq (a := [some (.str x t), none, none]) (by rfl) ?_)
  dsimp only
  refine wpAny_bind (wpAny_pure ?_)
  refine wpAny_bind (wpAny_pure ?_)
  refine wpAny_bind (wpAny_fieldsOf hp hd ?_)
  refine wpAny_bind (wpAny_of_eq (a := (x.cps, 0)) (by rfl) ?_)
  dsimp only
  rw [h6]
  refine wpAny_bind (wpAny_of_eq (a := ()) (by rfl) ?_)
  refine wpAny_bind ?_
  rw [h5]
  unfold Builtin.Re.reRawItems
  refine wpAny_bind (wpAny_seqItems ht hi ?_)
  refine wpAny_pure ?_
  refine wpAny_pure ?_
  unfold Builtin.Re.reAnswer
  exact wpAny_bind (wp_end hk hm ho (wpAny_pure h))
theorem meth_search {prog : Program} {w : World} {A : Around} {E : Value → Shared → Prop} {s : Shared} {pat : Addr} {op : Obj} {pl : Sem Bool} {Q : Value × List Value → Shared → Prop} (hp : s.heap.get? pat = some op) (hc : op.cls = .type "re.Pattern") (hd : op.dict = none)
    (h : Q (.builtin "re.Pattern.search", [.ref pat]) s) : wpAny (model prog w) A (getMethod (.ref pat) "search" pl) Q E s :=
  getMethod_builtin ⟨op, hp, hc⟩ plain_pattern slot_search type_search (fun a e => by cases e; exact ⟨op, hp, hd⟩) h
end
section
local macro_rules | `(tactic| walk_at "my pad") => `(tactic| skip)
noncomputable def itemsAt (P : Params) (a : Addr) : Array Value := match (KF P).lookup a with
  | some o => match o.data with
    | .seq xs _ => xs
    | _ => #[]
  | none => #[]
noncomputable def passes (code : Array Nat) (x : Str) : Bool := match drive 200 (Sre.forSearch code x.cps 0 0 (min (2 ^ 63 - 1 : Int).toNat x.cps.size) false) with
  | some m => match m.outcome with
    | some .failed => true
    | _ => false
  | none => false
theorem passes_of {code : Array Nat} {x : Str} (h : passes code x = true) : ∃ m', drive 200 (Sre.forSearch code x.cps 0 0 (min (2 ^ 63 - 1 : Int).toNat x.cps.size) false) = some m' ∧ m'.outcome = some .failed := by
  unfold passes at h
  split at h
  · rename_i m hm
    refine ⟨m, hm, ?_⟩
    split at h
    · assumption
    · cases h
  · cases h
noncomputable def okName (P : Params) (x : Str) : Bool := passes (codeOf (itemsAt P 127)) x
noncomputable def okVal (P : Params) (x : Str) : Bool := passes (codeOf (itemsAt P 132)) x
local macro_rules | `(tactic| walk_at "getMethod ref") => `(tactic| (k_here; k_dflt (refine' Mine.meth_search ?k1 ?k2 ?k3 ?_; (case k1 => exact (Fr.keep (by k_asm)) _ _ ((by k_asm : Frag.In _ _) _ _ (by k_is))); (case k2 | k3 => exact rfl); k_whole)))
local macro_rules | `(tactic| walk_at "call builtin:re.Pattern.search") => `(tactic| (k_here; k_dflt (obtain ⟨m9, d9, o9⟩ := Mine.passes_of (by assumption); refine' Mine.pat_search ?k1 ?k2 ?k3 ?k4 ?k5 ?k6 ?k7 ?k8 ?k9 o9 ?_; (case k1 => exact (Fr.keep (by k_asm)) _ _ ((by k_asm : Frag.In _ _) _ _ (by k_is))); (case k2 | k3 | k4 | k5 => exact rfl); (case k6 => exact (Fr.keep (by k_asm)) _ _ ((by k_asm : Frag.In _ _) _ _ (by k_is))); (case k7 => exact rfl); (case k9 => exact d9); (case k8 => decide); k_whole)))
set_option maxHeartbeats 4000000 in
theorem conv_n {e : Env0} {news : Led} {h : Addr} {x : Str} {t : Tok} (hx : okName e.w.params x = true) : SpecK e 20 163 [.ref h, .str x t] [(Str.ofString "name", .bool true)] news (fun v n => n = news ∧ v = .str x t) := by
  obtain ⟨w, p, loose, mean, mg, mb⟩ := e
  unfold SpecK
  dsimp only
  k_fill
  intro dp un gd cn ns ig ic mo a ccd cl outer A₀ base h₀ L m s Q E B F X N T hd hu hret
  k_steps
  exact hret _ _ _ _ (by k_asm) (by k_asm) ⟨rfl, rfl⟩
set_option maxHeartbeats 4000000 in
theorem conv_v {e : Env0} {news : Led} {h : Addr} {x : Str} {t : Tok} (hx : okVal e.w.params x = true) : SpecK e 20 163 [.ref h, .str x t] [(Str.ofString "name", .bool false)] news (fun v n => n = news ∧ v = .str x t) := by
  obtain ⟨w, p, loose, mean, mg, mb⟩ := e
  unfold SpecK
  dsimp only
  k_fill
  intro dp un gd cn ns ig ic mo a ccd cl outer A₀ base h₀ L m s Q E B F X N T hd hu hret
  k_steps
  exact hret _ _ _ _ (by k_asm) (by k_asm) ⟨rfl, rfl⟩
end
section
open LCt LCg
section
variable {prog : Program} {w : World} {A : Around} {h₀ : Heap} {L : Addr} {m : Str → Option Value} {env : Env} {s : Shared}
/-- a comprehension with a test, over a list: what holds after each item -/
theorem comp_T {ct elt : Expr} {x : Str} {scope : Scope} {cl : List (Str × Addr)} {S₀ : Led → Prop} {Fin : List Value → Led → Prop} {vs : List Value} {news : Led} (Inv : List Value → List Value → Led → Prop) (h0 : Inv [] [] news)
    (turn : ∀ pre v post ys nw I oI C oC D m₂ h tk E', vs = pre ++ v :: post → Inv pre ys nw → NsObj oC m₂ → m₂ x = some v → Fr h₀ L h m → News h₀ L h ((I, oI) :: (C, oC) :: (D, lst ys) :: nw) → Off3 I C D nw → ((@Ne Nat I C) ∧ (@Ne Nat I D) ∧ (@Ne Nat C D)) →
      wpAny (model prog w) A (isTrue ct (compEnvC scope cl C env) (eval ct (compEnvC scope cl C env))) (fun ok s' => if ok = true then
        wpAny (model prog w) A (eval elt (compEnvC scope cl C env)) (CompEnd h₀ L m { s with heap := h, toks := tk } I oI C oC D (lst ys) S₀ (fun y news' => Inv (pre ++ [v]) (ys ++ [y]) news')) E' s'
        else CompEnd h₀ L m { s with heap := h, toks := tk } I oI C oC D (lst ys) S₀ (fun _ news' => Inv (pre ++ [v]) ys news') Value.none s') E' { s with heap := h, toks := tk })
    (done : ∀ ys nw, Inv vs ys nw → Fin ys nw) :
    CompRestT prog w A h₀ L m env ct elt x scope cl s S₀ (fun i v => vs.toArray[i]? = some v) Fin vs.toArray.size 0 [] news := by
  suffices h : ∀ (post pre : List Value) (ys : List Value) (nw : Led), vs = pre ++ post → Inv pre ys nw → CompRestT prog w A h₀ L m env ct elt x scope cl s S₀ (fun i v => vs.toArray[i]? = some v) Fin post.length pre.length ys nw from by
    have := h vs [] [] news rfl h0
    rw [List.size_toArray]
    exact this
  intro post
  induction post with
  | nil =>
    intro pre ys nw e hI
    rw [List.append_nil] at e
    exact CompRestT.zero (done _ _ (e ▸ hI))
  | cons c post ih =>
    intro pre ys nw e hI
    refine CompRestT.succ ?_
    intro v I oI C oC D m₂ h tk E' hv hn hx F N off ne
    have hv' : v = c := by
      rw [List.getElem?_toArray, e, List.getElem?_append_right (Nat.le_refl _), Nat.sub_self] at hv
      exact (Option.some.inj hv).symm
    subst hv'
    have e2 : vs = (pre ++ [v]) ++ post := by rw [e]; simp
    have el : (pre ++ [v]).length = pre.length + 1 := by simp
    refine wpAny_mono (turn pre v post ys nw I oI C oC D m₂ h tk E' e hI hn hx F N off ne) (fun ok s' q => ?_) fun _ _ q => q
    cases ok with
    | true =>
      rw [if_pos rfl] at q ⊢
      refine wpAny_mono q (fun y s₂ r => ?_) fun _ _ q => q
      obtain ⟨h', tk', n', r1, r2, r3, r4, r5, r6⟩ := r
      exact ⟨h', tk', n', r1, r2, r3, r4, r5, el ▸ ih _ _ _ e2 r6⟩
    | false =>
      rw [if_neg Bool.false_ne_true] at q ⊢
      obtain ⟨h', tk', n', r1, r2, r3, r4, r5, r6⟩ := q
      exact ⟨h', tk', n', r1, r2, r3, r4, r5, el ▸ ih _ _ _ e2 r6⟩
/-- the same without a test -/
theorem comp_U {elt : Expr} {x : Str} {scope : Scope} {cl : List (Str × Addr)} {S₀ : Led → Prop} {Fin : List Value → Led → Prop} {vs : List Value} {news : Led} (Inv : List Value → List Value → Led → Prop) (h0 : Inv [] [] news)
    (turn : ∀ pre v post ys nw I oI C oC D m₂ h tk E', vs = pre ++ v :: post → Inv pre ys nw → NsObj oC m₂ → m₂ x = some v → Fr h₀ L h m → News h₀ L h ((I, oI) :: (C, oC) :: (D, lst ys) :: nw) → Off3 I C D nw → ((@Ne Nat I C) ∧ (@Ne Nat I D) ∧ (@Ne Nat C D)) →
      wpAny (model prog w) A (eval elt (compEnvC scope cl C env)) (CompEnd h₀ L m { s with heap := h, toks := tk } I oI C oC D (lst ys) S₀ (fun y news' => Inv (pre ++ [v]) (ys ++ [y]) news')) E' { s with heap := h, toks := tk })
    (done : ∀ ys nw, Inv vs ys nw → Fin ys nw) :
    CompRest prog w A h₀ L m env elt x scope cl s S₀ (fun i v => vs.toArray[i]? = some v) Fin vs.toArray.size 0 [] news := by
  suffices h : ∀ (post pre : List Value) (ys : List Value) (nw : Led), vs = pre ++ post → Inv pre ys nw → CompRest prog w A h₀ L m env elt x scope cl s S₀ (fun i v => vs.toArray[i]? = some v) Fin post.length pre.length ys nw from by
    have := h vs [] [] news rfl h0
    rw [List.size_toArray]
    exact this
  intro post
  induction post with
  | nil =>
    intro pre ys nw e hI
    rw [List.append_nil] at e
    exact CompRest.zero (done _ _ (e ▸ hI))
  | cons c post ih =>
    intro pre ys nw e hI
    refine CompRest.succ ?_
    intro v I oI C oC D m₂ h tk E' hv hn hx F N off ne
    have hv' : v = c := by
      rw [List.getElem?_toArray, e, List.getElem?_append_right (Nat.le_refl _), Nat.sub_self] at hv
      exact (Option.some.inj hv).symm
    subst hv'
    have e2 : vs = (pre ++ [v]) ++ post := by rw [e]; simp
    have el : (pre ++ [v]).length = pre.length + 1 := by simp
    refine wpAny_mono (turn pre v post ys nw I oI C oC D m₂ h tk E' e hI hn hx F N off ne) (fun y s₂ r => ?_) fun _ _ q => q
    obtain ⟨h', tk', n', r1, r2, r3, r4, r5, r6⟩ := r
    exact ⟨h', tk', n', r1, r2, r3, r4, r5, el ▸ ih _ _ _ e2 r6⟩
end
end
section
theorem allNeS2 {D : Addr} {l : Led} (h : ∀ p ∈ l, p.1 < D) : ∀ p ∈ l, p.1 ≠ D + 1 + 1 := fun p hp => Nat.ne_of_lt (Nat.lt_succ_of_lt (Nat.lt_succ_of_lt (h p hp)))
theorem allNeS3 {D : Addr} {l : Led} (h : ∀ p ∈ l, p.1 < D) : ∀ p ∈ l, p.1 ≠ D + 1 + 1 + 1 := fun p hp => Nat.ne_of_lt (Nat.lt_succ_of_lt (Nat.lt_succ_of_lt (Nat.lt_succ_of_lt (h p hp))))
section
variable {prog : Program} {w : World} {A : Around} {E : Value → Shared → Prop} {s : Shared}
theorem tooLong_no {n : Nat} (h : n ≤ sizeLine) : Builtin.List.listTooLong n = false := by
  unfold Builtin.List.listTooLong
  exact decide_eq_false (Nat.not_lt.mpr h)
/-- l[:] = other list -/
theorem set_all {l sl D : Addr} {items new : Array Value} {Q : Unit → Shared → Prop} (hl : s.heap.IsList l items) (hs : s.heap.IsSliceOf sl .none .none .none) (hD : s.heap.IsList D new) (hne : l ≠ D) (hsz : items.size + new.size ≤ sizeLine)
    (hQ : ∀ h', (∀ o, s.heap.get? l = some o → h'.get? l = some (Obj.mapSeq (fun xs => xs.extract 0 0 ++ new ++ xs.extract items.size xs.size) o)) → Heap.SameBut l s.heap h' → Q () { s with heap := h' }) :
    wpAny (model prog w) A (setItem (.ref l) (.ref sl) (.ref D)) Q E s := by
  obtain ⟨o, ho, hc, ne, hd⟩ := id hl
  obtain ⟨oD, hoD, hcD, nD, hdD⟩ := id hD
  obtain ⟨os, hos, hcs, hds⟩ := id hs
  have hTs : s.TypeIs (.ref sl) "slice" := ⟨os, hos, hcs⟩
  unfold setItem
  try with_reducible refine wpAny_holding ?_
  first | refine wpAny_bind (wpAny_pure ?_) | skip
  refine wpAny_bind (wpAny_sequenceKey hl.typeIs (by decide) ?_)
  refine wpAny_bind (wpAny_callSpecial?_slot (name := Str.ofString "__setitem__") hl.typeIs slot_list_setitem
    (wpAny_call_entry slot_list_setitem hl.typeIs entry_list_setitem ?_ (args_list_setitem _ _ _)))
  show wpAny _ _ (Builtin.List.listSubscript? (.ref sl) >>= _) _ _ s
  refine wpAny_bind ?_
  unfold Builtin.List.listSubscript?
  refine wpAny_bind (wpAny_specialOf hTs slice_no_index ?_)
  simp only [Option.isNone_none, if_true]
  refine wpAny_pure ?_
  show wpAny _ _ (typeOf (.ref sl) >>= _) _ _ s
  refine wpAny_bind (wpAny_typeOf hTs ?_)
  rw [if_neg (by decide)]
  rw [listSliceParts_eq]
  refine wpAny_bind (wpAny_bind (wpAny_field hos hds (x := .none) rfl (wpAny_bind (wpAny_listPart .none ?_))))
  rw [if_neg (by decide)]
  refine wpAny_bind (wpAny_field hos hds (x := .none) rfl (wpAny_bind (wpAny_listPart .none ?_)))
  refine wpAny_bind (wpAny_field hos hds (x := .none) rfl (wpAny_bind (wpAny_listPart .none (wpAny_pure ?_))))
  dsimp only
  have hsame : Builtin.List.listSameRef (.ref l) (.ref D) = false := by
    show (l == D) = false
    exact beq_eq_false_iff_ne.mpr hne
  rw [if_neg (by rw [hsame]; exact Bool.false_ne_true)]
  refine wpAny_bind ?_
  unfold Builtin.List.listAllItems
  refine wpAny_bind (wpAny_typeOf hD.typeIs ?_)
  rw [if_pos (by decide)]
  unfold Builtin.List.listItems
  refine wpAny_bind (wpAny_seqItems hoD hdD (wpAny_pure ?_))
  refine wpAny_bind (m := Builtin.List.listItems (.ref l)) ?_
  unfold Builtin.List.listItems
  refine wpAny_bind (wpAny_seqItems ho hd (wpAny_pure ?_))
  refine wpAny_bind (wpAny_of_eq (sliceIndices_raw none none none items.size (by simp)) ?_)
  have hb : sliceBounds none none none items.size = (0, (items.size : Int), 1) := rfl
  rw [hb]
  dsimp only
  rw [if_pos (by decide)]
  refine wpAny_bind (wpAny_rule ?_)
  rw [if_neg (by rw [tooLong_no hsz]; exact Bool.false_ne_true)]
  have hmx : (max (0 : Int) (items.size : Int)).toNat = items.size := by omega
  rw [hmx]
  show wpAny _ _ (updateSeq l (fun xs => xs.extract 0 0 ++ new ++ xs.extract items.size) >>= _) _ _ s
  obtain ⟨n', hd'⟩ := Obj.data_mapSeq hd (fun xs => xs.extract 0 0 ++ new ++ xs.extract items.size xs.size)
  refine wpAny_bind (wpAny_updateSeq ho hd ?_ (by omega) (by simp; omega))
  refine wpAny_bind (wpAny_letGo (wpAny_pure ⟨.none, rfl, wpAny_pure (hQ _ (fun o' ho' => ?_) (Heap.SameBut.update ..))⟩))
  rw [ho] at ho'
  cases ho'
  exact Heap.get?_update_self _ ho (Obj.isFreed_of_seq hd')
theorem set_allL {l D : Addr} {vs ys : List Value} {k j : Nat} {h₀ : Heap} {L : Addr} {m : Str → Option Value} {news news' : Led} {Q : Unit → Shared → Prop} (F : Fr h₀ L s.heap m) (N : News h₀ L s.heap news) (hD : (D, listOf ys.toArray j) ∈ news) (hne : @Ne Nat l D) (hsz : vs.length + ys.length < 10000)
    (U : Upd l (listOf vs.toArray k) (listOf ys.toArray (if ys.length == vs.length then k else k + 1)) news news')
    (h : ∀ h', Fr h₀ L h' m → News h₀ L h' news' → Q () { s with heap := h' }) :
    wpAny (model prog w) A (setItem (.ref l) (.ref s.heap.objs.size) (.ref D)) Q E { s with heap := s.heap.push { cls := .type "slice", data := .fields #[.none, .none, .none] } } := by
  obtain ⟨pre, post, rfl, rfl, a, b⟩ := U.split
  have F1 : Fr h₀ L (s.heap.push { cls := .type "slice", data := .fields #[.none, .none, .none] }) m := F.push _
  have N1 : News h₀ L (s.heap.push { cls := .type "slice", data := .fields #[.none, .none, .none] }) (pre ++ (l, listOf vs.toArray k) :: post) := N.grown fun _ _ e => Heap.get?_push_of_some _ e
  have z := N1 (l, listOf vs.toArray k) (List.mem_append.mpr (.inr (.head _)))
  refine set_all (News.isList N1 (List.mem_append.mpr (.inr (.head _)))) (Heap.IsSliceOf.new ..) (News.isList N1 hD) hne (by rw [List.size_toArray, List.size_toArray, sizeLine_eq]; omega) fun h' ho hs => ?_
  have e : Obj.mapSeq (fun xs => xs.extract 0 0 ++ ys.toArray ++ xs.extract vs.toArray.size xs.size) (listOf vs.toArray k) = listOf ys.toArray (if ys.length == vs.length then k else k + 1) := by
    have e1 : vs.toArray.extract 0 0 ++ ys.toArray ++ vs.toArray.extract vs.toArray.size vs.toArray.size = ys.toArray := by
      apply Array.toList_inj.mp
      simp
    unfold Obj.mapSeq
    dsimp only
    rw [e1, List.size_toArray, List.size_toArray]
  exact h h' (F1.change hs z.2.1 z.2.2) (news_set N1 a b hs (by rw [ho _ z.1, e]))
end
end
section
local macro_rules | `(tactic| walk_at "call ref") => `(tactic| (k_here; k_dflt (show wpAny _ _ (call (Value.ref 163) [Value.ref _, Value.str _ _] [(_, Value.bool true)]) _ _ _); k_dflt (refine' Mine.SpecK.use (Mine.conv_n ?ck) ?cB ?cF ?cX ?cN ?cT ?cd ?cu ?_; (case cB | cF | cX | cN | cT => k_asm); (case ck => assumption); (case cd => k_room); (case cu => k_units); k_whole); intro v' h' tk' n' F' N' P'; obtain ⟨e', e''⟩ := P'; subst e'; subst e''; (try k_sweep)))
local macro_rules | `(tactic| walk_at "call ref") => `(tactic| (k_here; k_dflt (show wpAny _ _ (call (Value.ref 163) [Value.ref _, Value.str _ _] [(_, Value.bool false)]) _ _ _); k_dflt (refine' Mine.SpecK.use (Mine.conv_v ?ck) ?cB ?cF ?cX ?cN ?cT ?cd ?cu ?_; (case cB | cF | cX | cN | cT => k_asm); (case ck => assumption); (case cd => k_room); (case cu => k_units); k_whole); intro v' h' tk' n' F' N' P'; obtain ⟨e', e''⟩ := P'; subst e'; subst e''; (try k_sweep)))
local macro_rules | `(tactic| walk_at "CompSrcT") => `(tactic| (k_here; k_dflt (refine LCt.CompSrcT.ledger (by rfl) (by k_asm) (by k_asm) (by k_mem) (by rw [List.size_toArray, sizeLine_eq]; omega) ?_; intro g'; refine Mine.halt ?_)))
local macro_rules | `(tactic| walk_at "CompSrc") => `(tactic| (k_here; k_dflt (refine LCg.CompSrc.ledger (by rfl) (by k_asm) (by k_asm) (by k_mem) (by rw [List.size_toArray, sizeLine_eq]; omega) ?_; intro g'; refine Mine.halt ?_)))
local macro_rules | `(tactic| walk_at "subscriptTail") => `(tactic| (k_here; (with_reducible show wpAny _ _ (subscriptTail _ _ (Value.ref _) (Value.int _ _)) _ _ _); k_dflt (refine' kim_tup ?k1 ?k2 ?k3 ?k4 ?k5 ?k6 ?k7 ?k8 ?_ ?k9 ?k10; (case k1 => k_asm); (case k2 => k_mem); (case k3 | k4 => exact rfl); (case k5 | k6 => decide); (case k7 | k8 => exact rfl); (case k9 => with_unfolding_all rfl); (case k10 => (intro _; with_unfolding_all rfl)); k_whole)))
local macro_rules | `(tactic| walk_at "call builtin:list.append") => `(tactic| (k_here; (with_reducible show wpAny _ _ (call (Value.builtin _) [Value.ref _, _]) _ _ _); k_dflt (refine' append_K ?k1 ?k2 ?k3 ?_ ?z; (case k1 | k2 => k_asm); (case k3 => first | k_upd | walk_at "my upd"); (case z => (rw [List.size_toArray, sizeLine_eq]; omega)); k_whole); intro h' F' N'; (try k_sweep)))
local macro_rules | `(tactic| walk_at "setItem ref ref") => `(tactic| (k_here; k_dflt (refine' Mine.set_allL (s := ⟨_, _, _, _, _⟩) ?k1 ?k2 ?k3 ?k4 ?k5 ?k6 ?_; (case k1 | k2 => k_asm); (case k3 => k_mem); (case k4 => walk_at "my ne"); (case k6 => k_upd); (case k5 => walk_at "my fit"); k_whole); intro h' F' N'; (try k_sweep)))
local macro_rules | `(tactic| walk_at "subscriptTail Name Slice ref ref") => `(tactic| (k_here; (with_reducible show wpAny _ _ (subscriptTail _ (PySem.Expr.Slice none none none _) (Value.ref _) (Value.ref _)) _ _ _); k_dflt (refine' kmk_slice_lit ?F ?N ?l IsPart.none IsPart.none ?e ?_ ?s ?t ?z; (case F | N => k_asm); (case l => exact News.isList (by k_asm) (by k_mem)); (case e => (rw [slicePick_all])); (case s => with_unfolding_all rfl); (case t => kmk_pure); (case z => (rw [List.size_toArray, sizeLine_eq]; omega))); intro D' h' F' N' l1; (try k_lt l1); (try k_sweep)))
local macro_rules | `(tactic| walk_at "exec For Tuple Name cons nil") => `(tactic| (k_here; (rename Fr _ _ _ _ => lF'); (with_unfolding_all refine' For_turns lF' ?_; k_whole)))
section
noncomputable def prD (p : Str × Str) : Dat := .tuple [.str p.1, .str p.2]
theorem off1_mem {D : Addr} : ∀ {l : Led}, LCg.Off1 D l → ∀ p ∈ l, p.1 ≠ D
  | [], _, _, h => nomatch h
  | _ :: _, o, p, h => by
    rcases List.mem_cons.mp h with rfl | h
    · exact o.1
    · exact off1_mem o.2 p h
theorem pr_at {news : Led} {vs : List Value} {prs : List (Str × Str)} {pre : List Value} {v : Value} {post : List Value} (h : DatAll news vs (prs.map prD)) (e : vs = pre ++ v :: post) :
    ∃ p, p ∈ prs ∧ prs.take (pre.length + 1) = prs.take pre.length ++ [p] ∧ ∃ a n t t', v = .ref a ∧ (a, ({ cls := .type "tuple", data := .seq [Value.str p.1 t, Value.str p.2 t'].toArray n } : Obj)) ∈ news := by
  have hl := h.length
  rw [List.length_map] at hl
  have hk : pre.length < prs.length := by rw [← hl, e]; simp
  obtain ⟨v', hv, hd⟩ := h.get (k := pre.length) (by rw [List.length_map]; exact hk)
  have hv' : v' = v := by
    rw [e, List.getElem?_append_right (Nat.le_refl _), Nat.sub_self] at hv
    exact (Option.some.inj hv).symm
  subst hv'
  rw [List.getElem_map] at hd
  refine ⟨prs[pre.length], List.getElem_mem hk, by rw [List.take_add_one, List.getElem?_eq_getElem hk]; rfl, ?_⟩
  generalize prs[pre.length] = p at hd
  unfold prD at hd
  cases hd with
  | tuple hm r =>
    cases r with
    | cons d1 r =>
      cases r with
      | cons d2 r =>
        cases r
        cases d1
        cases d2
        exact ⟨_, _, _, _, rfl, hm⟩
/-- a Headers in the ledger -/
structure HdIn (p : Params) (news : Led) (x d l : Addr) (t1 : Tok) (vs : List Value) (k : Nat) (prs : List (Str × Str)) : Prop where
  h1 : (x, instObj 262 d) ∈ news
  h2 : (d, dictOf [⟨PyData.keyHash p (Str.ofString "_headers"), .str (Str.ofString "_headers") t1, .ref l⟩] 1) ∈ news
  h3 : (l, listOf vs.toArray k) ∈ news
  h4 : DatAll news vs (prs.map prD)
  h5 : prs.length < 1000
set_option maxHeartbeats 4000000 in
theorem get_s {e : Env0} {news : Led} {x d l : Addr} {t1 : Tok} {vs : List Value} {k : Nat} {prs : List (Str × Str)} (H : HdIn e.w.params news x d l t1 vs k prs) {nm : Str} {t : Tok} (hl : nm.length < 1000) (hl2 : ∀ p ∈ prs, p.1.length < 1000) (hn : okName e.w.params (Txt.lower nm) = true) : Spec e 40 201 [.ref x, .str nm t] news (fun v n => ∃ (D : Addr) (ys : List Value), v = .ref D ∧ n = (D, listOf ys.toArray ys.length) :: news ∧ (∀ p ∈ news, p.1 ≠ D) ∧ DatAll news ys (((prs.filter fun p => Txt.lower p.1 == Txt.lower nm).map (·.2)).map .str)) := by
  obtain ⟨w, p, loose, mean, mg, mb⟩ := e
  obtain ⟨H1, H2, H3, H4, H5⟩ := H
  have H6 : vs.length < 1000 := by rw [H4.length, List.length_map]; exact H5
  unfold Spec
  dsimp only
  k_fill
  intro dp un gd cn ns ig ic mo a ccd cl outer A₀ base h₀ L m s Q E B F X N T hd hu hret
  k_steps
  unfold Halt
  rename News _ _ _ _ => N9
  rename (∀ p ∈ news, p.1 < _) => l9
  refine comp_T (fun pre ys nw => nw = _ :: news ∧ DatAll news ys ((((prs.take pre.length).filter fun p => Txt.lower p.1 == Txt.lower nm).map (·.2)).map .str)) ⟨rfl, .nil⟩ ?turn ?done
  case done =>
    rintro ys nw ⟨rfl, hd⟩ D h tk F8 N8 off
    k_steps
    have hlen : prs.length ≤ vs.length := by rw [H4.length, List.length_map]; exact Nat.le_refl _
    rw [List.take_of_length_le hlen] at hd
    rename News h₀ L _ _ => N7
    refine hret _ _ _ ((D, listOf ys.toArray ys.length) :: news) (by k_asm) (cb_drop N7 (by walk_at "my sub")) ⟨D, ys, rfl, rfl, ?_, hd⟩
    exact off1_mem off.2
  case turn =>
    clear N9
    rintro pre v post ys nw I oI C oC D m₂ h tk E' e1 ⟨rfl, hd⟩ hn hx F8 N8 off ne
    obtain ⟨p, hp1, hp2, a, n, t, t', rfl, hm⟩ := pr_at H4 e1
    have hp3 := hl2 p hp1
    have hp4 : prs.take (pre ++ [Value.ref a]).length = prs.take pre.length ++ [p] := by rw [List.length_append]; exact hp2
    k_steps
    all_goals
      refine LCg.CompEnd.intro (by k_asm) (by k_asm) (_ :: news) (by walk_at "my sub") off (Or.inr ⟨_, .tail _ H3, rfl, _, rfl⟩) ⟨rfl, ?_⟩
      rw [hp4, List.filter_append, List.map_append, List.map_append]
    · rw [List.filter_cons_of_pos (by assumption)]
      exact hd.append (.one (.str _ _))
    · rw [List.filter_cons_of_neg (by simp only [Bool.not_eq_true]; assumption)]
      simpa using hd
end
section
local macro_rules | `(tactic| walk_at "my pad") => `(tactic| skip)
/-- a Headers whose list lies apart, at the ledger's head -/
structure HdAt (p : Params) (rest : Led) (x d l : Addr) (t1 : Tok) (vs : List Value) (prs : List (Str × Str)) : Prop where
  h1 : (x, instObj 262 d) ∈ rest
  h2 : (d, dictOf [⟨PyData.keyHash p (Str.ofString "_headers"), .str (Str.ofString "_headers") t1, .ref l⟩] 1) ∈ rest
  h3 : ∀ p ∈ rest, p.1 ≠ l
  h4 : DatAll rest vs (prs.map prD)
  h5 : prs.length < 1000
set_option maxHeartbeats 4000000 in
theorem del_s {e : Env0} {rest : Led} {x d l : Addr} {t1 : Tok} {vs : List Value} {k : Nat} {prs : List (Str × Str)} (H : HdAt e.w.params rest x d l t1 vs prs) {nm : Str} {t : Tok} (hl : nm.length < 1000) (hl2 : ∀ p ∈ prs, p.1.length < 1000) (hn : okName e.w.params (Txt.lower nm) = true) :
    Spec e 40 182 [.ref x, .str nm t] ((l, listOf vs.toArray k) :: rest) (fun v n => ∃ (ys : List Value) (k : Nat), v = .none ∧ n = (l, listOf ys.toArray k) :: rest ∧ DatAll rest ys ((prs.filter fun p => Txt.lower p.1 != Txt.lower nm).map prD)) := by
  obtain ⟨w, p, loose, mean, mg, mb⟩ := e
  obtain ⟨H1, H2, H3, H4, H5⟩ := H
  have H6 : vs.length < 1000 := by rw [H4.length, List.length_map]; exact H5
  unfold Spec
  dsimp only
  k_fill
  intro dp un gd cn ns ig ic mo a ccd cl outer A₀ base h₀ L m s Q E B F X N T hd hu hret
  k_steps
  unfold Halt
  rename News _ _ _ _ => N9
  refine comp_T (fun pre ys nw => nw = _ :: (l, listOf vs.toArray k) :: rest ∧ DatAll rest ys (((prs.take pre.length).filter fun p => Txt.lower p.1 != Txt.lower nm).map prD)) ⟨rfl, .nil⟩ ?turn ?done
  case done =>
    rintro ys nw ⟨rfl, hd⟩ D h tk F8 N8 off
    have hlen : prs.length ≤ vs.length := by rw [H4.length, List.length_map]; exact Nat.le_refl _
    rw [List.take_of_length_le hlen] at hd
    have off2 := off1_mem off.2.2
    have off3 := off.2.1
    have hlen2 : ys.length ≤ prs.length := by rw [hd.length, List.length_map]; exact List.length_filter_le _ _
    k_steps
    rename News _ _ _ _ => N7
    refine' hret _ _ _ _ ?zF ?zN ⟨ys, _, rfl, rfl, hd⟩
    case zN => exact cb_drop N7 (by walk_at "my sub")
    case zF => k_asm
  case turn =>
    clear N9
    rintro pre v post ys nw I oI C oC D m₂ h tk E' e1 ⟨rfl, hd⟩ hn hx F8 N8 off ne
    obtain ⟨p, hp1, hp2, a, n, t, t', rfl, hm⟩ := pr_at H4 e1
    have hp3 := hl2 p hp1
    have hdv : DatIn rest (Value.ref a) (prD p) := .tuple hm (.cons (.str _ _) (.cons (.str _ _) .nil))
    have hp4 : prs.take (pre ++ [Value.ref a]).length = prs.take pre.length ++ [p] := by rw [List.length_append]; exact hp2
    k_steps
    all_goals
      refine LCg.CompEnd.intro (by k_asm) (by k_asm) (_ :: (l, listOf vs.toArray k) :: rest) (by walk_at "my sub") off (Or.inr ⟨_, .tail _ (.head _), rfl, _, rfl⟩) ⟨rfl, ?_⟩
      rw [hp4, List.filter_append, List.map_append]
    · rw [List.filter_cons_of_pos (by assumption)]
      exact hd.append (.one hdv)
    · rw [List.filter_cons_of_neg (by simp only [Bool.not_eq_true]; assumption)]
      simpa using hd
theorem join_one (sep x : Str) : Txt.join sep [x] = x := by
  rfl
set_option maxHeartbeats 4000000 in
theorem add_s {e : Env0} {rest : Led} {x d l : Addr} {t1 : Tok} {vs : List Value} {k : Nat} {prs : List (Str × Str)} (H : HdAt e.w.params rest x d l t1 vs prs) {nm vl : Str} {t u : Tok} (hl : nm.length < 1000) (hl2 : vl.length < 1000) (hn : okName e.w.params nm = true) (hv : okVal e.w.params vl = true) :
    Spec e 40 259 [.ref x, .str nm t, .str vl u] ((l, listOf vs.toArray k) :: rest) (fun v n => ∃ (D : Addr) (k : Nat) (t u : Tok), v = .none ∧ n = (l, listOf (vs ++ [Value.ref D]).toArray k) :: (D, { cls := .type "tuple", data := .seq #[Value.str nm t, Value.str vl u] }) :: rest ∧ @LT.lt Nat _ l D ∧ (∀ p ∈ rest, p.1 < D)) := by
  obtain ⟨w, p, loose, mean, mg, mb⟩ := e
  obtain ⟨H1, H2, H3, H4, H5⟩ := H
  have H6 : vs.length < 1000 := by rw [H4.length, List.length_map]; exact H5
  unfold Spec
  dsimp only
  k_fill
  intro dp un gd cn ns ig ic mo a ccd cl outer A₀ base h₀ L m s Q E B F X N T hd hu hret
  k_steps
  rename News _ _ _ _ => N9
  rename (_ ∧ _ ∧ _ ∧ _ ∧ AllLt _ _) => l9
  have N8 : News _ _ _ ((_, ({ cls := .type "tuple", data := .seq #[Value.str nm t, Value.str (Txt.join (Str.ofString "; ") [vl]) _] } : Obj)) :: (l, listOf vs.toArray k) :: rest) := cb_drop N9 (by walk_at "my sub")
  clear N9
  refine' append_K ?k1 N8 ?k3 ?_ ?z
  case k1 => k_asm
  case k3 => k_upd
  case z => (rw [List.size_toArray, sizeLine_eq]; omega)
  intro h' F' N'
  rw [join_one] at N'
  k_steps
  rename News h₀ L _ _ => N7
  rw [List.push_toArray] at N7
  refine' hret _ _ _ _ ?zF ?zN ⟨_, k + 1, t, _, rfl, rfl, l9.2.2.2.1, allLt_mem l9.2.2.2.2⟩
  case zN => exact cb_drop N7 (by walk_at "my sub")
  case zF => k_asm
set_option maxHeartbeats 4000000 in
theorem len_s {e : Env0} {news : Led} {x d l : Addr} {t1 : Tok} {vs : List Value} {k : Nat} {prs : List (Str × Str)} (H : HdIn e.w.params news x d l t1 vs k prs) :
    Spec e 40 170 [.ref x] news (fun v n => n = news ∧ ∃ t, v = .int prs.length t) := by
  obtain ⟨w, p, loose, mean, mg, mb⟩ := e
  obtain ⟨H1, H2, H3, H4, H5⟩ := H
  have H6 : vs.length = prs.length := by rw [H4.length, List.length_map]
  unfold Spec
  dsimp only
  k_fill
  intro dp un gd cn ns ig ic mo a ccd cl outer A₀ base h₀ L m s Q E B F X N T hd hu hret
  k_steps
  rw [H6]
  exact hret _ _ _ _ (by k_asm) (by k_asm) ⟨rfl, _, rfl⟩
set_option maxHeartbeats 4000000 in
theorem items_s {e : Env0} {news : Led} {x d l : Addr} {t1 : Tok} {vs : List Value} {k : Nat} {prs : List (Str × Str)} (H : HdIn e.w.params news x d l t1 vs k prs) :
    Spec e 40 226 [.ref x] news (fun v n => ∃ (D : Addr), v = .ref D ∧ n = (D, listOf vs.toArray 0) :: news ∧ (∀ p ∈ news, p.1 < D)) := by
  obtain ⟨w, p, loose, mean, mg, mb⟩ := e
  obtain ⟨H1, H2, H3, H4, H5⟩ := H
  have H6 : vs.length = prs.length := by rw [H4.length, List.length_map]
  unfold Spec
  dsimp only
  k_fill
  intro dp un gd cn ns ig ic mo a ccd cl outer A₀ base h₀ L m s Q E B F X N T hd hu hret
  k_steps
  rename News h₀ L _ _ => N7
  refine' hret _ _ _ _ ?zF ?zN ⟨_, rfl, rfl, by assumption⟩
  case zN => exact cb_drop N7 (by walk_at "my sub")
  case zF => k_asm
end
section
local macro_rules | `(tactic| walk_at "exec For Name Name cons nil") => `(tactic| (k_here; (rename Fr _ _ _ _ => lF'); (with_unfolding_all refine' For_invVF lF' ?k1 ?k2 ?_; (case k1 | k2 => exact rfl); k_whole)))
local macro_rules | `(tactic| walk_at "exec For Name Call cons nil") => `(tactic| (k_here; (rename Fr _ _ _ _ => lF'); (with_unfolding_all refine' For_invVF lF' ?k1 ?k2 ?_; (case k1 | k2 => exact rfl); k_whole)))
local macro_rules | `(tactic| walk_at "exec For Name BinOp cons nil") => `(tactic| (k_here; (rename Fr _ _ _ _ => lF'); (with_unfolding_all refine' For_invVF lF' ?k1 ?k2 ?_; (case k1 | k2 => exact rfl); k_whole)))
local macro_rules | `(tactic| walk_at "exec For Name Tuple cons nil") => `(tactic| (k_here; (rename Fr _ _ _ _ => lF'); (with_unfolding_all refine' For_invVF lF' ?k1 ?k2 ?_; (case k1 | k2 => exact rfl); k_whole)))
local macro_rules | `(tactic| k_all) => `(tactic| first | exact Mine.allNeS2 (by walk_at "my lt") | exact Mine.allNeS3 (by walk_at "my lt") | (refine List.forall_mem_cons.mpr ⟨?kall1, ?kall2⟩; (case kall1 => walk_at "my ne"); (case kall2 => k_all)))
section
theorem endW1 {h₀ : Heap} {L I : Addr} {it : Obj} {rest : (Str → Option Value) → Led → Prop} {s₁ : Shared} {h' : Heap} {tk : Nat} {m' : Str → Option Value} {all : Led} (F : Fr h₀ L h' m') (N : News h₀ L h' all) (news' : Led)
    (sub : ∀ p ∈ (I, it) :: news', p ∈ all) (off : ∀ p ∈ news', p.1 ≠ I) (r : rest m' news') : UnrEndW h₀ L s₁ [(I, it)] rest { s₁ with heap := h', toks := tk } :=
  ⟨h', tk, m', news', rfl, F, fun p hp => N p (sub p hp), fun p hp q hq => by rw [List.mem_singleton.mp hq]; exact off p hp, r⟩
theorem okName_first (p : Params) : okName p (Str.ofString "first") = true := by kernel_rfl
theorem okVal_own (p : Params) : okVal p (Str.ofString "own") = true := by kernel_rfl
set_option maxHeartbeats 4000000 in
theorem init_s {e : Env0} {news : Led} {hl pr : Addr} {k n : Nat} {t t' : Tok} (h1 : (hl, listOf [Value.ref pr].toArray k) ∈ news) (h2 : (pr, ({ cls := .type "tuple", data := .seq #[.str (Str.ofString "first") t, .str (Str.ofString "own") t'] n } : Obj)) ∈ news) :
    Spec e 60 262 [.ref hl] news (fun v n => ∃ (x d : Addr) (t1 : Tok), v = .ref x ∧ n = (x, instObj 262 d) :: (d, dictOf [⟨PyData.keyHash e.w.params (Str.ofString "_headers"), .str (Str.ofString "_headers") t1, .ref hl⟩] 1) :: news ∧ @LT.lt Nat _ d x ∧ (∀ p ∈ news, p.1 < d)) := by
  have q1 := okName_first e.w.params
  have q2 := okVal_own e.w.params
  obtain ⟨w, p, loose, mean, mg, mb⟩ := e
  unfold Spec
  dsimp only
  k_fill
  intro dp un gd cn ns ig ic mo a ccd cl outer A₀ base h₀ L m s Q E B F X N T hd hu hret
  k_steps
  unfold Halt
  rename Fr _ _ _ _ => F0
  rename News _ _ _ _ => N0
  obtain ⟨m₀, em, F9⟩ := Fr.gen F0
  obtain ⟨xs, ds, tr, q3, l1, l2, N9⟩ : ∃ (xs ds : Addr) (tr : Tok), m₀ (Str.ofString "self") = some (Value.ref xs) ∧ @LT.lt Nat _ ds xs ∧ (∀ p ∈ news, p.1 < ds) ∧ News _ _ _ ((xs, instObj 262 ds) :: (ds, dictOf [⟨PyData.keyHash w.params (Str.ofString "_headers"), .str (Str.ofString "_headers") tr, .ref hl⟩] 1) :: news) := by
    refine' ⟨_, _, _, ?h2, ?h5, ?h6, ?h7⟩
    case h2 => rw [em]; rfl
    case h7 => exact cb_drop N0 (by walk_at "my sub")
    case h5 => assumption
    case h6 => assumption
  have q5 := q3
  rw [em] at q5
  replace q5 := (Value.ref.inj (Option.some.inj q5)).symm
  subst q5
  refine iter_listT (fun pre m n => n = (xs, instObj 262 ds) :: (ds, dictOf [⟨PyData.keyHash w.params (Str.ofString "_headers"), .str (Str.ofString "_headers") tr, .ref hl⟩] 1) :: news ∧ ∃ u1 u2, m = upd [(Str.ofString "k", u1), (Str.ofString "v", u2)] m₀) (by rfl) F9 N9 (by k_mem) rfl rfl ?g0 ?g1 ?g2
  case g0 => exact ⟨rfl, m₀ (Str.ofString "k"), m₀ (Str.ofString "v"), upd_eq ⟨rfl, rfl, trivial⟩ (fun _ _ => rfl)⟩
  case g1 =>
    clear F9 N9
    rintro pre v post it I m n h tk e1 ⟨rfl, u1, u2, rfl⟩ e3 e4 e5 F8 N8
    have ev : v = .ref pr := by
      cases pre with
      | nil => exact (List.cons.inj e1).1.symm
      | cons a r => have := congrArg List.length e1; simp at this
    subst ev
    k_steps
    refine' endW1 ?zF ?zN ((xs, instObj 262 ds) :: _ :: news) ?zs e4 ⟨?zm, rfl, _, _, ?mp⟩
    case zF => k_asm
    case zN => k_asm
    case zs => walk_at "my sub"
    case zm => k_mem
    case mp => walk_at "my map"
  case g2 =>
    clear F9 N9
    rintro m n h tk ⟨rfl, u1, u2, rfl⟩ F8 N8
    k_steps
    rename News h₀ L _ _ => N7
    refine' hret _ _ _ _ ?yF ?yN ⟨_, ds, tr, rfl, rfl, l1, l2⟩
    case yN => exact cb_drop N7 (by walk_at "my sub")
    case yF => k_asm
end
section
local macro_rules | `(tactic| walk_at "my pad") => `(tactic| skip)
open LCg in
section
variable {prog : Program} {w : World} {A : Around} {E : Value → Shared → Prop} {s : Shared} {h₀ : Heap} {L : Addr} {m : Str → Option Value} {env : Env}
noncomputable def cntN (f : Nat → Bool) : Nat → Nat
  | 0 => 0
  | i + 1 => if f i = true then cntN f i + 1 else cntN f i
noncomputable def Pick (f : Nat → Bool) (Y : Value → Prop) (n : Nat) (ys : List Value) : Prop := ys.length = cntN f n ∧ ∀ y ∈ ys, Y y
theorem cntN_le {f : Nat → Bool} : ∀ n, cntN f n ≤ n
  | 0 => Nat.le_refl _
  | n + 1 => by
    have := cntN_le (f := f) n
    unfold cntN
    split <;> omega
theorem Pick.yes {f : Nat → Bool} {Y : Value → Prop} {n : Nat} {ys : List Value} {y : Value} (h : Pick f Y n ys) (hf : f n = true) (hy : Y y) : Pick f Y (n + 1) (ys ++ [y]) := by
  refine ⟨?_, fun z hz => ?_⟩
  · rw [List.length_append, List.length_singleton, h.1]; show _ = if f n = true then _ else _; rw [if_pos hf]
  · rcases List.mem_append.mp hz with hz | hz
    · exact h.2 z hz
    · rw [List.mem_singleton.mp hz]; exact hy
theorem Pick.no {f : Nat → Bool} {Y : Value → Prop} {n : Nat} {ys : List Value} (h : Pick f Y n ys) (hf : ¬ f n = true) : Pick f Y (n + 1) ys :=
  ⟨by rw [h.1]; show _ = if f n = true then _ else _; rw [if_neg hf], h.2⟩
/-- the source of a comprehension over zip(list, list), whose test and element leave the heap alone -/
structure ZipSrc (prog : Program) (w : World) (A : Around) (h₀ : Heap) (L : Addr) (m : Str → Option Value) (env : Env) (c elt : PySem.Expr) (a b : Str) (scope : Scope) (cl : List (Str × Addr)) (xs ys : List Value) (z TI TO i1 i2 l1 l2 : Addr) (news : Led) (f : Nat → Bool) (Y : Value → Prop) (Fin : Shared → List Value → Led → Prop) (s₁ : Shared) : Prop where
  hh : A.handled = none
  F : Fr h₀ L s₁.heap m
  N : News h₀ L s₁.heap news
  ap : ZipApart z TI TO i1 i2 l1 l2
  st : IsZip s₁.heap z TI TO .none ∧ IsPair s₁.heap TI (.ref i1) (.ref i2) ∧ (∃ a b, IsPair s₁.heap TO a b) ∧ s₁.heap.IsListIter i1 l1 0 ∧ s₁.heap.IsListIter i2 l2 0 ∧ s₁.heap.IsList l1 xs.toArray ∧ s₁.heap.IsList l2 ys.toArray
  nw : ∀ p ∈ news, p.1 ≠ z ∧ p.1 ≠ TO ∧ p.1 ≠ i1 ∧ p.1 ≠ i2
  no : ∀ b ∈ [z, TO, i1, i2], h₀.get? b = none
  nl : ∀ b ∈ [z, TO, i1, i2], L ≠ b
  len : xs.length ≤ 1000
  test : ∀ i x y C oC m₂ h tk (R : Bool → Shared → Prop) (E' : Value → Shared → Prop), xs[i]? = some x → ys[i]? = some y → NsObj oC m₂ → m₂ a = some x → m₂ b = some y → Fr h₀ L h m → News h₀ L h ((C, oC) :: news) → (∀ tk, R (f i) { s₁ with heap := h, toks := tk }) →
    wpAny (model prog w) A (isTrue c (compEnvC scope cl C env) (eval c (compEnvC scope cl C env))) R E' { s₁ with heap := h, toks := tk }
  elt : ∀ C h tk (R : Value → Shared → Prop) (E' : Value → Shared → Prop), (∀ y tk, Y y → R y { s₁ with heap := h, toks := tk }) → wpAny (model prog w) A (eval elt (compEnvC scope cl C env)) R E' { s₁ with heap := h, toks := tk }
  fin : ∀ g ys', Pick f Y (min xs.toArray.size ys.toArray.size) ys' → Fin { s₁ with heap := g } ys' news
noncomputable def ZSrc (prog : Program) (w : World) (A : Around) (h₀ : Heap) (L : Addr) (m : Str → Option Value) (env : Env) (c elt : PySem.Expr) (a b : Str) (scope : Scope) (cl : List (Str × Addr)) (Fin : Shared → List Value → Led → Prop) (xv : Value) (s₁ : Shared) : Prop :=
  ∃ xs ys z TI TO i1 i2 l1 l2 news f Y, xv = .ref z ∧ ZipSrc prog w A h₀ L m env c elt a b scope cl xs ys z TI TO i1 i2 l1 l2 news f Y Fin s₁
theorem zip_block {c elt iter : PySem.Expr} {a b : Str} {pa pb tp : Pos} {kk : Nat} {scope : Scope} {cl : List (Str × Addr)} {pos : Pos} {xs ys : List Value} {z TI TO i1 i2 l1 l2 : Addr} {news : Led} {f : Nat → Bool} {Y : Value → Prop} {Fin : Shared → List Value → Led → Prop} {s₂ : Shared} {RR : Value → Addr → Result → Shared → Prop}
    (Z : ZipSrc prog w A h₀ L m env c elt a b scope cl xs ys z TI TO i1 i2 l1 l2 news f Y Fin s₂)
    (hcell : ∀ y ∈ scope.names, y.2 ≠ .cell) (hkind : scope.kind = .function) (hxa : scope.names.lookup a = some .local) (hxb : scope.names.lookup b = some .local) (hab : ¬ a = b)
    (hRR : ∀ D C h tk m' ys', Fr h₀ L h m → News h₀ L h ((D, lst ys') :: news) → Off1 D news → h.Ns C m' → h₀.get? C = none → h₀.get? D = none → C ≠ L → D ≠ L → C ≠ D → (∀ p ∈ news, p.1 ≠ C) → Fin { s₂ with heap := s₂.heap } ys' news → RR (.ref D) C (.ok .next) { s₂ with heap := h, toks := tk }) :
    wpAny (model prog w) A (newList []) (fun acc s₃ => wpAny (model prog w) A (newFunctionEnv scope env.globals cl [] env.qual none .none (some env)) (fun cenv s₄ =>
      codeAny (model prog w) A (.compStart (.ListComp elt [⟨.Tuple [.Name a pa, .Name b pb] kk tp, iter, [c], 0⟩] scope pos) 0 (.ref z) acc { cenv with scope := relabel scope env }) (RR acc cenv.locals) s₄) E s₃) E s₂ := by
  obtain ⟨hh, F, N, ap, st, nw, no, nl, len, test, eltp, fin⟩ := Z
  have W := KTurns.ofWalksU (WalksT.zip2 (prog := prog) (w := w) (A := A) hh z TI TO i1 i2 l1 l2 ap xs.toArray ys.toArray).toU (elts := [.Name a pa, .Name b pb]) (k := kk) (pos := tp)
  refine wpAny_newObj_type (wpAny_newFunctionEnv hcell (by intro y hy; simp at hy) (fun h₁ hns₁ hsb₁ => ?_) hkind)
  dsimp only at hns₁ hsb₁ ⊢
  generalize hH2 : s₂.heap.push { cls := .type "list", dict := none, data := .seq ([] : List Value).toArray } = H2 at hns₁ hsb₁ ⊢
  have hC : H2.objs.size = s₂.heap.objs.size + 1 := by rw [← hH2, Heap.size_push]
  have hDC : s₂.heap.objs.size ≠ H2.objs.size := by rw [hC]; exact Nat.ne_of_lt (Nat.lt_succ_self _)
  have below : ∀ b, b < s₂.heap.objs.size → b ≠ H2.objs.size ∧ b ≠ s₂.heap.objs.size := fun b hb => ⟨by rw [hC]; exact Nat.ne_of_lt (Nat.lt_succ_of_lt hb), Nat.ne_of_lt hb⟩
  have old : ∀ b o, s₂.heap.get? b = some o → h₁.get? b = some o := fun b o e => hsb₁.extBut b o (below b (Heap.lt_size e)).1 (Heap.get?_push_of_some _ (hH2 ▸ Heap.get?_push_of_some _ e))
  have hacc : h₁.get? s₂.heap.objs.size = some (lst []) := hsb₁.extBut _ _ hDC (Heap.get?_push_of_some _ (hH2 ▸ Heap.get?_push_size _ rfl))
  have st1 := W.frame 0 s₂.heap h₁ st fun b _ o e => old b o e
  have fresh : ∀ a, s₂.heap.objs.size ≤ a → s₂.heap.get? a = none := fun a ha => by
    cases e : s₂.heap.get? a with
    | none => rfl
    | some o' => exact absurd (Heap.lt_size e) (Nat.not_lt.mpr ha)
  have fresh₀ : ∀ a, s₂.heap.objs.size ≤ a → h₀.get? a = none := fun a ha => by
    cases e : h₀.get? a with
    | none => rfl
    | some o' => have := F.keep a o' e; rw [fresh a ha] at this; cases this
  have hD₀ : h₀.get? s₂.heap.objs.size = none := fresh₀ _ (Nat.le_refl _)
  have hC₀ : h₀.get? H2.objs.size = none := fresh₀ _ (by rw [hC]; exact Nat.le_succ _)
  have hLlt : L < s₂.heap.objs.size := F.ns.lt
  have hDL : s₂.heap.objs.size ≠ L := Ne.symm (below L hLlt).2
  have hCL : H2.objs.size ≠ L := Ne.symm (below L hLlt).1
  have fpb : ∀ b ∈ [z, TI, TO, i1, i2, l1, l2], b < s₂.heap.objs.size := by
    obtain ⟨hz, hTI, ⟨ta, tb, hTO⟩, ⟨o1, h1, c1, _⟩, ⟨o2, h2, c2, _⟩, ⟨ol1, hl1, cl1, _⟩, ⟨ol2, hl2, cl2, _⟩⟩ := st
    intro b hb
    simp only [List.mem_cons, List.not_mem_nil, or_false] at hb
    rcases hb with rfl | rfl | rfl | rfl | rfl | rfl | rfl
    · exact Heap.lt_size hz
    · exact Heap.lt_size hTI
    · exact Heap.lt_size hTO
    · exact Heap.lt_size h1
    · exact Heap.lt_size h2
    · exact Heap.lt_size hl1
    · exact Heap.lt_size hl2
  have wrb : ∀ b ∈ [z, TO, i1, i2], b < s₂.heap.objs.size := fun b hb => fpb b (W.sub b hb)
  have off1 : Off1 s₂.heap.objs.size news := (Off3.of (I := s₂.heap.objs.size) (C := s₂.heap.objs.size) (D := s₂.heap.objs.size) fun p hp => by
    have := (below _ (Heap.lt_size (N p hp).1)).2
    exact ⟨this, this, this⟩).one
  have offC : ∀ p ∈ news, p.1 ≠ H2.objs.size := fun p hp => (below _ (Heap.lt_size (N p hp).1)).1
  have offD : ∀ p ∈ news, p.1 ≠ s₂.heap.objs.size := fun p hp => (below _ (Heap.lt_size (N p hp).1)).2
  have nwr : ∀ p ∈ news, p.1 ∉ [z, TO, i1, i2] := fun p hp hm => by
    obtain ⟨a1, a2, a3, a4⟩ := nw p hp
    simp only [List.mem_cons, List.not_mem_nil, or_false] at hm
    rcases hm with e | e | e | e
    · exact a1 e
    · exact a2 e
    · exact a3 e
    · exact a4 e
  have loop : ∀ s₃ : Shared, s₃ = { s₂ with heap := h₁, toks := s₂.toks + ([] : List (Str × Value)).length } →
      codeAny (model prog w) A (.compLoop (.ListComp elt [⟨.Tuple [.Name a pa, .Name b pb] kk tp, iter, [c], 0⟩] scope pos) 0 (.ref z) (.ref s₂.heap.objs.size) (compEnvC scope cl H2.objs.size env))
        (RR (.ref s₂.heap.objs.size) H2.objs.size) s₃ := by
    rintro s₃ rfl
    refine kct_loop
      (fun k s' => ∃ h' tk i m' us, s' = { s₂ with heap := h', toks := tk } ∧ i ≤ min xs.toArray.size ys.toArray.size ∧ k = min xs.toArray.size ys.toArray.size + 1 - i ∧ (IsZip h' z TI TO .none ∧ IsPair h' TI (.ref i1) (.ref i2) ∧ (∃ a b, IsPair h' TO a b) ∧ h'.IsListIter i1 l1 i ∧ h'.IsListIter i2 l2 i ∧ h'.IsList l1 xs.toArray ∧ h'.IsList l2 ys.toArray) ∧ Fr h₀ L h' m ∧ h'.Ns H2.objs.size m' ∧
        News h₀ L h' ((s₂.heap.objs.size, lst us) :: news) ∧ Pick f Y i us) ?_ (min xs.toArray.size ys.toArray.size + 1)
      ⟨h₁, _, 0, _, [], rfl, Nat.zero_le _, rfl, st1, F.keeps old, hns₁, fun p hp => ?_, rfl, fun _ h => nomatch h⟩
    · rintro k s' ⟨h', tk, i, m', us, rfl, hi, rfl, hst', F', hn', N', hP'⟩
      have hDh : h'.get? s₂.heap.objs.size = some (lst us) := (N' _ (.head _)).1
      by_cases hlt : i < min xs.toArray.size ys.toArray.size
      · refine W.item i _ _ _ hlt hst' fun v h₂ tk₂ hMd hk₂ => ?_
        refine W.go i v _ _ _ hMd fun h₃ hP hst₃ hk₃ => ?_
        obtain ⟨T, vals, rfl, ⟨x, y, hx, hy, rfl⟩, hT⟩ := hP
        have up₃ : ∀ c o, c ∉ [z, TO, i1, i2] → h'.get? c = some o → h₃.get? c = some o := fun c o hc e => hk₃ c o hc (hk₂ c o hc e)
        have hCw : H2.objs.size ∉ [z, TO, i1, i2] := fun hm => (below _ (wrb _ hm)).1 rfl
        have hDw : s₂.heap.objs.size ∉ [z, TO, i1, i2] := fun hm => (below _ (wrb _ hm)).2 rfl
        have hLw : L ∉ [z, TO, i1, i2] := fun hm => nl _ hm rfl
        refine kcp_assign (env := compEnvC scope cl H2.objs.size env) hh hT (lookup_relabel_local hxa) (lookup_relabel_local hxb) (by simp [compEnvC, relabel, hkind]) (hn'.at' fun o e => up₃ _ o hCw e) fun h₄ tk₄ hn₄ hs₄ => ?_
        have up : ∀ c o, c ∉ [z, TO, i1, i2] → c ≠ H2.objs.size → h'.get? c = some o → h₄.get? c = some o := fun c o h1 h2 e => hs₄ c o h2 (up₃ c o h1 e)
        have hst₄ := W.frame (i + 1) h₃ h₄ hst₃ fun b hb o e => hs₄ b o (fun q => (below _ (fpb b hb)).1 q) e
        obtain ⟨oC, heC, hoC⟩ := ns_obj hn₄
        have F₄ : Fr h₀ L h₄ m := ⟨F'.ns.at' fun o e => up _ o hLw (Ne.symm hCL) e, fun c o e => up c o (fun q => by rw [no _ q] at e; cases e) (fun q => by rw [q, hC₀] at e; cases e) (F'.keep c o e), F'.above⟩
        have N₄ : News h₀ L h₄ ((s₂.heap.objs.size, lst us) :: news) := fun p hp => by
          have z := N' p hp
          refine ⟨up _ _ ?_ ?_ z.1, z.2⟩
          · rcases List.mem_cons.mp hp with rfl | hp
            · exact hDw
            · exact nwr p hp
          · rcases List.mem_cons.mp hp with rfl | hp
            · exact hDC
            · exact offC p hp
        have N₅ : News h₀ L h₄ ((H2.objs.size, oC) :: news) := fun p hp => by
          rcases List.mem_cons.mp hp with rfl | hp
          · exact ⟨heC, hCL, hC₀⟩
          · exact N₄ p (.tail _ hp)
        refine test i x y H2.objs.size oC _ h₄ _ _ _ (by simpa using hx) (by simpa using hy) hoC (by simp [hab]) (by simp) F₄ N₅ fun tk₅ => ?_
        have step : ∀ (ys' : List Value) (h₅ : Heap) (tk₆ : Nat), Pick f Y (i + 1) ys' → (IsZip h₅ z TI TO .none ∧ IsPair h₅ TI (.ref i1) (.ref i2) ∧ (∃ a b, IsPair h₅ TO a b) ∧ h₅.IsListIter i1 l1 (i + 1) ∧ h₅.IsListIter i2 l2 (i + 1) ∧ h₅.IsList l1 xs.toArray ∧ h₅.IsList l2 ys.toArray) → Fr h₀ L h₅ m → (∃ m', h₅.Ns H2.objs.size m') → News h₀ L h₅ ((s₂.heap.objs.size, lst ys') :: news) →
            ∃ q', q' < min xs.toArray.size ys.toArray.size + 1 - i ∧ (∃ h' tk i m' us, ({ s₂ with heap := h₅, toks := tk₆ } : Shared) = { s₂ with heap := h', toks := tk } ∧ i ≤ min xs.toArray.size ys.toArray.size ∧ q' = min xs.toArray.size ys.toArray.size + 1 - i ∧ (IsZip h' z TI TO .none ∧ IsPair h' TI (.ref i1) (.ref i2) ∧ (∃ a b, IsPair h' TO a b) ∧ h'.IsListIter i1 l1 i ∧ h'.IsListIter i2 l2 i ∧ h'.IsList l1 xs.toArray ∧ h'.IsList l2 ys.toArray) ∧ Fr h₀ L h' m ∧ h'.Ns H2.objs.size m' ∧
        News h₀ L h' ((s₂.heap.objs.size, lst us) :: news) ∧ Pick f Y i us) := by
          rintro ys' h₅ tk₆ hp₅ st₅ F₅ ⟨m₅, n₅⟩ N₅
          exact ⟨min xs.toArray.size ys.toArray.size + 1 - (i + 1), by omega, h₅, tk₆, i + 1, m₅, ys', rfl, hlt, rfl, st₅, F₅, n₅, N₅, hp₅⟩
        by_cases hf : f i = true
        · simp only [hf, if_true]
          refine eltp H2.objs.size h₄ tk₅ _ _ fun y0 tk₆ hy => ?_
          have zD := (N₄ (s₂.heap.objs.size, lst us) (.head _)).1
          refine append_at (hsz := by show us.toArray.size ≤ sizeLine; have := cntN_le (f := f) i; have := hP'.1; rw [List.size_toArray, sizeLine_eq]; rw [List.size_toArray, List.size_toArray] at hi; omega) zD fun h₆ hs₆ hD₆ => ?_
          refine step (us ++ [y0]) h₆ _ (hP'.yes hf hy) ?_ (F₄.change hs₆ hDL hD₀) ⟨_, (hoC.ns heC).sameBut hs₆ (Ne.symm hDC)⟩ fun q hq => ?_
          · exact W.frame (i + 1) h₄ h₆ hst₄ fun b hb o e => hs₆.extBut b o (fun q => (below _ (fpb b hb)).2 q) e
          · rcases List.mem_cons.mp hq with rfl | hq
            · exact ⟨hD₆.trans (congrArg some (lst_snoc _ y0)), hDL, hD₀⟩
            · exact ⟨hs₆.extBut _ _ (offD q hq) (N₄ q (.tail _ hq)).1, (N₄ q (.tail _ hq)).2⟩
        · simp only [hf]
          exact step us h₄ tk₅ (hP'.no hf) hst₄ F₄ ⟨_, hn₄⟩ N₄
      · have hin : i = min xs.toArray.size ys.toArray.size := Nat.le_antisymm hi (Nat.not_lt.mp hlt)
        rw [hin] at hst' hP'
        refine W.done _ _ _ hst' fun h₂ tk₂ hk₂ => ?_
        have hCw : H2.objs.size ∉ [z, TO, i1, i2] := fun hm => (below _ (wrb _ hm)).1 rfl
        have hDw : s₂.heap.objs.size ∉ [z, TO, i1, i2] := fun hm => (below _ (wrb _ hm)).2 rfl
        have hLw : L ∉ [z, TO, i1, i2] := fun hm => nl _ hm rfl
        have F₂ : Fr h₀ L h₂ m := ⟨F'.ns.at' fun o e => hk₂ _ o hLw e, fun c o e => hk₂ c o (fun q => by rw [no _ q] at e; cases e) (F'.keep c o e), F'.above⟩
        exact hRR _ _ h₂ tk₂ _ _ F₂ (fun p hp => ⟨hk₂ _ _ (by
          rcases List.mem_cons.mp hp with rfl | hp
          · exact hDw
          · exact nwr p hp) (N' p hp).1, (N' p hp).2⟩) off1 (hn'.at' fun o e => hk₂ _ o hCw e) hC₀ hD₀ hCL hDL (Ne.symm hDC) offC (fin _ _ hP')
    · rcases List.mem_cons.mp hp with rfl | hp
      · exact ⟨hacc, hDL, hD₀⟩
      · exact ⟨old _ _ (N p hp).1, (N p hp).2⟩
  exact codeAny_compStart_list (loop _ rfl) (wpAny_pyIter_zip st1.1 (loop _ rfl))
theorem ListComp_zip {c elt iter : PySem.Expr} {a b : Str} {pa pb tp : Pos} {kk : Nat} {scope : Scope} {cl : List (Str × Addr)} {pos : Pos} {Q : Value → Shared → Prop} (_F₀ : Fr h₀ L s.heap m)
    (hclos : closureFor scope env = pure cl) (hcell : ∀ y ∈ scope.names, y.2 ≠ .cell) (hkind : scope.kind = .function)
    (hnames : ∀ y ∈ scope.names, y.2 = .local → scope.names.lookup y.1 = some .local) (hxa : scope.names.lookup a = some .local) (hxb : scope.names.lookup b = some .local) (hab : ¬ a = b)
    (h : wpAny (model prog w) A (eval iter env) (ZSrc prog w A h₀ L m env c elt a b scope cl (fun s₂ => FinE h₀ L m s₂ Q)) E s)
    (hs : ∀ x, foldedSetIterable iter env x = pure x := by intro _; rfl) :
    wpAny (model prog w) A (eval (.ListComp elt [⟨.Tuple [.Name a pa, .Name b pb] kk tp, iter, [c], 0⟩] scope pos) env) Q E s := by
  rw [eval_ListComp]
  refine wpAny_comprehension_free (use := none) rfl hs hclos hkind hnames (wpAny_mono h (fun xv s₁ h₁ => ?_) fun _ _ e => e)
  obtain ⟨xs, ys, z, TI, TO, i1, i2, l1, l2, news, f, Y, rfl, Z⟩ := h₁
  refine wpAny_pyIter_zip Z.st.1 ?_
  refine zip_block Z hcell hkind hxa hxb hab ?_
  intro D C h tk m' ys' F' N' o1 hn hC₀ hD₀ hCL hDL hCD offC fin
  refine ⟨m', hn, fun h'' hs'' => fin D h'' tk (F'.change hs'' hCL hC₀) (fun p hp => ?_) o1⟩
  refine ⟨hs''.extBut _ _ ?_ (N' p hp).1, (N' p hp).2⟩
  rcases List.mem_cons.mp hp with rfl | hp
  · exact Ne.symm hCD
  · exact offC p hp
theorem zip_call {c elt : PySem.Expr} {a b : Str} {scope : Scope} {cl : List (Str × Addr)} {Fin : Shared → List Value → Led → Prop} {l1 l2 : Addr} {xs ys : List Value} {k1 k2 : Nat} {news : Led} (f : Nat → Bool) (Y : Value → Prop)
    (hh : A.handled = none) (F : Fr h₀ L s.heap m) (N : News h₀ L s.heap news) (m1 : (l1, listOf xs.toArray k1) ∈ news) (m2 : (l2, listOf ys.toArray k2) ∈ news) (len : xs.length ≤ 1000)
    (test : ∀ i x y C oC m₂ h tk (R : Bool → Shared → Prop) (E' : Value → Shared → Prop), xs[i]? = some x → ys[i]? = some y → NsObj oC m₂ → m₂ a = some x → m₂ b = some y → Fr h₀ L h m → News h₀ L h ((C, oC) :: news) → (∀ tk, R (f i) { s with heap := h, toks := tk }) →
      wpAny (model prog w) A (isTrue c (compEnvC scope cl C env) (eval c (compEnvC scope cl C env))) R E' { s with heap := h, toks := tk })
    (eltp : ∀ C h tk (R : Value → Shared → Prop) (E' : Value → Shared → Prop), (∀ y tk, Y y → R y { s with heap := h, toks := tk }) → wpAny (model prog w) A (eval elt (compEnvC scope cl C env)) R E' { s with heap := h, toks := tk })
    (fin : ∀ g ys', Pick f Y (min xs.toArray.size ys.toArray.size) ys' → Fin { s with heap := g } ys' news) :
    wpAny (model prog w) A (call (.type "zip") [.ref l1, .ref l2]) (ZSrc prog w A h₀ L m env c elt a b scope cl Fin) E s := by
  have hl1 : s.heap.IsList l1 xs.toArray := News.isList N m1
  have hl2 : s.heap.IsList l2 ys.toArray := News.isList N m2
  have hlt1 : l1 < s.heap.objs.size := Heap.lt_size (N _ m1).1
  have hlt2 : l2 < s.heap.objs.size := Heap.lt_size (N _ m2).1
  have D : ZipApart (s.heap.objs.size + 4) (s.heap.objs.size + 2) (s.heap.objs.size + 3) s.heap.objs.size (s.heap.objs.size + 1) l1 l2 := ktu_apart _ _ _ hlt1 hlt2
  refine call_zip_2 hl1 hl2 fun h' hz hTI hTO hi1 hi2 hsz hk => ?_
  refine ⟨xs, ys, s.heap.objs.size + 4, s.heap.objs.size + 2, s.heap.objs.size + 3, s.heap.objs.size, s.heap.objs.size + 1, l1, l2, news, f, Y, rfl, hh, F.keeps hk, N.grown hk, D, ⟨hz, hTI, ⟨_, _, hTO⟩, hi1, hi2, hl1.at fun o e => hk _ _ e, hl2.at fun o e => hk _ _ e⟩, fun p hp => ?_, fun b hb => ?_, fun b hb => ?_, len, ?_, ?_, fun g ys' hp => fin g ys' hp⟩
  · have := Heap.lt_size (N p hp).1
    have n1 : @LT.lt Nat _ p.1 s.heap.objs.size := this
    exact ⟨Nat.ne_of_lt (Nat.lt_of_lt_of_le n1 (Nat.le_add_right _ _)), Nat.ne_of_lt (Nat.lt_of_lt_of_le n1 (Nat.le_add_right _ _)), Nat.ne_of_lt n1, Nat.ne_of_lt (Nat.lt_of_lt_of_le n1 (Nat.le_add_right _ _))⟩
  · have hb' : b = s.heap.objs.size + 4 ∨ b = s.heap.objs.size + 3 ∨ b = s.heap.objs.size ∨ b = s.heap.objs.size + 1 := by simpa using hb
    rcases hb' with rfl | rfl | rfl | rfl
    · exact ktu_new F (Nat.le_add_right _ _)
    · exact ktu_new F (Nat.le_add_right _ _)
    · exact ktu_new F (Nat.le_refl _)
    · exact ktu_new F (Nat.le_add_right _ _)
  · have hb' : b = s.heap.objs.size + 4 ∨ b = s.heap.objs.size + 3 ∨ b = s.heap.objs.size ∨ b = s.heap.objs.size + 1 := by simpa using hb
    have hL : @LT.lt Nat _ L s.heap.objs.size := F.ns.lt
    rcases hb' with rfl | rfl | rfl | rfl
    · exact Nat.ne_of_lt (Nat.lt_of_lt_of_le hL (Nat.le_add_right _ _))
    · exact Nat.ne_of_lt (Nat.lt_of_lt_of_le hL (Nat.le_add_right _ _))
    · exact Nat.ne_of_lt hL
    · exact Nat.ne_of_lt (Nat.lt_of_lt_of_le hL (Nat.le_add_right _ _))
  · intro i x y C oC m₂ h tk R E' e1 e2 n1 a1 b1 F1 N1 hR
    exact test i x y C oC m₂ h tk R E' e1 e2 n1 a1 b1 F1 N1 hR
  · intro C h tk R E' hR
    exact eltp C h tk R E' hR
end
local macro_rules | `(tactic| walk_at "eval ListComp") => `(tactic| (k_here; (rename Fr _ _ _ _ => lF'); k_dflt (refine Mine.ListComp_zip lF' (by rfl) (by decide) (by rfl) (by decide) (by rfl) (by rfl) (by first | decide | decide +kernel) ?_)))
local macro_rules | `(tactic| walk_at "call type:zip") => `(tactic| (refine Mine.halt ?_))
noncomputable def geAt (xs ys : List Int) (i : Nat) : Bool := decide (ys.getD i 0 ≤ xs.getD i 0)
theorem cntN_zero {f : Nat → Bool} : ∀ n, (cntN f n = 0) ↔ (List.range n).all (fun i => !f i) = true
  | 0 => by simp [cntN]
  | n + 1 => by
    have ih := cntN_zero (f := f) n
    unfold cntN
    rw [List.range_succ, List.all_append, Bool.and_eq_true, ← ih]
    cases hf : f n with
    | true => simp [hf]
    | false => simp [hf]
noncomputable def aboveV (xs ys : List Int) : Bool := (List.range (min xs.length ys.length)).all fun i => !geAt xs ys i
theorem ones_dat {news : Led} : ∀ {ys : List Value}, (∀ y ∈ ys, ∃ t, y = .int 1 t) → DatAll news ys ((List.replicate ys.length 1).map .int)
  | [], _ => .nil
  | y :: ys, h => by
    obtain ⟨t, rfl⟩ := h y (.head _)
    exact .cons (.int 1 t) (ones_dat fun y hy => h y (.tail _ hy))
set_option maxHeartbeats 4000000 in
theorem above_s {e : Env0} {news : Led} {a1 b1 : Addr} {vs us : List Value} {xs ys : List Int} {k k2 : Nat} (hl : (a1, listOf vs.toArray k) ∈ news) (hl2 : (b1, listOf us.toArray k2) ∈ news) (hi : IntsAre vs xs) (hi2 : IntsAre us ys) (len : xs.length ≤ 1000) :
    Spec e 20 292 [.ref a1, .ref b1] news (fun v n => n = news ∧ v = .bool (aboveV xs ys)) := by
  obtain ⟨w, p, loose, mean, mg, mb⟩ := e
  have o6 := hi.length
  have o7 := hi2.length
  unfold Spec
  dsimp only
  k_fill
  intro dp un gd cn ns ig ic mo a ccd cl outer A₀ base h₀ L m s Q E B F X N T hd hu hret
  k_steps
  unfold Halt
  rename Fr _ _ _ _ => F9
  rename News _ _ _ _ => N9
  refine zip_call (geAt xs ys) (fun y => ∃ t, y = .int 1 t) (by rfl) F9 N9 hl hl2 (by omega) ?test ?elt ?fin
  case test =>
    clear F9 N9
    intro i x y C oC m₂ h tk R E' e1 e2 n1 q1 q2 F8 N8 hR
    have i1 : i < xs.length := by rw [← o6]; exact (List.getElem?_eq_some_iff.mp e1).1
    have i2 : i < ys.length := by rw [← o7]; exact (List.getElem?_eq_some_iff.mp e2).1
    obtain ⟨t1, f1⟩ := ints_at hi i1
    obtain ⟨t2, f2⟩ := ints_at hi2 i2
    have x1 : x = .int (xs.getD i 0) t1 := Option.some.inj (e1.symm.trans f1)
    have y1 : y = .int (ys.getD i 0) t2 := Option.some.inj (e2.symm.trans f2)
    subst x1 y1
    k_steps
    exact hR _
  case elt =>
    clear F9 N9
    intro C h tk R E' hR
    k_steps
    exact hR _ _ ⟨_, rfl⟩
  case fin =>
    clear F9 N9
    rintro g zs ⟨z1, z2⟩ D h tk F8 N8 off
    k_steps
    refine dat_eq (by k_asm) (DatIn.list (by k_mem) (ones_dat z2)) (DatIn.list (by k_mem) .nil) (by simp [kqdOk, ok_ints]) (by simp [kqdOk]) (by k_units) fun r hr => ?_
    k_steps
    refine' hret _ _ _ _ ?zF ?zN ⟨rfl, ?_⟩
    case zN => walk_at "my news"
    case zF => k_asm
    congr 1
    unfold aboveV
    rw [Bool.eq_iff_iff, hr, ← cntN_zero]
    rw [List.size_toArray, List.size_toArray, o6, o7] at z1
    rw [← z1]
    cases zs <;> simp
end
section
noncomputable def bareStep (w : List Nat) (c : Nat) : List Nat := if c = 46 then [] else w ++ [c]
noncomputable def bareL (l : List Nat) : List Nat := l.foldl bareStep []
noncomputable def bareV (msg : Str) : Str := ⟨(bareL (msg.cps.toList.takeWhile fun c => c ≠ 58 ∧ c ≠ 10)).toArray⟩
theorem bareL_snoc (pre : List Nat) (c : Nat) : bareL (pre ++ [c]) = bareStep (bareL pre) c := by
  unfold bareL; rw [List.foldl_append]; rfl
theorem bareL_len : ∀ (l w : List Nat), (l.foldl bareStep w).length ≤ w.length + l.length
  | [], _ => Nat.le_refl _
  | c :: l, w => by
    rw [List.foldl_cons]
    have := bareL_len l (bareStep w c)
    have h2 : (bareStep w c).length ≤ w.length + 1 := by
      unfold bareStep; split
      · simp
      · simp
    rw [List.length_cons]; omega
theorem in_stop {c : Nat} : (PySem.Builtin.Str.occurrences (Str.ofString ":\n") ⟨#[c]⟩ 0 (Str.ofString ":\n").length 1).isEmpty = !decide (c = 58 ∨ c = 10) := by
  rw [empty_one]
  have e : (Str.ofString ":\n").cps.toList = [58, 10] := by decide +kernel
  rw [e]
  congr 1
  simp
theorem dot_eq {c : Nat} : ((⟨#[c]⟩ : Str) == Str.ofString ".") = (c == 46) := by
  rw [show Str.ofString "." = ⟨#[46]⟩ from by decide +kernel]; exact sign_eq
theorem bare_word {pre : List Nat} {c : Nat} (h : c ≠ 46) : (⟨(bareL pre).toArray⟩ : Str) ++ (⟨#[c]⟩ : Str) = ⟨(bareL (pre ++ [c])).toArray⟩ := by
  rw [bareL_snoc]
  unfold bareStep
  rw [if_neg h]
  show (⟨(bareL pre).toArray ++ #[c]⟩ : Str) = _
  congr 1
  simp
theorem bare_dot {pre : List Nat} {c : Nat} (h : c = 46) : Str.ofString "" = ⟨(bareL (pre ++ [c])).toArray⟩ := by
  rw [bareL_snoc]
  unfold bareStep
  rw [if_pos h]
  decide +kernel
theorem stop_take {l pre post : List Nat} {c : Nat} (e : l = pre ++ c :: post) (all : ∀ x ∈ pre, x ≠ 58 ∧ x ≠ 10) (h : c = 58 ∨ c = 10) : (l.takeWhile fun c => c ≠ 58 ∧ c ≠ 10) = pre := by
  subst e
  rw [List.takeWhile_append_of_pos (by intro a ha; simpa using all a ha), List.takeWhile_cons_of_neg (by rcases h with rfl | rfl <;> simp), List.append_nil]
theorem stop_all {l : List Nat} (all : ∀ x ∈ l, x ≠ 58 ∧ x ≠ 10) : (l.takeWhile fun c => c ≠ 58 ∧ c ≠ 10) = l := by
  have h := List.takeWhile_append_of_pos (p := fun c : Nat => decide (c ≠ 58 ∧ c ≠ 10)) (l₁ := l) (l₂ := []) (by intro a ha; simpa using all a ha)
  simpa using h
theorem snoc_no {pre : List Nat} {c : Nat} (all : ∀ x ∈ pre, x ≠ 58 ∧ x ≠ 10) (hc : ¬ (c = 58 ∨ c = 10)) : ∀ x ∈ pre ++ [c], x ≠ 58 ∧ x ≠ 10 := by
  intro x hx
  rcases List.mem_append.mp hx with hx | hx
  · exact all x hx
  · rw [List.mem_singleton.mp hx]; omega
set_option maxHeartbeats 4000000 in
theorem bare_s (e : Env0) (news : Led) (msg : Str) (t : Tok) (hl : msg.length < 100) : Spec e 20 280 [.str msg t] news (fun v n => n = news ∧ ∃ t, v = .str (bareV msg) t) := by
  obtain ⟨w, p, loose, mean, mg, mb⟩ := e
  unfold Spec
  dsimp only
  k_fill
  intro dp un gd cn ns ig ic mo a ccd cl outer A₀ base h₀ L m s Q E B F X N T hd hu hret
  k_steps
  unfold Halt
  rename Fr _ _ _ _ => F0
  rename News _ _ _ _ => N0
  obtain ⟨m₀, em, F9⟩ := Fr.gen F0
  have N9 : News _ _ _ news := cb_drop N0 (by walk_at "my sub")
  obtain ⟨tw, q1⟩ : ∃ t, m₀ (Str.ofString "word") = some (Value.str (Str.ofString "") t) := ⟨_, by rw [em]; rfl⟩
  refine iter_strP (fun pre m n => n = news ∧ (∀ x ∈ pre, x ≠ 58 ∧ x ≠ 10) ∧ ∃ u t, m = upd [(Str.ofString "sign", u), (Str.ofString "word", some (.str ⟨(bareL pre).toArray⟩ t))] m₀) (by rfl) F9 N9 ?g0 ?g1 ?g2
  case g0 => exact ⟨rfl, (fun _ h => nomatch h), m₀ (Str.ofString "sign"), tw, upd_eq ⟨rfl, q1, trivial⟩ (fun _ _ => rfl)⟩
  case g1 =>
    clear F0 N0 F9 N9
    rintro pre ch post u it I m n h tk e1 ⟨rfl, all, u', tw', rfl⟩ e3 e4 F8 N8
    have hp : pre.length < 100 := by
      have := congrArg List.length e1
      rw [List.length_append, List.length_cons, Array.length_toList] at this
      have hl' : msg.cps.size < 100 := hl
      omega
    have hb : (⟨(bareL pre).toArray⟩ : Str).length < 100 := by
      show (bareL pre).toArray.size < 100
      rw [List.size_toArray]
      have := bareL_len pre []
      unfold bareL
      simp only [List.length_nil] at this
      omega
    k_steps
    · rename ((_ == Str.ofString ".") = true) => hd
      rw [dot_eq] at hd
      have hd' : ch = 46 := beq_iff_eq.mp hd
      refine' UnrEnd.intro ?aF ?aN n ?as e4 ⟨rfl, ?aa, _, _, ?am⟩
      case aF => k_asm
      case aN => k_asm
      case as => walk_at "my sub"
      case aa => exact snoc_no all (by omega)
      case am => rw [← bare_dot hd']; walk_at "my map"
    · rename ((_ == Str.ofString ".") = false) => hd
      rename ((List.isEmpty _) = true) => hs
      rw [dot_eq] at hd
      rw [in_stop, Bool.not_eq_true', decide_eq_false_iff_not] at hs
      refine' UnrEnd.intro ?bF ?bN n ?bs e4 ⟨rfl, ?ba, _, _, ?bm⟩
      case bF => k_asm
      case bN => k_asm
      case bs => walk_at "my sub"
      case ba => exact snoc_no all hs
      case bm => rw [← bare_word (beq_eq_false_iff_ne.mp hd)]; walk_at "my map"
    · rename ((List.isEmpty _) = false) => hs
      rw [in_stop, Bool.not_eq_false', decide_eq_true_iff] at hs
      refine' hret _ _ _ _ ?cF ?cN ⟨rfl, _, ?cv⟩
      case cF => k_asm
      case cN => walk_at "my news"
      case cv => unfold bareV; rw [stop_take e1 all hs]
  case g2 =>
    clear F0 N0 F9 N9
    rintro m n h tk ⟨rfl, all, u, t', rfl⟩ F8 N8
    k_steps
    refine' hret _ _ _ _ ?dF ?dN ⟨rfl, _, ?dv⟩
    case dF => k_asm
    case dN => walk_at "my news"
    case dv => unfold bareV; rw [stop_all all]
end
section
local macro_rules | `(tactic| walk_at "my pad") => `(tactic| skip)
noncomputable def colStep (size : Nat) (col : Nat) (c : Nat) : Nat := if c = 9 then (col / size + 1) * size else col + 1
noncomputable def colOf (size : Nat) (l : List Nat) : Nat := l.foldl (colStep size) 0
noncomputable def colsL (l : List Nat) (n : Nat) : List Int := (List.range n).map fun i => (colOf (i + 1) l : Int)
noncomputable def colsV (lead : Str) : List Int := colsL lead.cps.toList 6
theorem colOf_snoc (size : Nat) (pre : List Nat) (c : Nat) : colOf size (pre ++ [c]) = colStep size (colOf size pre) c := by
  unfold colOf; rw [List.foldl_append]; rfl
theorem colStep_le {size col c : Nat} (h : 1 ≤ size) (h2 : size ≤ 6) : colStep size col c ≤ col + 6 := by
  unfold colStep
  split
  · have : size = 1 ∨ size = 2 ∨ size = 3 ∨ size = 4 ∨ size = 5 ∨ size = 6 := by omega
    rcases this with rfl | rfl | rfl | rfl | rfl | rfl <;> omega
  · omega
theorem colOf_le {size : Nat} (h : 1 ≤ size) (h2 : size ≤ 6) : ∀ (l : List Nat) (c : Nat), l.foldl (colStep size) c ≤ c + 6 * l.length
  | [], _ => Nat.le_refl _
  | x :: l, c => by
    rw [List.foldl_cons, List.length_cons]
    have := colOf_le h h2 l (colStep size c x)
    have := colStep_le (col := c) (c := x) h h2
    omega
theorem fmod_nat {x i : Nat} : ((x : Int).fmod (1 + (i : Int))) = ((x % (i + 1) : Nat) : Int) := by
  rw [Int.fmod_eq_emod_of_nonneg _ (by omega)]
  have : (1 + (i : Int)) = ((i + 1 : Nat) : Int) := by omega
  rw [this, ← Int.natCast_emod]
theorem tgt_tab {size col : Nat} (h : 1 ≤ size) (h2 : size ≤ 6) : col + 1 ≤ colStep size col 9 := by
  unfold colStep
  rw [if_pos rfl]
  have : size = 1 ∨ size = 2 ∨ size = 3 ∨ size = 4 ∨ size = 5 ∨ size = 6 := by omega
  rcases this with rfl | rfl | rfl | rfl | rfl | rfl <;> omega
theorem tgt_on {size col x : Nat} (h : 1 ≤ size) (h2 : size ≤ 6) (hx : x ≤ colStep size col 9) (hm : ¬ x % size = 0) : x + 1 ≤ colStep size col 9 := by
  unfold colStep at hx ⊢
  rw [if_pos rfl] at hx ⊢
  have : size = 1 ∨ size = 2 ∨ size = 3 ∨ size = 4 ∨ size = 5 ∨ size = 6 := by omega
  rcases this with rfl | rfl | rfl | rfl | rfl | rfl <;> omega
theorem tgt_end {size col x : Nat} (h : 1 ≤ size) (h2 : size ≤ 6) (hx : x ≤ colStep size col 9) (hc : col + 1 ≤ x) (hm : x % size = 0) : x = colStep size col 9 := by
  unfold colStep at hx ⊢
  rw [if_pos rfl] at hx ⊢
  have : size = 1 ∨ size = 2 ∨ size = 3 ∨ size = 4 ∨ size = 5 ∨ size = 6 := by omega
  rcases this with rfl | rfl | rfl | rfl | rfl | rfl <;> omega
local macro_rules | `(tactic| walk_at "exec While BoolOp cons nil") => `(tactic| (refine Mine.halt ?_))
set_option maxHeartbeats 4000000 in
theorem cols_s (e : Env0) (news : Led) (lead : Str) (t : Tok) (hl : lead.length < 100) : Spec e 20 287 [.str lead t] news (fun v n => ∃ (D : Addr) (vs : List Value) (k : Nat), v = .ref D ∧ n = (D, listOf vs.toArray k) :: news ∧ IntsAre vs (colsV lead) ∧ (∀ p ∈ news, p.1 < D)) := by
  obtain ⟨w, p, loose, mean, mg, mb⟩ := e
  unfold Spec
  dsimp only
  k_fill
  intro dp un gd cn ns ig ic mo a ccd cl outer A₀ base h₀ L m s Q E B F X N T hd hu hret
  k_steps
  unfold Halt
  rename Fr _ _ _ _ => F0
  rename News _ _ _ _ => N0
  rename IsRange _ _ _ _ _ _ _ _ => R0
  obtain ⟨m₀, em, F9⟩ := Fr.gen F0
  obtain ⟨D, hD, lD, N9⟩ : ∃ D : Addr, m₀ (Str.ofString "columns") = some (.ref D) ∧ (∀ p ∈ news, p.1 < D) ∧ News _ _ _ ((D, listOf [].toArray 0) :: news) := by
    refine' ⟨_, ?h1, ?h2, ?h3⟩
    case h1 => rw [em]; rfl
    case h3 => exact cb_drop N0 (by walk_at "my sub")
    case h2 => assumption
  obtain ⟨tl, qlead⟩ : ∃ t, m₀ (Str.ofString "lead") = some (Value.str lead t) := ⟨_, by rw [em]; rfl⟩
  clear em
  refine iter_rangeP (n := 6) (fun i m n => ∃ vs k u1 u2 u3, n = (D, listOf vs.toArray k) :: news ∧ IntsAre vs (colsL lead.cps.toList i) ∧ m = upd [(Str.ofString "size", u1), (Str.ofString "column", u2), (Str.ofString "letter", u3)] m₀) (by rfl) R0 (by rfl) (by rfl) F9 N9 ?g0 ?g1 ?g2
  case g0 => exact ⟨[], 0, m₀ (Str.ofString "size"), m₀ (Str.ofString "column"), m₀ (Str.ofString "letter"), rfl, .nil, upd_eq ⟨rfl, rfl, rfl, trivial⟩ (fun _ _ => rfl)⟩
  case g1 =>
    clear F0 N0 F9 N9
    rintro i t it I m n h tk hi ⟨vs, k, u1, u2, u3, rfl, hvs, rfl⟩ e3 e4 F8 N8
    have ov := hvs.length
    have ol : (colsL lead.cps.toList i).length = i := by unfold colsL; rw [List.length_map, List.length_range]
    have nD : D ≠ I := e4 _ (.head _)
    k_steps
    unfold Halt
    rename Fr _ _ _ _ => F7
    rename News _ _ _ _ => N7
    refine iter_strP (fun pre m n => n = (I, it) :: (D, listOf vs.toArray k) :: news ∧ ∃ t1 t2 u, m = upd [(Str.ofString "size", some (.int (1 + (i : Int)) t1)), (Str.ofString "column", some (.int (colOf (i + 1) pre : Nat) t2)), (Str.ofString "letter", u)] m₀) (by rfl) F7 (by k_asm) ?j0 ?j1 ?j2
    case j0 =>
      refine' ⟨rfl, _, _, _, ?jm⟩
      case jm => walk_at "my map"
    case j1 =>
      clear F7 N7
      rintro pre ch post u it' I' m n h' tk' e1 ⟨rfl, t1, t2, u', rfl⟩ e5 e6 F5 N5
      have hp : pre.length < 100 := by
        have := congrArg List.length e1
        rw [List.length_append, List.length_cons, Array.length_toList] at this
        have hl' : lead.cps.size < 100 := hl
        omega
      have hb := colOf_le (size := i + 1) (by omega) (by omega) pre 0
      have hb' : colOf (i + 1) pre ≤ 600 := by unfold colOf; omega
      k_steps
      unfold Halt
      rename Fr _ _ _ _ => F4
      rename News _ _ _ _ => N4
      refine While_inv2 (n₀ := colStep (i + 1) (colOf (i + 1) pre) ch - (colOf (i + 1) pre + 1)) (fun n m nw => nw = (I', it') :: (I, it) :: (D, listOf vs.toArray k) :: news ∧ ∃ (x : Nat) (t2 t3 : Tok), m = upd [(Str.ofString "size", some (.int (1 + (i : Int)) t1)), (Str.ofString "column", some (.int (x : Int) t2)), (Str.ofString "letter", some (.str ⟨#[ch]⟩ t3))] m₀ ∧ colOf (i + 1) pre + 1 ≤ x ∧ x ≤ colStep (i + 1) (colOf (i + 1) pre) ch ∧ n = colStep (i + 1) (colOf (i + 1) pre) ch - x) F4 N4 ?w0 ?w1
      case w0 =>
        refine' ⟨rfl, colOf (i + 1) pre + 1, _, _, ?wm, Nat.le_refl _, ?wt, rfl⟩
        case wm => walk_at "my map"
        case wt =>
          by_cases hc : ch = 9
          · subst hc; exact tgt_tab (by omega) (by omega)
          · unfold colStep; rw [if_neg hc]; exact Nat.le_refl _
      case w1 =>
        clear F4 N4
        rintro n m nw h₁ tk₁ F2 N2 ⟨rfl, x, t2, t3, rfl, h1, h2, rfl⟩
        have hx2 : x ≤ 700 := by
          have := colStep_le (size := i + 1) (col := colOf (i + 1) pre) (c := ch) (by omega) (by omega)
          omega
        k_steps
        · rename ((_ == Str.ofString "\t") = true) => hc
          rename (Int.fmod _ _ ≠ 0) => hm
          rw [tab_eq] at hc
          have hc' : ch = 9 := beq_iff_eq.mp hc
          subst hc'
          rw [fmod_nat] at hm
          have hon := tgt_on (size := i + 1) (by omega) (by omega) h2 (by omega)
          refine' ⟨_, _, _, _, _, rfl, ?xF, ?xN, ?xl, rfl, x + 1, _, _, ?xm, ?x1, hon, rfl⟩
          case xF => k_asm
          case xN => k_asm
          case xm => walk_at "my map"
          case xl => omega
          case x1 => omega
        · rename ((_ == Str.ofString "\t") = true) => hc
          rename (Int.fmod _ _ = 0) => hm
          rw [tab_eq] at hc
          have hc' : ch = 9 := beq_iff_eq.mp hc
          subst hc'
          rw [fmod_nat] at hm
          have hon := tgt_end (size := i + 1) (by omega) (by omega) h2 h1 (by omega)
          subst hon
          refine' UnrEnd.intro ?yF ?yN ((I, it) :: (D, listOf vs.toArray k) :: news) ?ys e6 ⟨rfl, _, _, _, ?ym⟩
          case yF => k_asm
          case yN => k_asm
          case ys => walk_at "my sub"
          case ym => rw [colOf_snoc]
        · rename ((_ == Str.ofString "\t") = false) => hc
          rw [tab_eq] at hc
          have hc' : ch ≠ 9 := beq_eq_false_iff_ne.mp hc
          have hx3 : x = colStep (i + 1) (colOf (i + 1) pre) ch := by
            unfold colStep at h2 ⊢
            rw [if_neg hc'] at h2 ⊢
            omega
          subst hx3
          refine' UnrEnd.intro ?zF ?zN ((I, it) :: (D, listOf vs.toArray k) :: news) ?zs e6 ⟨rfl, _, _, _, ?zm⟩
          case zF => k_asm
          case zN => k_asm
          case zs => walk_at "my sub"
          case zm => rw [colOf_snoc]
    case j2 =>
      clear F7 N7
      rintro m n h' tk' ⟨rfl, t1, t2, u, rfl⟩ F5 N5
      k_steps
      rename News _ _ _ _ => N4
      rw [List.push_toArray] at N4
      refine' UnrEnd.intro ?uF N4 ((D, listOf (vs ++ [Value.int (colOf (i + 1) lead.cps.toList : Nat) t2]).toArray (k + 1)) :: news) ?us ?uo ⟨vs ++ [Value.int (colOf (i + 1) lead.cps.toList : Nat) t2], k + 1, _, _, _, rfl, ?uv, ?um⟩
      case uF => k_asm
      case us => walk_at "my sub"
      case uo =>
        intro p hp
        rcases List.mem_cons.mp hp with rfl | hp
        · exact nD
        · exact e4 p (.tail _ hp)
      case um => walk_at "my map"
      case uv =>
        unfold colsL
        rw [List.range_succ, List.map_append]
        exact ints_app hvs (.cons _ t2 .nil)
  case g2 =>
    clear F0 N0 F9 N9
    rintro m n h tk ⟨vs, k, u1, u2, u3, rfl, hvs, rfl⟩ F8 N8
    k_steps
    rename News h₀ L _ _ => N7
    refine' hret _ _ _ _ ?dF ?dN ⟨D, vs, k, rfl, rfl, hvs, lD⟩
    case dF => k_asm
    case dN => exact cb_drop N7 (by walk_at "my sub")
end
section
local macro_rules | `(tactic| walk_at "my ws") => `(tactic| first | with_reducible assumption | (refine' Mine.WsIn.mk ?w1 ?w2 ?w3 ?w4 ?w5 ?w6 ?w7; (case w3 | w4 | w1 | w2 => k_mem); (case w5 | w6 | w7 => assumption)))
local macro_rules | `(tactic| walk_at "call ref") => `(tactic| (k_here; (show wpAny _ _ (call (Value.ref 83) [Value.ref _, Value.int _ _]) _ _ _); k_dflt (refine' Mine.Spec.use (Mine.indent_i ?cW ?c2 ?c3) ?cB ?cF ?cX ?cN ?cT ?cd ?cu ?_; (case cB | cF | cX | cN | cT => k_asm); (case cW => walk_at "my ws"); (case c2 | c3 => omega); (case cd => k_room); (case cu => k_units); k_whole); intro v' h' tk' n' F' N' P'; obtain ⟨e', t', e''⟩ := P'; subst e'; subst e''; (try k_sweep)))
section
local macro_rules | `(tactic| walk_at "subscriptTail") => `(tactic| (k_here; (with_reducible show wpAny _ _ (subscriptTail _ _ (Value.ref _) (Value.int _ _)) _ _ _); k_dflt (refine' KTb.item_list ?ktbl ?ktbw ?ktb0 ?ktb1 ?ktbf ?_; (case ktbl => exact News.isList (by k_asm) (by k_mem)); (case ktbw => repeat constructor); (case ktb0 | ktb1 | ktbf => ktb_idx)); intro _ ktbLt; clear ktbLt))
theorem fm3 (x : Int) : 0 ≤ x.fmod 3 ∧ x.fmod 3 < 3 := ⟨Int.fmod_nonneg_of_pos _ (by decide), Int.fmod_lt_of_pos _ (by decide)⟩
theorem fm2 (x : Int) : 0 ≤ x.fmod 2 ∧ x.fmod 2 < 2 := ⟨Int.fmod_nonneg_of_pos _ (by decide), Int.fmod_lt_of_pos _ (by decide)⟩
noncomputable def menuA : List Str := [Str.ofString "", Str.ofString "p.", Str.ofString "p.A.", Str.ofString "b:."]
noncomputable def menuB : List Str := [Str.ofString "", Str.ofString ": x.b", Str.ofString "\n.b", Str.ofString ":\n"]
noncomputable def msgOf (x : Int) : Str := menuA.getD (x.fmod 4).toNat Str.empty ++ Txt.item (Str.ofString "aAbB") ((x.fdiv 4).fmod 4) ++ menuB.getD ((x.fdiv 16).fmod 4).toNat Str.empty
noncomputable def leadOf (x : Int) : Str := Txt.mul (Str.ofString " ") ((x.fdiv 64).fmod 3) ++ Txt.mul (Str.ofString "\t") (((x.fdiv 64).fdiv 3).fmod 2) ++ Txt.mul (Str.ofString " ") (((x.fdiv 64).fdiv 6).fmod 3) ++ Txt.mul (Str.ofString "\t") (((x.fdiv 64).fdiv 18).fmod 2) ++ Txt.mul (Str.ofString " ") (((x.fdiv 64).fdiv 36).fmod 2)
noncomputable def cdOf (x : Int) : Str := if ((x.fdiv 64).fdiv 72).fmod 4 = 3 then Str.ofString "" else Str.ofString "x"
noncomputable def noteD (x : Int) : Dat := .tuple [.str (msgOf x), .str (leadOf x), .str (cdOf x)]
theorem ints_split {vs : List Value} {xs : List Int} (hi : IntsAre vs xs) {pre : List Value} {v : Value} {post : List Value} (e : vs = pre ++ v :: post) : ∃ x t, v = .int x t ∧ x ∈ xs ∧ xs.take (pre ++ [v]).length = xs.take pre.length ++ [x] := by
  have hl := hi.length
  have hk : pre.length < xs.length := by rw [← hl, e]; simp
  obtain ⟨t, ht⟩ := ints_at hi hk
  rw [e, List.getElem?_append_right (Nat.le_refl _), Nat.sub_self] at ht
  have g : xs.getD pre.length 0 = xs[pre.length] := by rw [List.getD_eq_getElem?_getD, List.getElem?_eq_getElem hk]; rfl
  refine ⟨xs[pre.length], t, ?_, List.getElem_mem hk, ?_⟩
  · have := Option.some.inj ht
    rw [this, g]
  · rw [List.length_append, List.length_singleton, List.take_add_one, List.getElem?_eq_getElem hk]; rfl
/-- a list of notes at the ledger's head -/
noncomputable def NotesAt (news : Led) (ds : List Dat) (v : Value) (n : Led) : Prop :=
  ∃ (D : Addr) (us : List Value) (k : Nat) (rest : Led), v = .ref D ∧ n = (D, listOf us.toArray k) :: rest ∧ (∀ p ∈ news, p ∈ rest) ∧ DatAll rest us ds ∧ (∀ p ∈ rest, p.1 ≠ D)
set_option maxHeartbeats 4000000 in
theorem notes_s (e : Env0) (news : Led) (l : Addr) (vs : List Value) (xs : List Int) (k : Nat) (hl : (l, listOf vs.toArray k) ∈ news) (hi : IntsAre vs xs) (hx : xs.length < 64) (hb : ∀ x ∈ xs, 0 ≤ x ∧ x < 1000000) : Spec e 20 273 [.ref l] news (NotesAt news (xs.map noteD)) := by
  obtain ⟨w, p, loose, mean, mg, mb⟩ := e
  unfold Spec
  dsimp only
  k_fill
  intro dp un gd cn ns ig ic mo a ccd cl outer A₀ base h₀ L m s Q E B F X N T hd hu hret
  k_steps
  unfold Halt
  rename Fr _ _ _ _ => F0
  rename News _ _ _ _ => N0
  obtain ⟨m₀, em, F9⟩ := Fr.gen F0
  obtain ⟨D, hD, lD, N9⟩ : ∃ D : Addr, m₀ (Str.ofString "notes") = some (.ref D) ∧ (∀ p ∈ news, p.1 < D) ∧ News _ _ _ ((D, listOf [].toArray 0) :: news) := by
    refine' ⟨_, ?h1, ?h2, ?h3⟩
    case h1 => rw [em]; rfl
    case h3 => exact cb_drop N0 (by walk_at "my sub")
    case h2 => assumption
  clear em F0 N0
  refine iter_listP (fun pre m n => ∃ (us : List Value) (k : Nat) (u1 u2 u3 u4 u5 : Option Value) (rest : Led), n = (D, listOf us.toArray k) :: rest ∧ m = upd [(Str.ofString "x", u1), (Str.ofString "message", u2), (Str.ofString "t", u3), (Str.ofString "lead", u4), (Str.ofString "code", u5)] m₀ ∧ (∀ p ∈ news, p ∈ rest) ∧ DatAll rest us ((xs.take pre.length).map noteD) ∧ (∀ p ∈ rest, p.1 ≠ D)) (by rfl) F9 N9 (.tail _ hl) rfl rfl ?g0 ?g1 ?g2
  case g0 => exact ⟨[], 0, m₀ (Str.ofString "x"), m₀ (Str.ofString "message"), m₀ (Str.ofString "t"), m₀ (Str.ofString "lead"), m₀ (Str.ofString "code"), news, rfl, upd_eq ⟨rfl, rfl, rfl, rfl, rfl, trivial⟩ (fun _ _ => rfl), fun _ h => h, .nil, fun p hp => Nat.ne_of_lt (lD p hp)⟩
  case g1 =>
    clear F9 N9
    rintro pre v post it I m n h tk e1 ⟨us, k', u1, u2, u3, u4, u5, rest, rfl, rfl, hsub, hdat, hoff⟩ e3 e4 e5 F8 N8
    obtain ⟨x, tx, rfl, hxm, htk⟩ := ints_split hi e1
    obtain ⟨hx0, hx1⟩ := hb x hxm
    have hlen : us.length < 64 := by
      rw [hdat.length, List.length_map]
      exact Nat.lt_of_le_of_lt (List.length_take_le _ _) (by
        have := congrArg List.length e1
        rw [hi.length, List.length_append, List.length_cons] at this
        omega)
    have nD : D ≠ I := e4 _ (.head _)
    have hl2 : (l, listOf vs.toArray k) ∈ rest := hsub _ hl
    have f1 := fm3 (x.fdiv 64)
    have f2 := fm2 ((x.fdiv 64).fdiv 3)
    have f3 := fm3 ((x.fdiv 64).fdiv 6)
    have f4 := fm2 ((x.fdiv 64).fdiv 18)
    have f5 := fm2 ((x.fdiv 64).fdiv 36)
    k_steps
    · rename (Int.fmod _ 4 = 3) => hcode
      have hc : cdOf x = Str.ofString "" := if_pos hcode
      rename News _ _ _ _ => N7
      rw [List.push_toArray] at N7
      obtain ⟨T, t1, t2, t3, nT1, nT2, N6⟩ : ∃ (T : Addr) (t1 t2 t3 : Tok), @Ne Nat T I ∧ @Ne Nat T D ∧ News _ _ _ ((D, listOf (us ++ [Value.ref T]).toArray (k' + 1)) :: (I, it) :: (T, ({ cls := .type "tuple", data := .seq #[.str (msgOf x) t1, .str (leadOf x) t2, .str (Str.ofString "") t3] } : Obj)) :: rest) := by
        refine' ⟨_, _, _, _, ?a1, ?a2, ?a3⟩
        case a3 => exact cb_drop N7 (by walk_at "my sub")
        case a1 => walk_at "my ne"
        case a2 => walk_at "my ne"
      refine' UnrEnd.intro ?aF N6 ((D, listOf (us ++ [Value.ref T]).toArray (k' + 1)) :: (T, ({ cls := .type "tuple", data := .seq #[.str (msgOf x) t1, .str (leadOf x) t2, .str (Str.ofString "") t3] } : Obj)) :: rest) ?as ?ao ⟨.tail _ (.tail _ hl2), us ++ [Value.ref T], k' + 1, _, _, _, _, _, _, rfl, ?am, fun p hp => .tail _ (hsub p hp), ?ad, ?ae⟩
      case aF => k_asm
      case as => walk_at "my sub"
      case am => walk_at "my map"
      case ao =>
        intro p hp
        rcases List.mem_cons.mp hp with rfl | hp
        · exact nD
        rcases List.mem_cons.mp hp with rfl | hp
        · exact nT1
        · exact e4 p (.tail _ hp)
      case ae =>
        intro p hp
        rcases List.mem_cons.mp hp with rfl | hp
        · exact nT2
        · exact hoff p hp
      case ad =>
        rw [htk, List.map_append]
        refine (hdat.mono fun p hp => .tail _ hp).append (.one ?_)
        unfold noteD
        rw [hc]
        exact .tuple (.head _) (.cons (.str _ _) (.cons (.str _ _) (.cons (.str _ _) .nil)))
    · rename (Int.fmod _ 4 ≠ 3) => hcode
      have hc : cdOf x = Str.ofString "x" := if_neg hcode
      rename News _ _ _ _ => N7
      rw [List.push_toArray] at N7
      obtain ⟨T, t1, t2, t3, nT1, nT2, N6⟩ : ∃ (T : Addr) (t1 t2 t3 : Tok), @Ne Nat T I ∧ @Ne Nat T D ∧ News _ _ _ ((D, listOf (us ++ [Value.ref T]).toArray (k' + 1)) :: (I, it) :: (T, ({ cls := .type "tuple", data := .seq #[.str (msgOf x) t1, .str (leadOf x) t2, .str (Str.ofString "x") t3] } : Obj)) :: rest) := by
        refine' ⟨_, _, _, _, ?b1, ?b2, ?b3⟩
        case b3 => exact cb_drop N7 (by walk_at "my sub")
        case b1 => walk_at "my ne"
        case b2 => walk_at "my ne"
      refine' UnrEnd.intro ?bF N6 ((D, listOf (us ++ [Value.ref T]).toArray (k' + 1)) :: (T, ({ cls := .type "tuple", data := .seq #[.str (msgOf x) t1, .str (leadOf x) t2, .str (Str.ofString "x") t3] } : Obj)) :: rest) ?bs ?bo ⟨.tail _ (.tail _ hl2), us ++ [Value.ref T], k' + 1, _, _, _, _, _, _, rfl, ?bm, fun p hp => .tail _ (hsub p hp), ?bd, ?be⟩
      case bF => k_asm
      case bs => walk_at "my sub"
      case bm => walk_at "my map"
      case bo =>
        intro p hp
        rcases List.mem_cons.mp hp with rfl | hp
        · exact nD
        rcases List.mem_cons.mp hp with rfl | hp
        · exact nT1
        · exact e4 p (.tail _ hp)
      case be =>
        intro p hp
        rcases List.mem_cons.mp hp with rfl | hp
        · exact nT2
        · exact hoff p hp
      case bd =>
        rw [htk, List.map_append]
        refine (hdat.mono fun p hp => .tail _ hp).append (.one ?_)
        unfold noteD
        rw [hc]
        exact .tuple (.head _) (.cons (.str _ _) (.cons (.str _ _) (.cons (.str _ _) .nil)))
  case g2 =>
    clear F9 N9
    rintro m n h tk ⟨us, k', u1, u2, u3, u4, u5, rest, rfl, rfl, hsub, hdat, hoff⟩ F8 N8
    k_steps
    rename News h₀ L _ _ => N7
    have hlv : xs.length ≤ vs.length := by rw [hi.length]; exact Nat.le_refl _
    rw [List.take_of_length_le hlv] at hdat
    refine' hret _ _ _ _ ?dF ?dN ⟨D, us, k', rest, rfl, rfl, hsub, hdat, hoff⟩
    case dF => k_asm
    case dN => exact cb_drop N7 (by walk_at "my sub")
end
section
theorem letGo_rangeiter {prog : Program} {w : World} {A : Around} {E : Value → Shared → Prop} {target : Expr} {I : Addr} {a n c : Int} {v : Value} {Q' : Unit → Shared → Prop} {s' : Shared} (hit : IsRangeIter s'.heap I a n c) (h : Q' () s') :
    wpAny (model prog w) A (letOwnedTupleGo target (.ref I) v) Q' E s' := by
  have hit' : s'.heap.get? I = some _ := hit
  unfold letOwnedTupleGo
  cases target <;> first
    | exact wpAny_pure h
    | (cases v <;> first
        | exact wpAny_pure h
        | (refine wpAny_bind (wpAny_load hit' ?_)
           exact wpAny_pure h))
section
variable {prog : Program} {w : World} {A : Around} {E : Value → Shared → Prop} {s : Shared} {env : Env} {h₀ : Heap} {target : Expr} {body : List Stmt} {Q : Flow → Shared → Prop}
theorem iter_rangeT {r : Addr} {a₀ b₀ : Int} {t₀ u₀ v₀ : Tok} {n : Nat} {m₀ : Str → Option Value} {news : Led} (S : Nat → (Str → Option Value) → Led → Prop)
    (hh : A.handled = none) (hr : IsRange s.heap r a₀ b₀ 1 t₀ u₀ v₀) (hsmall : Builtin.Range.small a₀ b₀ 1 = true) (hn : Builtin.Range.rangeSize a₀ b₀ 1 = (n : Int)) (F : Fr h₀ env.locals s.heap m₀) (N : News h₀ env.locals s.heap news) (h0 : S 0 m₀ news)
    (turn : ∀ i t it I m nw h tk, i < n → S i m nw → (∀ p ∈ news, p.1 < I) → (∀ p ∈ nw, p.1 ≠ I) → it.cls = .type "range_iterator" → Fr h₀ env.locals h m → News h₀ env.locals h ((I, it) :: nw) →
      wpAny (model prog w) A (assign target env (.int (a₀ + (i : Int)) t)) (fun _ s₂ => wpAny (model prog w) A (execs body env) (UnrPostW h₀ env.locals { s with heap := h, toks := tk } [(I, it)] (S (i + 1)) Q) E s₂) E { s with heap := h, toks := tk })
    (done : ∀ m nw h tk, S n m nw → Fr h₀ env.locals h m → News h₀ env.locals h nw → Q .next { s with heap := h, toks := tk }) :
    wpAny (model prog w) A (pyIter (.ref r)) (fun it s₂ => TurnsAt prog w A h₀ env target body Q E it s₂) E s := by
  refine wpAny_pyIter_range hr hsmall ?_
  have hI : ∀ p ∈ news, p.1 < s.heap.objs.size := fun p hp => Heap.lt_size (N p hp).1
  have rest : ∀ k i m nw, i + k = n → S i m nw → (∀ p ∈ nw, p.1 ≠ s.heap.objs.size) → ItemsRest prog w A E h₀ env target body Q s [(s.heap.objs.size, "range_iterator")] [] ((List.range' i k).map fun (j : Nat) => Itm.tok fun t => .int (a₀ + (j : Int)) t) m nw := by
    intro k
    induction k with
    | zero =>
      intro i m nw e hS ho
      have e' : i = n := by omega
      subst e'
      exact ItemsRest.zero fun h tk F' N' => done m nw h tk hS F' N'
    | succ k ih =>
      intro i m nw e hS ho
      rw [List.range'_succ, List.map_cons]
      refine ItemsRest.tok fun t h tk F' => AllObj.cons fun it hi => AllObj.nil fun N' => ?_
      refine wpAny_mono (turn i t it _ m nw h tk (by omega) hS hI ho hi F' N') (fun _ s₂ q => wpAny_mono q (fun f s₃ p => ?_) fun _ _ q => q) fun _ _ q => q
      have go : UnrEndW h₀ env.locals { s with heap := h, toks := tk } [(s.heap.objs.size, it)] (S (i + 1)) s₃ → UnrEndW h₀ env.locals { s with heap := h, toks := tk } [(s.heap.objs.size, it)] (fun m' n' => SubL [] n' ∧ ItemsRest prog w A E h₀ env target body Q s [(s.heap.objs.size, "range_iterator")] [] ((List.range' (i + 1) k).map fun (j : Nat) => Itm.tok fun t => .int (a₀ + (j : Int)) t) m' n') s₃ := by
        rintro ⟨h', tk', m', n', e1, F1, N1, o1, r1⟩
        exact ⟨h', tk', m', n', e1, F1, N1, o1, trivial, ih (i + 1) m' n' (by omega) r1 fun p hp => o1 p hp (_, it) (.head _)⟩
      cases f with
      | ret v => exact p
      | brk => exact p
      | next => exact go p
      | cont => exact go p
  have W : Walks prog w A s.heap.objs.size [s.heap.objs.size] [s.heap.objs.size] n (fun i v => i < n ∧ ∃ t, v = .int (a₀ + i * 1) t)
      (fun i h => IsRangeIter h s.heap.objs.size (a₀ + (i : Nat) * 1) ((n : Int) - (i : Nat)) 1) := (Walks.range hh _ a₀ 1 n).bound
  refine ktu_core (tk0 := s.toks) (keep := []) (ws := [(s.heap.objs.size, "range_iterator")]) (xs := (List.range' 0 n).map fun (j : Nat) => Itm.tok fun t => .int (a₀ + (j : Int)) t) (KTurns.ofWalks W fun i v s Q E st q => letGo_rangeiter st q) (by simp) (fun i v h hp => ?_) (fun i h st => ?_) (fun b hb => ?_) (fun b hb => by simpa using hb) (fun b hb => .inl (by simpa using hb)) ?_ (fun p hp hI => ?_) ?_ (F.push _) (fun p hp => ⟨Heap.get?_push_of_some _ (N p hp).1, (N p hp).2⟩) trivial (rest n 0 m₀ news (Nat.zero_add n) h0 fun p hp => Nat.ne_of_lt (hI p hp))
  · obtain ⟨hlt, t, rfl⟩ := hp
    refine ⟨Itm.tok fun t => .int (a₀ + (i : Int)) t, ?_, t, by rw [Int.mul_one]⟩
    simp [hlt]
  · have st' : h.get? s.heap.objs.size = some _ := st
    exact ⟨[(s.heap.objs.size, _)], ⟨⟨rfl, rfl⟩, trivial⟩, fun p hp => by rw [List.mem_singleton.mp hp]; exact st'⟩
  · have hb' : b = s.heap.objs.size := by simpa using hb
    rw [hb']
    exact ⟨List.mem_cons_self .., next_is_new F⟩
  · intro hI
    exact absurd F.ns.lt ((List.mem_singleton.mp hI) ▸ Nat.lt_irrefl _)
  · exact absurd (Heap.lt_size (N p hp).1) ((List.mem_singleton.mp hI) ▸ Nat.lt_irrefl _)
  · show IsRangeIter _ _ _ _ _; rw [hn]; simpa using Heap.get?_push_size _ rfl
end
end
section
structure Row where
  nm : Str
  ld : Str
  cs : List Int
noncomputable def rowD (r : Row) : Dat := .tuple [.str r.nm, .str r.ld, .list (r.cs.map .int)]
theorem dat_split {α : Type} {f : α → Dat} {news : Led} {vs : List Value} {rs : List α} (h : DatAll news vs (rs.map f)) {pre : List Value} {v : Value} {post : List Value} (e : vs = pre ++ v :: post) :
    ∃ r, r ∈ rs ∧ rs[pre.length]? = some r ∧ rs.take (pre ++ [v]).length = rs.take pre.length ++ [r] ∧ DatIn news v (f r) := by
  have hl := h.length
  rw [List.length_map] at hl
  have hk : pre.length < rs.length := by rw [← hl, e]; simp
  obtain ⟨v', hv, hd⟩ := h.get (k := pre.length) (by rw [List.length_map]; exact hk)
  have hv' : v' = v := by
    rw [e, List.getElem?_append_right (Nat.le_refl _), Nat.sub_self] at hv
    exact (Option.some.inj hv).symm
  subst hv'
  rw [List.getElem_map] at hd
  exact ⟨rs[pre.length], List.getElem_mem hk, List.getElem?_eq_getElem hk, by rw [List.length_append, List.length_singleton, List.take_add_one, List.getElem?_eq_getElem hk]; rfl, hd⟩
theorem list_open {news : Led} {v : Value} {ds : List Dat} (h : DatIn news v (.list ds)) : ∃ b us k, v = .ref b ∧ (b, listOf (us : List Value).toArray k) ∈ news ∧ DatAll news us ds := by
  cases h with
  | list hm r => exact ⟨_, _, _, rfl, hm, r⟩
theorem ints_back {news : Led} : ∀ {us : List Value} {xs : List Int}, DatAll news us (xs.map .int) → IntsAre us xs
  | _, [], h => by cases h; exact .nil
  | _, x :: xs, h => by
    cases h with
    | cons d r =>
      cases d
      exact .cons _ _ (ints_back r)
theorem my_item {prog : Program} {w : World} {A : Around} {E : Value → Shared → Prop} {s : Shared} {value slice : PySem.Expr} {l : Addr} {vs : List Value} {k : Int} {u : Tok} {v : Value} {Q : Value → Shared → Prop}
    (hl : s.heap.IsList l vs.toArray) (h0 : 0 ≤ k) (hhi : k < 2 ^ 63) (hx : vs[k.toNat]? = some v) (h : Q v s)
    (hs : subscripted slice false (.ref l) (.int k u) = operate [.ref l, .int k u] (getItem (.ref l) (.int k u)) := by with_unfolding_all rfl) :
    wpAny (model prog w) A (subscriptTail value slice (.ref l) (.int k u)) Q E s :=
  tail_any hl.typeIs slot_list_getitem.lookup (wpAny_getItem_list hl h0 hhi (by simpa using hx) h) hs
theorem pick_upto {vs : List Value} {y : Int} (h : 0 ≤ y) : (slicePick vs.toArray none (some y) none).toList = vs.take y.toNat := by
  have e : sliceBounds none (some y) none vs.toArray.size = (((0 : Nat) : Int), ((min y.toNat vs.length : Nat) : Int), 1) := by
    unfold sliceBounds
    have e1 : ¬ y < 0 := by omega
    simp only [Option.getD_none, List.size_toArray, e1, if_false]
    refine Prod.ext rfl (Prod.ext ?_ rfl)
    simp only []
    rw [if_pos (by decide)]
    omega
  rw [kmk_pick_nat _ e]
  simp only [Nat.sub_zero, List.drop_zero]
  apply List.ext_getElem?
  intro i
  rw [List.getElem?_take, List.getElem?_take]
  split
  · rw [if_pos (by omega)]
  · by_cases hi : i < y.toNat
    · rw [if_pos hi, List.getElem?_eq_none (by omega)]
    · rw [if_neg hi]
theorem look {M m₁ : Str → Option Value} {x : Str} {v : Value} (h : m₁ x = some v) (e : M x = m₁ x) : M x = some v := e.trans h
theorem dat_take {news : Led} : ∀ {k : Nat} {vs : List Value} {ds : List Dat}, DatAll news vs ds → DatAll news (vs.take k) (ds.take k)
  | 0, _, _, _ => .nil
  | _ + 1, _, _, .nil => .nil
  | k + 1, _, _, .cons h r => .cons h (dat_take r)
theorem row_open {news : Led} {v : Value} {r : Row} (h : DatIn news v (rowD r)) : ∃ a n t1 t2 b us k, v = .ref a ∧ (a, ({ cls := .type "tuple", data := .seq [Value.str r.nm t1, Value.str r.ld t2, Value.ref b].toArray n } : Obj)) ∈ news ∧ (b, listOf us.toArray k) ∈ news ∧ IntsAre us r.cs := by
  unfold rowD at h
  cases h with
  | tuple hm r =>
    cases r with
    | cons d1 r =>
      cases r with
      | cons d2 r =>
        cases r with
        | cons d3 r =>
          cases r
          cases d1
          cases d2
          obtain ⟨b, us, k, e, hb, hd⟩ := list_open d3
          subst e
          exact ⟨_, _, _, _, _, _, _, rfl, hm, hb, ints_back hd⟩
section
variable {prog : Program} {w : World} {A : Around} {E : Value → Shared → Prop} {s : Shared} {env : Env} {h₀ : Heap} {x : Str} {target : Expr} {body : List Stmt} {Q : Flow → Shared → Prop}
theorem iter_listTQ {ax : Addr} {lo : Obj} {vs : List Value} {k : Nat} {m₀ : Str → Option Value} {news : Led} (S : List Value → (Str → Option Value) → Led → Prop)
    (hh : A.handled = none) (F : Fr h₀ env.locals s.heap m₀) (N : News h₀ env.locals s.heap news) (hm : (ax, lo) ∈ news) (hc : lo.cls = .type "list") (hd : lo.data = .seq vs.toArray k) (h0 : S [] m₀ news)
    (turn : ∀ (Pn : (Str → Option Value) → Led → Prop) (Qn : Flow → Shared → Prop) pre v post it I m n h tk, vs = pre ++ v :: post → S pre m n → (∀ p ∈ news, p.1 < I) → (∀ p ∈ n, p.1 ≠ I) → it.cls = .type "list_iterator" → Fr h₀ env.locals h m → News h₀ env.locals h ((I, it) :: n) → (∀ m' n', (ax, lo) ∈ n' → S (pre ++ [v]) m' n' → Pn m' n') →
      wpAny (model prog w) A (assign target env v) (fun _ s₂ => wpAny (model prog w) A (execs body env) (UnrPostW h₀ env.locals { s with heap := h, toks := tk } [(I, it)] Pn Qn) E s₂) E { s with heap := h, toks := tk })
    (done : ∀ m n h tk, S vs m n → Fr h₀ env.locals h m → News h₀ env.locals h n → Q .next { s with heap := h, toks := tk }) :
    wpAny (model prog w) A (pyIter (.ref ax)) (fun it s₂ => TurnsAt prog w A h₀ env target body Q E it s₂) E s :=
  iter_listT S hh F N hm hc hd h0 (fun pre v post it I m n h tk q0 q1 q2 q3 q4 q5 q6 => turn (fun m' n' => (ax, lo) ∈ n' ∧ S (pre ++ [v]) m' n') Q pre v post it I m n h tk q0 q1 q2 q3 q4 q5 q6 (fun _ _ a b => ⟨a, b⟩)) done
theorem iter_listPQ {ax : Addr} {lo : Obj} {vs : List Value} {k : Nat} {m₀ : Str → Option Value} {news : Led} (S : List Value → (Str → Option Value) → Led → Prop)
    (hh : A.handled = none) (F : Fr h₀ env.locals s.heap m₀) (N : News h₀ env.locals s.heap news) (hm : (ax, lo) ∈ news) (hc : lo.cls = .type "list") (hd : lo.data = .seq vs.toArray k) (h0 : S [] m₀ news)
    (turn : ∀ (Pn : (Str → Option Value) → Led → Prop) (Qn : Flow → Shared → Prop) pre v post it I m n h tk, vs = pre ++ v :: post → S pre m n → (∀ p ∈ news, p.1 < I) → (∀ p ∈ n, p.1 ≠ I) → it.cls = .type "list_iterator" → Fr h₀ env.locals h (fun y => if y = x then some v else m y) → News h₀ env.locals h ((I, it) :: n) → (∀ m' n', (ax, lo) ∈ n' → S (pre ++ [v]) m' n' → Pn m' n') →
      wpAny (model prog w) A (execs body env) (UnrPost h₀ env.locals { s with heap := h, toks := tk } I it Pn Qn) E { s with heap := h, toks := tk })
    (done : ∀ m n h tk, S vs m n → Fr h₀ env.locals h m → News h₀ env.locals h n → Q .next { s with heap := h, toks := tk }) :
    wpAny (model prog w) A (pyIter (.ref ax)) (fun it s₂ => LoopAtV prog w A h₀ env x body Q E it s₂) E s :=
  iter_listP S hh F N hm hc hd h0 (fun pre v post it I m n h tk q0 q1 q2 q3 q4 q5 q6 => turn (fun m' n' => (ax, lo) ∈ n' ∧ S (pre ++ [v]) m' n') Q pre v post it I m n h tk q0 q1 q2 q3 q4 q5 q6 (fun _ _ a b => ⟨a, b⟩)) done
theorem iter_rangeTQ {r : Addr} {a₀ b₀ : Int} {t₀ u₀ v₀ : Tok} {n : Nat} {m₀ : Str → Option Value} {news : Led} (S : Nat → (Str → Option Value) → Led → Prop)
    (hh : A.handled = none) (hr : IsRange s.heap r a₀ b₀ 1 t₀ u₀ v₀) (hsmall : Builtin.Range.small a₀ b₀ 1 = true) (hn : Builtin.Range.rangeSize a₀ b₀ 1 = (n : Int)) (F : Fr h₀ env.locals s.heap m₀) (N : News h₀ env.locals s.heap news) (h0 : S 0 m₀ news)
    (turn : ∀ (Pn : (Str → Option Value) → Led → Prop) (Qn : Flow → Shared → Prop) i t it I m nw h tk, i < n → S i m nw → (∀ p ∈ news, p.1 < I) → (∀ p ∈ nw, p.1 ≠ I) → it.cls = .type "range_iterator" → Fr h₀ env.locals h m → News h₀ env.locals h ((I, it) :: nw) → (∀ m' n', S (i + 1) m' n' → Pn m' n') →
      wpAny (model prog w) A (assign target env (.int (a₀ + (i : Int)) t)) (fun _ s₂ => wpAny (model prog w) A (execs body env) (UnrPostW h₀ env.locals { s with heap := h, toks := tk } [(I, it)] Pn Qn) E s₂) E { s with heap := h, toks := tk })
    (done : ∀ m nw h tk, S n m nw → Fr h₀ env.locals h m → News h₀ env.locals h nw → Q .next { s with heap := h, toks := tk }) :
    wpAny (model prog w) A (pyIter (.ref r)) (fun it s₂ => TurnsAt prog w A h₀ env target body Q E it s₂) E s :=
  iter_rangeT S hh hr hsmall hn F N h0 (fun i t it I m nw h tk q0 q1 q2 q3 q4 q5 q6 => turn (S (i + 1)) Q i t it I m nw h tk q0 q1 q2 q3 q4 q5 q6 (fun _ _ a => a)) done
end
section
open LCt LCg
variable {prog : Program} {w : World} {A : Around} {h₀ : Heap} {L : Addr} {m : Str → Option Value} {env : Env} {s : Shared}
theorem comp_UQ {elt : Expr} {x : Str} {scope : Scope} {cl : List (Str × Addr)} {S₀ : Led → Prop} {Fin : List Value → Led → Prop} {vs : List Value} {news : Led} (Inv : List Value → List Value → Led → Prop) (h0 : Inv [] [] news)
    (turn : ∀ (Pn : Value → Led → Prop) pre v post ys nw I oI C oC D m₂ h tk E', vs = pre ++ v :: post → Inv pre ys nw → NsObj oC m₂ → m₂ x = some v → Fr h₀ L h m → News h₀ L h ((I, oI) :: (C, oC) :: (D, lst ys) :: nw) → Off3 I C D nw → ((@Ne Nat I C) ∧ (@Ne Nat I D) ∧ (@Ne Nat C D)) → (∀ y news', Inv (pre ++ [v]) (ys ++ [y]) news' → Pn y news') →
      wpAny (model prog w) A (eval elt (compEnvC scope cl C env)) (CompEnd h₀ L m { s with heap := h, toks := tk } I oI C oC D (lst ys) S₀ Pn) E' { s with heap := h, toks := tk })
    (done : ∀ ys nw, Inv vs ys nw → Fin ys nw) :
    CompRest prog w A h₀ L m env elt x scope cl s S₀ (fun i v => vs.toArray[i]? = some v) Fin vs.toArray.size 0 [] news :=
  comp_U Inv h0 (fun pre v post ys nw I oI C oC D m₂ h tk E' q0 q1 q2 q3 q4 q5 q6 q7 => turn (fun y news' => Inv (pre ++ [v]) (ys ++ [y]) news') pre v post ys nw I oI C oC D m₂ h tk E' q0 q1 q2 q3 q4 q5 q6 q7 (fun _ _ a => a)) done
theorem comp_TQ {ct elt : Expr} {x : Str} {scope : Scope} {cl : List (Str × Addr)} {S₀ : Led → Prop} {Fin : List Value → Led → Prop} {vs : List Value} {news : Led} (Inv : List Value → List Value → Led → Prop) (h0 : Inv [] [] news)
    (turn : ∀ (Pn : Value → Led → Prop) (Pm : Led → Prop) pre v post ys nw I oI C oC D m₂ h tk E', vs = pre ++ v :: post → Inv pre ys nw → NsObj oC m₂ → m₂ x = some v → Fr h₀ L h m → News h₀ L h ((I, oI) :: (C, oC) :: (D, lst ys) :: nw) → Off3 I C D nw → ((@Ne Nat I C) ∧ (@Ne Nat I D) ∧ (@Ne Nat C D)) → (∀ y news', Inv (pre ++ [v]) (ys ++ [y]) news' → Pn y news') → (∀ news', Inv (pre ++ [v]) ys news' → Pm news') →
      wpAny (model prog w) A (isTrue ct (compEnvC scope cl C env) (eval ct (compEnvC scope cl C env))) (fun ok s' => if ok = true then
        wpAny (model prog w) A (eval elt (compEnvC scope cl C env)) (CompEnd h₀ L m { s with heap := h, toks := tk } I oI C oC D (lst ys) S₀ Pn) E' s'
        else CompEnd h₀ L m { s with heap := h, toks := tk } I oI C oC D (lst ys) S₀ (fun _ => Pm) Value.none s') E' { s with heap := h, toks := tk })
    (done : ∀ ys nw, Inv vs ys nw → Fin ys nw) :
    CompRestT prog w A h₀ L m env ct elt x scope cl s S₀ (fun i v => vs.toArray[i]? = some v) Fin vs.toArray.size 0 [] news :=
  comp_T Inv h0 (fun pre v post ys nw I oI C oC D m₂ h tk E' q0 q1 q2 q3 q4 q5 q6 q7 => turn (fun y news' => Inv (pre ++ [v]) (ys ++ [y]) news') (fun news' => Inv (pre ++ [v]) ys news') pre v post ys nw I oI C oC D m₂ h tk E' q0 q1 q2 q3 q4 q5 q6 q7 (fun _ _ a => a) (fun _ a => a)) done
end
end
section
local macro_rules | `(tactic| walk_at "call ref") => `(tactic| (k_here; k_dflt (show wpAny _ _ (call (Value.ref 292) [Value.ref _, Value.ref _]) _ _ _); k_dflt (refine' Mine.Spec.use (Mine.above_s ?ca1 ?ca2 ?ca3 ?ca4 ?ca5) ?cB ?cF ?cX ?cN ?cT ?cd ?cu ?_; (case cB | cF | cX | cN | cT => k_asm); (case ca1 | ca2 => k_mem); (case ca3 | ca4 | ca5 => assumption); (case cd => k_room); (case cu => k_units); k_whole); intro v' h' tk' n' F' N' P'; obtain ⟨e', e''⟩ := P'; subst e'; subst e''; (try k_sweep)))
local macro_rules | `(tactic| walk_at "subscriptTail Name Name ref int") => `(tactic| (k_here; (with_reducible show wpAny _ _ (subscriptTail _ _ (Value.ref _) (Value.int _ _)) _ _ _); k_dflt (refine' Mine.my_item ?k1 ?k2 ?k3 ?k4 ?_ ?k5; (case k1 => exact News.isList (by k_asm) (by k_mem)); (case k4 => with_reducible assumption); (case k2 | k3 => omega); (case k5 => with_unfolding_all rfl); k_whole)))
local macro_rules | `(tactic| k_updF) => `(tactic| first | (refine' UpdF.head ?a; (case a => k_all)) | (refine' UpdF.tail ?a ?b; (case a => walk_at "my ne"); (case b => k_updF)))
local macro_rules | `(tactic| walk_at "subscriptTail Name Constant ref int") => `(tactic| (k_here; (with_reducible show wpAny _ _ (subscriptTail _ _ (Value.ref _) (Value.int _ _)) _ _ _); k_dflt (refine' item_tupleT ?t ?a ?b ?c ?d ?_; (case t => exact News.isTup (by k_asm) (by k_mem)); (case a | b => decide); (case c | d => rfl); k_whole)))
local macro_rules | `(tactic| walk_at "subscriptTail Subscript") => `(tactic| (k_here; (with_reducible show wpAny _ _ (subscriptTail _ _ (Value.ref _) (Value.int _ _)) _ _ _); k_dflt (refine' item_tupleT ?t ?a ?b ?c ?d ?_; (case t => exact News.isTup (by k_asm) (by k_mem)); (case a | b => decide); (case c | d => rfl); k_whole)))
local macro_rules | `(tactic| walk_at "subscriptTail Name Slice ref ref") => `(tactic| (k_here; (with_reducible show wpAny _ _ (subscriptTail _ (PySem.Expr.Slice none (some _) none _) (Value.ref _) (Value.ref _)) _ _ _); k_dflt (refine' kmk_slice_lit ?F ?N ?l IsPart.none (IsPart.int _ _) (Mine.pick_upto ?y) ?_ ?s ?t ?z; (case F | N => k_asm); (case l => exact News.isList (by k_asm) (by k_mem)); (case y => omega); (case s => with_unfolding_all rfl); (case t => kmk_pure); (case z => (rw [List.size_toArray, sizeLine_eq]; omega))); intro D' h' F' N' l1; (try k_lt l1); (try k_sweep)))
local macro_rules | `(tactic| walk_at "eval ListComp") => `(tactic| (k_here; (with_reducible show wpAny _ _ (eval (PySem.Expr.ListComp _ [⟨PySem.Expr.Name _ _, _, [], _⟩] _ _) _) _ _ _); (rename Fr _ _ _ _ => lF'); k_dflt (refine LCg.ListComp_U lF' (by rfl) (by decide) (by rfl) (by decide) (by rfl) ?_)))
local macro_rules | `(tactic| walk_at "CompSrc") => `(tactic| (k_here; k_dflt (refine LCg.CompSrc.ledger (by rfl) (by k_asm) (by k_asm) (by k_mem) (by rw [List.size_toArray, sizeLine_eq, List.length_take]; omega) ?_; intro g'; refine Mine.halt ?_)))
local macro_rules | `(tactic| walk_at "eval Name") => `(tactic| (k_here; (with_reducible show wpAny _ _ (eval (PySem.Expr.Name _ _) (envOfC _ _ _ _ _)) _ _ _); k_dflt (refine' nameX_L ?F ?v ?_ ?a ?b; (case F => k_asm); (case a | b => rfl); (case v => (refine' Mine.look ?h ?e; (case h => with_reducible assumption); (case e => rfl))); k_whole)))
local macro_rules | `(tactic| walk_at "eval Name") => `(tactic| (k_here; (with_reducible show wpAny _ _ (eval (PySem.Expr.Name _ _) (envOfC _ _ _ _ _)) _ _ _); k_dflt (refine' nameX_C ?N ?c ?m ?d ?_ ?a ?b; (case a | b => rfl); (case N => k_asm); (case c => rfl); (case m => k_mem); (case d => with_reducible assumption); k_whole)))
section
local macro_rules | `(tactic| walk_at "exec For Name Call cons nil") => `(tactic| (k_here; (rename Fr _ _ _ _ => lF'); (with_unfolding_all refine' For_turns lF' ?_; k_whole)))
local macro_rules | `(tactic| walk_at "compareOp Eq ref ref") => `(tactic| (refine Mine.halt ?_))
local macro_rules | `(tactic| walk_at "compareOp NotIn") => `(tactic| (refine Mine.halt ?_))
noncomputable def Row.dflt : Row := ⟨Str.empty, Str.empty, []⟩
noncomputable def isLeast (same : List Row) (i : Nat) : Bool := (same.all fun r => !aboveV r.cs (same.getD i Row.dflt).cs) && !decide ((same.getD i Row.dflt).cs ∈ (same.take i).map (·.cs))
noncomputable def leastUp (same : List Row) : Nat → List Row
  | 0 => []
  | i + 1 => if isLeast same i = true then leastUp same i ++ [same.getD i Row.dflt] else leastUp same i
noncomputable def sameOf (rows : List Row) (low : Str) : List Row := rows.filter fun r => r.nm == low
noncomputable def leastV (rows : List Row) (low : Str) : List Row := leastUp (sameOf rows low) (sameOf rows low).length
theorem leastUp_len (same : List Row) : ∀ i, (leastUp same i).length ≤ i
  | 0 => Nat.le_refl _
  | i + 1 => by
    have := leastUp_len same i
    unfold leastUp
    split
    · rw [List.length_append, List.length_singleton]; omega
    · omega
theorem ones_nil {zs : List Value} : Dat.list (List.map Dat.int (List.replicate zs.length 1)) = Dat.list [] ↔ zs = [] := by
  cases zs <;> simp [List.replicate_succ]
theorem dec_t {p : Prop} {d : Decidable p} (h : @decide p d = true) : p := of_decide_eq_true h
theorem dat_mem {cs : List Int} {l : List Row} : Dat.list (List.map Dat.int cs) ∈ List.map (fun r => Dat.list (List.map Dat.int r.cs)) l ↔ cs ∈ l.map (·.cs) := by
  simp only [List.mem_map, Dat.list.injEq]
  constructor
  · rintro ⟨r, hr, e⟩
    exact ⟨r, hr, int_inj.mp e⟩
  · rintro ⟨r, hr, e⟩
    exact ⟨r, hr, by rw [e]⟩
set_option maxHeartbeats 4000000 in
theorem least_s (e : Env0) (news : Led) (l : Addr) (low : Str) (t : Tok) (vs : List Value) (k : Nat) (rows : List Row) (hl : (l, listOf vs.toArray k) ∈ news) {nd : Led} (hs : ∀ q ∈ nd, q ∈ news) (hd : DatAll nd vs (rows.map rowD)) (hx : rows.length < 64) (hc : ∀ r ∈ rows, r.cs.length ≤ 1000) :
    Spec e 60 297 [.ref l, .str low t] news (fun v n => ∃ (D : Addr) (us : List Value) (k : Nat), v = .ref D ∧ n = (D, listOf us.toArray k) :: news ∧ (∀ p ∈ news, p.1 < D) ∧ DatAll nd us ((leastV rows low).map rowD)) := by
  obtain ⟨w, p, loose, mean, mg, mb⟩ := e
  have ol : vs.length = rows.length := by rw [hd.length, List.length_map]
  unfold Spec
  dsimp only
  k_fill
  intro dp un gd cn ns ig ic mo a ccd cl outer A₀ base h₀ L m s Q E B F X N T hd' hu hret
  k_steps
  unfold Halt
  rename_i g1 L1 h1 tk1 FG1 F0 B1 X1 T1 l1 oi osm olow kc1 kc2 kc3 N9 g2
  have kd1 : oi.data = Data.cell none := kc1
  have kd2 : osm.data = Data.cell none := kc2
  have kd3 : olow.data = Data.cell (some (.str low t)) := kc3
  clear kc1 kc2 kc3
  obtain ⟨m₀, em, F9⟩ := Fr.gen F0
  rw [← em]
  have qrows : m₀ (Str.ofString "rows") = some (.ref l) := by rw [em]; rfl
  clear em F0
  refine comp_TQ (fun pre ys nw => nw = (L1 + 1 + 1 + 1, oi) :: (L1 + 1 + 1, osm) :: (L1 + 1, olow) :: news ∧ DatAll nd ys ((sameOf (rows.take pre.length) low).map rowD)) ⟨rfl, .nil⟩ ?turn ?done
  case done =>
    clear N9
    rintro ys nw ⟨rfl, hdy⟩ D h tk F8 N8 off
    rw [List.take_of_length_le (by omega)] at hdy
    have ly : ys.length = (sameOf rows low).length := by rw [hdy.length, List.length_map]
    have oy : ys.length ≤ rows.length := by rw [ly]; exact List.length_filter_le _ _
    have hcs : ∀ r ∈ sameOf rows low, r.cs.length ≤ 1000 := fun r hr => hc r (List.mem_filter.mp hr).1
    obtain ⟨n1, n2, n3, n4⟩ := off
    have n4' := off1_mem n4
    dsimp only at n1 n2 n3
    k_steps
    unfold Halt
    rename Fr _ _ _ _ => F7
    rename News _ _ _ _ => N7
    rename IsRange _ _ _ _ _ _ _ _ => R7
    rename (Obj.data _ = Data.cell (some (.ref D))) => kd4
    obtain ⟨m₁, em1, F6⟩ := Fr.gen F7
    obtain ⟨D2, osm2, qD, lD2, kd5, N6⟩ : ∃ (D2 : Addr) (osm2 : Obj), m₁ (Str.ofString "least") = some (.ref D2) ∧ (@LT.lt Nat _ D D2 ∧ @LT.lt Nat _ (L1 + 1 + 1 + 1) D2 ∧ @LT.lt Nat _ (L1 + 1 + 1) D2 ∧ @LT.lt Nat _ (L1 + 1) D2 ∧ AllLt D2 news) ∧ osm2.data = Data.cell (some (.ref D)) ∧ News _ _ _ ((D2, listOf [].toArray 0) :: (D, LCg.lst ys) :: (L1 + 1 + 1 + 1, oi) :: (L1 + 1 + 1, osm2) :: (L1 + 1, olow) :: news) := by
      refine' ⟨_, _, ?o0, ?o1, ?o2, ?o3⟩
      case o0 => rw [em1]; rfl
      case o3 => exact cb_drop N7 (by walk_at "my sub")
      case o1 => assumption
      case o2 => assumption
    have lD3 := allLt_mem lD2.2.2.2.2
    obtain ⟨lDa, lDb, lDc, lDd, lDe⟩ := lD2
    clear kd2
    generalize hsame : sameOf rows low = same at hdy ly hcs ⊢
    refine iter_rangeTQ (n := ys.length) (fun i m n => ∃ (us : List Value) (k : Nat) (oi' : Obj) (u1 u2 : Option Value), n = (D2, listOf us.toArray k) :: (D, LCg.lst ys) :: (L1 + 1 + 1 + 1, oi') :: (L1 + 1 + 1, osm2) :: (L1 + 1, olow) :: news ∧ oi'.data = Data.cell u1 ∧ m = upd [(Str.ofString "ahead", u2)] m₁ ∧ DatAll nd us ((leastUp same i).map rowD)) (by rfl) R7 (small_one (by omega) (by omega) (by omega) (by omega)) (by rw [rangeSize_nat]; omega) F6 N6 ?g0 ?g1 ?g2
    case g0 =>
      exact ⟨[], 0, oi, none, m₁ (Str.ofString "ahead"), rfl, kd1, upd_eq ⟨rfl, trivial⟩ (fun _ _ => rfl), .nil⟩
    case g1 =>
      clear F7 N7 R7 N6 kd1 F6 em1 qrows
      rintro Pl Ql i ti it I m nw h tk hi ⟨us, k, oi', u1, u2, rfl, ki, rfl, hus⟩ e3 e4 e5 F5 N5 hPl
      have hI0 := e4 _ (.head _)
      have hI1 := e4 _ (.tail _ (.head _))
      have hI2 := e4 _ (.tail _ (.tail _ (.head _)))
      have hI3 := e4 _ (.tail _ (.tail _ (.tail _ (.head _))))
      have hI4 := e4 _ (.tail _ (.tail _ (.tail _ (.tail _ (.head _)))))
      have hI5 : ∀ p ∈ news, p.1 ≠ I := fun p hp => e4 p (.tail _ (.tail _ (.tail _ (.tail _ (.tail _ hp)))))
      dsimp only at hI0 hI1 hI2 hI3 hI4
      have i1 : i < same.length := by omega
      obtain ⟨vr, hv1, hv2⟩ := hdy.get (k := i) (by rw [List.length_map]; exact i1)
      rw [List.getElem_map] at hv2
      obtain ⟨ar, nr, tr1, tr2, br, ur, kr, rfl, har, hbr, hur⟩ := row_open hv2
      replace har := hs _ har
      replace hbr := hs _ hbr
      have hix : ys[(0 + (i : Int)).toNat]? = some (.ref ar) := by rw [show (0 + (i : Int)).toNat = i from by omega]; exact hv1
      have hgd : same.getD i Row.dflt = same[i] := by rw [List.getD_eq_getElem?_getD, List.getElem?_eq_getElem i1]; rfl
      have lus : us.length ≤ i := by rw [hus.length, List.length_map]; exact leastUp_len same i
      have lcs := hcs _ (List.getElem_mem i1)
      k_steps
      unfold Halt
      rename News _ _ _ _ => N4
      rename (Obj.data _ = Data.cell (some (.int _ _))) => kdi
      refine comp_TQ (fun pre zs nw => nw = (I, it) :: (D2, listOf us.toArray k) :: (D, LCg.lst ys) :: (L1 + 1 + 1 + 1, _) :: (L1 + 1 + 1, osm2) :: (L1 + 1, olow) :: news ∧ (∀ y ∈ zs, ∃ t, y = .int 1 t) ∧ (zs = [] ↔ ((same.take pre.length).all fun r => !aboveV r.cs same[i].cs) = true)) ⟨rfl, (fun _ h => nomatch h), by simp⟩ ?turn1 ?done1
      case turn1 =>
        clear N4 F5 N5
        rintro Pn Pm pre v post zs nw I2 oI C oC D3 m₂ h' tk' E' e6 ⟨rfl, hz1, hz2⟩ hn hx' F3 N3 off ne hPn hPm
        obtain ⟨r, hr1, hr2, hr3, hr4⟩ := dat_split hdy e6
        obtain ⟨a2, n2, t3, t4, b2, us2, k2, rfl, ha2, hb2, hus2⟩ := row_open hr4
        replace ha2 := hs _ ha2
        replace hb2 := hs _ hb2
        have hcr := hcs r hr1
        k_steps
        · rename (aboveV _ _ = true) => hab
          refine LCg.CompEnd.intro (by k_asm) (by k_asm) ((I, it) :: (D2, listOf us.toArray k) :: (D, LCg.lst ys) :: (L1 + 1 + 1 + 1, _) :: (L1 + 1 + 1, osm2) :: (L1 + 1, olow) :: news) (by walk_at "my sub") off (Or.inr ⟨_, .tail _ (.tail _ (.head _)), rfl, _, rfl⟩) (hPn _ _ ⟨rfl, ?_, ?_⟩)
          · intro y hy
            rcases List.mem_append.mp hy with hy | hy
            · exact hz1 y hy
            · exact ⟨_, List.mem_singleton.mp hy⟩
          · rw [hr3, List.all_append]
            simp [hab]
        · rename (aboveV _ _ = false) => hab
          refine LCg.CompEnd.intro (by k_asm) (by k_asm) ((I, it) :: (D2, listOf us.toArray k) :: (D, LCg.lst ys) :: (L1 + 1 + 1 + 1, _) :: (L1 + 1 + 1, osm2) :: (L1 + 1, olow) :: news) (by walk_at "my sub") off (Or.inr ⟨_, .tail _ (.tail _ (.head _)), rfl, _, rfl⟩) (hPm _ ⟨rfl, hz1, ?_⟩)
          rw [hr3, List.all_append, hz2]
          simp [hab]
      case done1 =>
        clear N4 F5 N5
        rintro zs nw ⟨rfl, hz1, hz2⟩ D3 h' tk' F3 N3 off
        rw [List.take_of_length_le (by omega)] at hz2
        k_steps
        unfold Halt
        refine dat_eq (by k_asm) (DatIn.list (by k_mem) (ones_dat hz1)) (DatIn.list (by k_mem) .nil) (by simp [kqdOk]) (by simp [kqdOk]) (by k_units) fun r hr => ?_
        k_steps
        · unfold Halt
          rename (r = true) => hrt
          have hz0 := ones_nil.mp (hr.mp hrt)
          rename News _ _ _ _ => N2
          rename (_ ∧ _ ∧ _ ∧ _ ∧ _ ∧ _ ∧ _ ∧ _ ∧ AllLt _ _) => lD4
          have hdyt : DatAll nd (List.take (0 + (i : Int)).toNat ys) ((same.take i).map rowD) := by
            rw [show (0 + (i : Int)).toNat = i from by omega, List.map_take]
            exact dat_take hdy
          refine comp_UQ (fun pre zs2 nw => nw = _ :: _ :: _ :: (I, it) :: (D2, listOf us.toArray k) :: (D, LCg.lst ys) :: (L1 + 1 + 1 + 1, _) :: (L1 + 1 + 1, osm2) :: (L1 + 1, olow) :: news ∧ DatAll news zs2 (((same.take i).take pre.length).map fun r => .list (r.cs.map .int))) ⟨rfl, .nil⟩ ?turn2 ?done2
          case turn2 =>
            clear N2
            rintro Pn pre v post zs2 nw I2 oI C oC D4 m₂ h' tk' E' e6 ⟨rfl, hzd⟩ hn hx' F3 N3 off ne hPn
            obtain ⟨r, hr1, hr2, hr3, hr4⟩ := dat_split hdyt e6
            obtain ⟨a2, n2, t3, t4, b2, us2, k2, rfl, ha2, hb2, hus2⟩ := row_open hr4
            replace ha2 := hs _ ha2
            replace hb2 := hs _ hb2
            k_steps
            refine LCg.CompEnd.intro (by k_asm) (by k_asm) (_ :: _ :: _ :: (I, it) :: (D2, listOf us.toArray k) :: (D, LCg.lst ys) :: (L1 + 1 + 1 + 1, _) :: (L1 + 1 + 1, osm2) :: (L1 + 1, olow) :: news) (by walk_at "my sub") off (Or.inr ⟨_, .head _, rfl, _, rfl⟩) (hPn _ _ ⟨rfl, ?_⟩)
            rw [hr3, List.map_append]
            exact hzd.append (.one (.list hb2 (dat_ints hus2)))
          case done2 =>
            clear N2
            rintro zs2 nw ⟨rfl, hzd⟩ D4 h' tk' F3 N3 off
            have lt2 : (same.take i).length ≤ (List.take (0 + (i : Int)).toNat ys).length := by
              rw [hdyt.length, List.length_map]; exact Nat.le_refl _
            rw [List.take_of_length_le lt2] at hzd
            k_steps
            unfold Halt
            refine kqd_notIn (n₁ := news) (n₂ := news) (ds := (same.take i).map fun r => .list (r.cs.map .int)) (d := .list (same[i].cs.map .int)) (by k_asm) (by k_mem) rfl rfl hzd (by walk_at "my sub") (.list hbr (dat_ints hur)) (by walk_at "my sub") (fun d hd => by obtain ⟨r, _, rfl⟩ := List.mem_map.mp hd; simp [kqdOk]) (by simp [kqdOk]) (by k_units) ?_
            obtain ⟨oi2, kdi2, N1⟩ : ∃ oi2 : Obj, oi2.data = Data.cell (some (.int (0 + (i : Int)) ti)) ∧ News _ _ _ ((I, it) :: (D2, listOf us.toArray k) :: (D, LCg.lst ys) :: (L1 + 1 + 1 + 1, oi2) :: (L1 + 1 + 1, osm2) :: (L1 + 1, olow) :: news) := ⟨_, kdi, cb_drop N3 (by walk_at "my sub")⟩
            clear N3 off kdi lD4
            have hal : (same.all fun r => !aboveV r.cs same[i].cs) = true := hz2.mp hz0
            k_steps
            · rename (decide _ = true) => hin
              have hin2 := (dat_mem (l := same.take i)).mp (dec_t hin)
              refine' endW1 ?vF ?vN ((D2, listOf us.toArray k) :: (D, LCg.lst ys) :: (L1 + 1 + 1 + 1, oi2) :: (L1 + 1 + 1, osm2) :: (L1 + 1, olow) :: news) ?vs ?vo (hPl _ _ ⟨us, k, _, _, _, rfl, kdi2, ?vm, ?vd⟩)
              case vF => k_asm
              case vN => k_asm
              case vs => walk_at "my sub"
              case vo => exact List.forall_mem_cons.mpr ⟨hI0, List.forall_mem_cons.mpr ⟨hI1, List.forall_mem_cons.mpr ⟨hI2, List.forall_mem_cons.mpr ⟨hI3, List.forall_mem_cons.mpr ⟨hI4, hI5⟩⟩⟩⟩⟩
              case vm => walk_at "my map"
              case vd =>
                show DatAll nd us ((if isLeast same i = true then leastUp same i ++ [same.getD i Row.dflt] else leastUp same i : List Row).map rowD)
                rw [if_neg]
                · exact hus
                · unfold isLeast
                  rw [hgd]
                  intro hc2
                  rw [Bool.and_eq_true, Bool.not_eq_true', decide_eq_false_iff_not] at hc2
                  exact hc2.2 hin2
            · rename (decide _ = false) => hin
              have hin2 : ¬ same[i].cs ∈ (same.take i).map (·.cs) := fun h => by
                rw [decide_eq_false_iff_not] at hin
                exact hin ((dat_mem (l := same.take i)).mpr h)
              rename News _ _ _ _ => N0
              rw [List.push_toArray] at N0
              refine' endW1 ?tF ?tN ((D2, listOf (us ++ [Value.ref ar]).toArray (k + 1)) :: (D, LCg.lst ys) :: (L1 + 1 + 1 + 1, oi2) :: (L1 + 1 + 1, osm2) :: (L1 + 1, olow) :: news) ?ts ?to (hPl _ _ ⟨(us ++ [Value.ref ar]), (k + 1), _, _, _, rfl, kdi2, ?tm, ?td⟩)
              case tF => k_asm
              case tN => k_asm
              case ts => walk_at "my sub"
              case to => exact List.forall_mem_cons.mpr ⟨hI0, List.forall_mem_cons.mpr ⟨hI1, List.forall_mem_cons.mpr ⟨hI2, List.forall_mem_cons.mpr ⟨hI3, List.forall_mem_cons.mpr ⟨hI4, hI5⟩⟩⟩⟩⟩
              case tm => walk_at "my map"
              case td =>
                show DatAll nd (us ++ [Value.ref ar]) ((if isLeast same i = true then leastUp same i ++ [same.getD i Row.dflt] else leastUp same i : List Row).map rowD)
                rw [if_pos]
                · rw [List.map_append, hgd]
                  exact hus.append (.one hv2)
                · unfold isLeast
                  rw [hgd, Bool.and_eq_true, Bool.not_eq_true', decide_eq_false_iff_not]
                  exact ⟨hal, hin2⟩
        · rename (r = false) => hrt
          have hz0 : ¬ zs = [] := fun h => by
            rw [hr.mpr (ones_nil.mpr h)] at hrt
            cases hrt
          refine' endW1 ?pF ?pN ((D2, listOf us.toArray k) :: (D, LCg.lst ys) :: (L1 + 1 + 1 + 1, _) :: (L1 + 1 + 1, osm2) :: (L1 + 1, olow) :: news) ?ps ?po (hPl _ _ ⟨us, k, _, _, _, rfl, kdi, ?pm, ?pd⟩)
          case pF => k_asm
          case pN => k_asm
          case ps => walk_at "my sub"
          case po => exact List.forall_mem_cons.mpr ⟨hI0, List.forall_mem_cons.mpr ⟨hI1, List.forall_mem_cons.mpr ⟨hI2, List.forall_mem_cons.mpr ⟨hI3, List.forall_mem_cons.mpr ⟨hI4, hI5⟩⟩⟩⟩⟩
          case pm => walk_at "my map"
          case pd =>
            show DatAll nd us ((if isLeast same i = true then leastUp same i ++ [same.getD i Row.dflt] else leastUp same i : List Row).map rowD)
            rw [if_neg]
            · exact hus
            · unfold isLeast
              rw [hgd]
              intro hc2
              rw [Bool.and_eq_true] at hc2
              exact hz0 (hz2.mpr hc2.1)
    case g2 =>
      clear F7 N7 R7 N6 kd1 F6 em1 qrows
      rintro m nw h tk ⟨us, k, oi', u1, u2, rfl, ki, rfl, hus⟩ F5 N5
      k_steps
      rename News h₀ L _ _ => N4
      refine' hret _ _ _ _ ?dF ?dN ⟨D2, us, k, rfl, rfl, lD3, ?dd⟩
      case dF => k_asm
      case dN => exact cb_drop N4 (by walk_at "my sub")
      case dd => unfold leastV; rw [hsame, ← ly]; exact hus
  case turn =>
    clear N9 F9
    rintro Pn Pm pre v post ys nw I oI C oC D m₂ h tk E' e1 ⟨rfl, hdy⟩ hn hx' F8 N8 off ne hPn hPm
    obtain ⟨r, hr1, hr2, hr3, hr4⟩ := dat_split hd e1
    obtain ⟨a, n, t1, t2, b, us, k2, rfl, ha, hb, hus⟩ := row_open hr4
    replace ha := hs _ ha
    replace hb := hs _ hb
    k_steps
    · refine LCg.CompEnd.intro (by k_asm) (by k_asm) ((L1 + 1 + 1 + 1, oi) :: (L1 + 1 + 1, osm) :: (L1 + 1, olow) :: news) (by walk_at "my sub") off (Or.inr ⟨_, .tail _ (.tail _ (.tail _ hl)), rfl, _, rfl⟩) (hPn _ _ ⟨rfl, ?_⟩)
      unfold sameOf
      rw [hr3, List.filter_append, List.map_append, List.filter_cons_of_pos (by assumption)]
      exact hdy.append (.one hr4)
    · refine LCg.CompEnd.intro (by k_asm) (by k_asm) ((L1 + 1 + 1 + 1, oi) :: (L1 + 1 + 1, osm) :: (L1 + 1, olow) :: news) (by walk_at "my sub") off (Or.inr ⟨_, .tail _ (.tail _ (.tail _ hl)), rfl, _, rfl⟩) (hPm _ ⟨rfl, ?_⟩)
      unfold sameOf
      rw [hr3, List.filter_append, List.map_append, List.filter_cons_of_neg (by simp only [Bool.not_eq_true]; assumption)]
      simpa [sameOf] using hdy
end
section
theorem bump_bnd {count : List Int} {b m : Nat} (h : ∀ k : Nat, 0 ≤ count.getD k 0 ∧ count.getD k 0 ≤ m) (k : Nat) : 0 ≤ (WsSt.bump count b).getD k 0 ∧ (WsSt.bump count b).getD k 0 ≤ (m + 1 : Nat) := by
  have hc : ∀ k : Nat, 0 ≤ ((if b < count.length then count else count ++ List.replicate (b - count.length + 1) 0) : List Int).getD k 0 ∧ ((if b < count.length then count else count ++ List.replicate (b - count.length + 1) 0) : List Int).getD k 0 ≤ m := by
    intro k
    split
    · exact h k
    · by_cases hk : k < count.length
      · have e : (count ++ List.replicate (b - count.length + 1) (0 : Int)).getD k 0 = count.getD k 0 := by
          rw [List.getD_eq_getElem?_getD, List.getElem?_append_left hk, List.getD_eq_getElem?_getD]
        rw [e]; exact h k
      · have e : (count ++ List.replicate (b - count.length + 1) (0 : Int)).getD k 0 = 0 := by
          rw [List.getD_eq_getElem?_getD, List.getElem?_append_right (by omega)]
          rw [List.getElem?_replicate]
          split <;> rfl
        rw [e]; omega
  unfold WsSt.bump
  generalize (if b < count.length then count else count ++ List.replicate (b - count.length + 1) 0 : List Int) = c2 at hc
  rw [List.getD_eq_getElem?_getD, List.getElem?_set]
  have h1 := hc b
  have h2 := hc k
  rw [List.getD_eq_getElem?_getD (i := k)] at h2
  split
  · split
    · simp only [Option.getD_some]; omega
    · simp only [Option.getD_none]; omega
  · omega
theorem of_bnd : ∀ (l : List Nat) (s : WsSt) (m : Nat), (∀ k : Nat, 0 ≤ s.count.getD k 0 ∧ s.count.getD k 0 ≤ m) → s.count.length ≤ m → 0 ≤ s.b → s.b ≤ m → 0 ≤ s.n → s.n ≤ m →
    (∀ k : Nat, 0 ≤ (l.foldl WsSt.step s).count.getD k 0 ∧ (l.foldl WsSt.step s).count.getD k 0 ≤ (m + l.length : Nat)) ∧ (l.foldl WsSt.step s).count.length ≤ m + l.length ∧ 0 ≤ (l.foldl WsSt.step s).b ∧ (l.foldl WsSt.step s).b ≤ (m + l.length : Nat)
  | [], s, m, h1, h2, h3, h4, _, _ => ⟨h1, h2, h3, h4⟩
  | c :: l, s, m, h1, h2, h3, h4, h5, h6 => by
    rw [List.foldl_cons, List.length_cons]
    have e : m + (l.length + 1) = (m + 1) + l.length := by omega
    rw [e]
    refine of_bnd l (s.step c) (m + 1) ?_ ?_ ?_ ?_ ?_ ?_
    · intro k
      unfold WsSt.step
      split
      · have := h1 k; exact ⟨this.1, by dsimp only; omega⟩
      · exact bump_bnd h1 k
    · unfold WsSt.step
      split
      · exact Nat.le_succ_of_le h2
      · have := bump_len (count := s.count) (b := s.b.toNat)
        dsimp only
        omega
    · unfold WsSt.step; split <;> dsimp only <;> omega
    · unfold WsSt.step; split <;> dsimp only <;> omega
    · unfold WsSt.step; split <;> dsimp only <;> omega
    · unfold WsSt.step; split <;> dsimp only <;> omega
theorem ws_bnd {x : Str} (h : x.length ≤ 900) : (wsOf x).count.length < 1000 ∧ (∀ k : Nat, 0 ≤ (wsOf x).count.getD k 0 ∧ (wsOf x).count.getD k 0 ≤ 1000) ∧ 0 ≤ (wsOf x).b ∧ (wsOf x).b < 1000 := by
  have hl : (x.cps.toList.takeWhile fun c => c = 32 ∨ c = 9).length ≤ 900 := Nat.le_trans (List.takeWhile_sublist _).length_le (by rw [Array.length_toList]; exact h)
  have q := of_bnd (x.cps.toList.takeWhile fun c => c = 32 ∨ c = 9) ⟨[], 0, 0, 0⟩ 0 (by intro k; simp) (by simp) (by simp) (by simp) (by simp) (by simp)
  unfold wsOf WsSt.of
  obtain ⟨q1, q2, q3, q4⟩ := q
  refine ⟨by omega, fun k => ?_, q3, by omega⟩
  have := q1 k
  omega
noncomputable def cut2 (x : Str) : Str := Txt.slice x (some 2) none
end
section
local macro_rules | `(tactic| walk_at "call ref") => `(tactic| (k_here; (fail_if_success (with_reducible show wpAny _ _ (call (Value.ref 302) [Value.ref _, Value.str _ _, Value.str _ _]) _ _ _)); refine Mine.halt ?_))
theorem wsIn {p : Params} {y : Str} {news : Led} {x d nm ct : Addr} {raw : Str} {vs : List Value} {t1 t2 t3 t4 t5 t6 t7 t8 t9 : Tok} (hy : y.length ≤ 900)
    (w1 : (nm, ({ cls := .type "tuple", data := .seq #[.ref ct, .int (wsOf y).b t9] } : Obj)) ∈ news) (w2 : (ct, ({ cls := .type "tuple", data := .seq vs.toArray } : Obj)) ∈ news) (w3 : (x, instObj 114 d) ∈ news) (w4 : (d, wsDict p (wsOf y) raw nm t1 t2 t3 t4 t5 t6 t7 t8) ∈ news) (hi : IntsAre vs (wsOf y).count) :
    WsIn p (wsOf y) news x d nm ct raw vs t1 t2 t3 t4 t5 t6 t7 t8 t9 :=
  ⟨w1, w2, w3, w4, hi, (ws_bnd hy).1, (ws_bnd hy).2.1⟩
theorem cut2_len {y : Str} (h : y.length < 100) : (Txt.slice y (some 2) none).length < 1000 := Nat.lt_of_le_of_lt (PyProof.Txt.length_slice_le _ _ _) (by omega)
theorem cut2_len9 {y : Str} (h : y.length < 100) : (Txt.slice y (some 2) none).length ≤ 900 := Nat.le_trans (PyProof.Txt.length_slice_le _ _ _) (by omega)
theorem dat_strs {n n' : Led} {vs : List Value} : ∀ {ss : List Str}, DatAll n vs (ss.map .str) → DatAll n' vs (ss.map .str) := by
  intro ss
  induction ss generalizing vs with
  | nil => intro h; cases h; exact .nil
  | cons s ss ih =>
    intro h
    cases h with
    | cons d r =>
      cases d
      exact .cons (.str _ _) (ih r)
theorem str_of {news : Led} {v : Value} {s : Str} (h : DatIn news v (.str s)) : ∃ t, v = .str s t := by
  cases h
  exact ⟨_, rfl⟩
noncomputable def heldOf (prs : List (Str × Str)) (bare : Str) : List Str := (prs.filter fun p => Txt.lower p.1 == Txt.lower bare).map (·.2)
noncomputable def wsV (v : Str) : WsSt := wsOf (Txt.slice v (some 2) none)
noncomputable def blk (rem v : Str) : Bool := (wsV v).less (wsV rem) || decide ((wsV v).count = (wsV rem).count ∧ (wsV v).b = (wsV rem).b)
noncomputable def layV (prs : List (Str × Str)) (bare rem : Str) : List (Str × Str) :=
  if (heldOf prs bare).any (blk rem) = true then prs else (prs.filter fun p => Txt.lower p.1 != Txt.lower bare) ++ ((heldOf prs bare).filter (fun v => !(wsV rem).less (wsV v)) ++ [rem]).map fun v => (bare, v)
theorem del_K {M : Model} {A : Around} {E : Value → Shared → Prop} {s : Shared} {K : Frag} {x C f : Addr} {h₀ : Heap} {L : Addr} {m : Str → Option Value} {ox : Obj} {od : Option Obj} {i : Value} {Q : Unit → Shared → Prop} (F : Fr h₀ L s.heap m) (X₀ : K.In h₀) (I : InstAt s.heap x ox C od) (hq : noSeq K C = true) (hs : findIn K (.ref C) "__delitem__" = some (some (.ref f))) (hf : isFn K (.ref f) = true)
    (h : wpAny M A (call (.ref f) [.ref x, i]) (fun _ s' => Q () s') E s) : wpAny M A (delItem (.ref x) i) Q E s := by
  have X := X₀.keeps F.keep
  unfold delItem sequenceKey
  refine wpAny_holding (wpAny_bind (wpAny_bind (I.type.here ?_)))
  refine wpAny_bind ((anyM_none X hq).here ?_)
  rw [if_pos (show (!false) = true from rfl)]
  exact wpAny_pure (wpAny_bind (special_fn X I hs (beq_iff_eq.mp hf) (wpAny_mono h (fun _ _ z => wpAny_pure z) fun _ _ z => z)))
/-- the table behind a lay: its list at the ledger's head -/
noncomputable def LayAt (rest : Led) (l : Addr) (prs : List (Str × Str)) (v : Value) (n : Led) : Prop :=
  ∃ (us : List Value) (k : Nat) (new : Led), v = .none ∧ n = (l, listOf us.toArray k) :: (new ++ rest) ∧ DatAll (new ++ rest) us (prs.map prD) ∧ (∀ p ∈ new, p.1 ≠ l ∧ ∀ q ∈ rest, p.1 ≠ q.1)
theorem lay_blocked {prs : List (Str × Str)} {bare rem v : Str} (hv : v ∈ heldOf prs bare) (h : blk rem v = true) : layV prs bare rem = prs := by
  unfold layV
  rw [if_pos (List.any_eq_true.mpr ⟨v, hv, h⟩)]
set_option maxHeartbeats 4000000 in
theorem lay_s {e : Env0} {rest : Led} {x d l : Addr} {t1 : Tok} {vs : List Value} {k : Nat} {prs : List (Str × Str)} (H : HdAt e.w.params rest x d l t1 vs prs) {msg rem : Str} {t u : Tok} (hm : msg.length < 100) (hr : rem.length < 100)
    (hp1 : ∀ p ∈ prs, p.1.length < 100 ∧ p.2.length < 100) (hb : (stripV msg).length < 100) (hn : okName e.w.params (Txt.lower (stripV msg)) = true)
    (hn2 : okName e.w.params (stripV msg) = true) (hv1 : ∀ p ∈ prs, okVal e.w.params p.2 = true) (hv2 : okVal e.w.params rem = true) (hl4 : prs.length < 400) :
    Spec e 100 302 [.ref x, .str msg t, .str rem u] ((l, listOf vs.toArray k) :: rest) (LayAt rest l (layV prs (stripV msg) rem)) := by
  obtain ⟨w, p, loose, mean, mg, mb⟩ := e
  obtain ⟨H1, H2, H3, H4, H5⟩ := H
  unfold Spec
  dsimp only
  k_fill
  intro dp un gd cn ns ig ic mo a ccd cl outer A₀ base h₀ L m s Q E B F X N T hd hu hret
  k_steps
  unfold Halt
  rename_i g1 L1 h1 tk1 FG1 F0 B1 X1 T1 l1 oc kc N0
  have kd : oc.data = Data.cell none := kc
  clear kc
  obtain ⟨m₀, em, F9⟩ := Fr.gen F0
  have qt : m₀ (Str.ofString "table") = some (.ref x) := by rw [em]; rfl
  have qm : m₀ (Str.ofString "message") = some (.str msg t) := by rw [em]; rfl
  have qr : m₀ (Str.ofString "remark") = some (.str rem u) := by rw [em]; rfl
  clear em F0
  refine' Mine.Spec.use (strip_s _ _ msg _ (by omega)) ?c1B ?c1F ?c1X ?c1N ?c1T ?c1d ?c1u ?_
  case c1B => k_asm
  case c1F => k_asm
  case c1X => k_asm
  case c1N => k_asm
  case c1T => k_asm
  case c1d => k_room
  case c1u => k_units
  intro v1 h1 tk1 n1 F1 N1 P1
  obtain ⟨rfl, ts, rfl⟩ := P1
  generalize stripV msg = bare at hb hn hn2 hret ⊢
  k_steps
  unfold Halt
  refine' Mine.Spec.use (ws_s _ _ (Txt.slice rem (some 2) none) _ (cut2_len hr)) ?c2B ?c2F ?c2X ?c2N ?c2T ?c2d ?c2u ?_
  case c2B => k_asm
  case c2F => k_asm
  case c2X => k_asm
  case c2N => k_asm
  case c2T => k_asm
  case c2d => k_room
  case c2u => k_units
  intro v2 h2 tk2 n2 F2 N2 P2
  obtain ⟨xw, dw, nmw, ctw, raww, vsw, a1, a2, a3, a4, a5, a6, a7, a8, a9, rfl, rfl, hiw, lw2, lw1, lw3, lw4⟩ := P2
  have z1 : @LT.lt Nat _ (L1 + 1) dw := lw2 _ (.head _)
  have z2 : @LT.lt Nat _ l dw := lw2 _ (.tail _ (.head _))
  k_steps
  unfold Halt
  refine' Mine.Spec.use (get_s (HdIn.mk ?c3e1 ?c3e2 ?c3e3 ?c3e4 H5) (by omega) (fun p hp => Nat.lt_trans (hp1 p hp).1 (by decide)) hn) ?c3B ?c3F ?c3X ?c3N ?c3T ?c3d ?c3u ?_
  case c3B => k_asm
  case c3F => k_asm
  case c3X => k_asm
  case c3N => k_asm
  case c3T => k_asm
  case c3e1 => k_mem
  case c3e2 => k_mem
  case c3e3 => k_mem
  case c3e4 => exact H4.mono (by walk_at "my sub")
  case c3d => k_room
  case c3u => k_units
  intro v3 h3 tk3 n3 F3 N3 P3
  obtain ⟨D, ys, rfl, rfl, hoffD, hys⟩ := P3
  k_steps
  unfold Halt
  rename Fr _ _ _ _ => F6
  rename News _ _ _ _ => N6
  obtain ⟨m₁, em, F7⟩ := Fr.gen F6
  have qt1 : m₁ (Str.ofString "table") = some (.ref x) := by rw [em]; exact qt
  have qr1 : m₁ (Str.ofString "remark") = some (.str rem u) := by rw [em]; exact qr
  have qb1 : m₁ (Str.ofString "bare") = some (.str bare ts) := by rw [em]; rfl
  have qh1 : m₁ (Str.ofString "held") = some (.ref D) := by rw [em]; rfl
  clear em F6 qt qm qr
  have hoD := fun p hp => (hoffD p hp : p.1 ≠ D)
  obtain ⟨oc2, kd2, N7⟩ : ∃ oc2 : Obj, oc2.data = Data.cell (some (.ref xw)) ∧ News _ _ _ ((D, listOf ys.toArray ys.length) :: (nmw, ({ cls := .type "tuple", data := .seq #[.ref ctw, .int (wsOf (Txt.slice rem (some 2) none)).b a9] } : Obj)) :: (ctw, ({ cls := .type "tuple", data := .seq vsw.toArray } : Obj)) :: (xw, instObj 114 dw) :: (dw, wsDict w.params (wsOf (Txt.slice rem (some 2) none)) raww nmw a1 a2 a3 a4 a5 a6 a7 a8) :: (L1 + 1, oc2) :: (l, listOf vs.toArray k) :: rest) := ⟨_, by assumption, cb_drop N6 (by walk_at "my sub")⟩
  clear N6
  have hys2 := dat_strs (n' := rest) hys
  clear hys
  have lys : ys.length = (heldOf prs bare).length := by rw [hys2.length, List.length_map]; rfl
  have hvk : ∀ v ∈ heldOf prs bare, okVal w.params v = true := fun v hv => by
    obtain ⟨p, hp, rfl⟩ := List.mem_map.mp hv
    exact hv1 p (List.mem_filter.mp hp).1
  have hvl : ∀ v ∈ heldOf prs bare, v.length < 100 := fun v hv => by
    obtain ⟨p, hp, rfl⟩ := List.mem_map.mp hv
    exact (hp1 p (List.mem_filter.mp hp).1).2
  replace hys2 : DatAll rest ys ((heldOf prs bare).map .str) := hys2
  refine iter_listP (fun pre m n => n = (D, listOf ys.toArray ys.length) :: (nmw, ({ cls := .type "tuple", data := .seq #[.ref ctw, .int (wsOf (Txt.slice rem (some 2) none)).b a9] } : Obj)) :: (ctw, ({ cls := .type "tuple", data := .seq vsw.toArray } : Obj)) :: (xw, instObj 114 dw) :: (dw, wsDict w.params (wsOf (Txt.slice rem (some 2) none)) raww nmw a1 a2 a3 a4 a5 a6 a7 a8) :: (L1 + 1, oc2) :: (l, listOf vs.toArray k) :: rest ∧ (∀ v ∈ (heldOf prs bare).take pre.length, blk rem v = false) ∧ ∃ u1 u2, m = upd [(Str.ofString "value", u1), (Str.ofString "old", u2)] m₁) (by rfl) F7 N7 (.head _) rfl rfl ?g0 ?g1 ?g2
  case g0 => exact ⟨rfl, by simp, m₁ (Str.ofString "value"), m₁ (Str.ofString "old"), upd_eq ⟨rfl, rfl, trivial⟩ (fun _ _ => rfl)⟩
  case g1 =>
    clear F7 N7
    rintro pre v post it I m n h tk e1 ⟨rfl, hall, u1, u2, rfl⟩ e3 e4 e5 F8 N8
    obtain ⟨s9, hs1, hs2, hs3, hs4⟩ := dat_split hys2 e1
    obtain ⟨t9, rfl⟩ := str_of hs4
    have hsl := hvl s9 hs1
    k_steps
    unfold Halt
    refine' Mine.Spec.use (ws_s _ _ (Txt.slice s9 (some 2) none) _ (cut2_len hsl)) ?c4B ?c4F ?c4X ?c4N ?c4T ?c4d ?c4u ?_
    case c4B => k_asm
    case c4F => k_asm
    case c4X => k_asm
    case c4N => k_asm
    case c4T => k_asm
    case c4d => k_room
    case c4u => k_units
    intro v4 h4 tk4 n4 F4 N4 P4
    obtain ⟨xo, do_, nmo, cto, rawo, vso, b1, b2, b3, b4, b5, b6, b7, b8, b9, rfl, rfl, hio, lo2, lo1, lo3, lo4⟩ := P4
    k_steps
    unfold Halt
    refine' Mine.Spec.use (less_s (wsIn (cut2_len9 hsl) ?c5w1 ?c5w2 ?c5w3 ?c5w4 hio) (wsIn (cut2_len9 hr) ?c5v1 ?c5v2 ?c5v3 ?c5v4 hiw) ⟨(ws_bnd (cut2_len9 hsl)).2.2.1, (ws_bnd (cut2_len9 hsl)).2.2.2⟩ ⟨(ws_bnd (cut2_len9 hr)).2.2.1, (ws_bnd (cut2_len9 hr)).2.2.2⟩) ?c5B ?c5F ?c5X ?c5N ?c5T ?c5d ?c5u ?_
    case c5B => k_asm
    case c5F => k_asm
    case c5X => k_asm
    case c5N => k_asm
    case c5T => k_asm
    case c5w1 => k_mem
    case c5w2 => k_mem
    case c5w3 => k_mem
    case c5w4 => k_mem
    case c5v1 => k_mem
    case c5v2 => k_mem
    case c5v3 => k_mem
    case c5v4 => k_mem
    case c5d => k_room
    case c5u => k_units
    intro v5 h5 tk5 n5 F5 N5 P5
    obtain ⟨rfl, rfl⟩ := P5
    k_steps
    · rename (WsSt.less _ _ = true) => hb1
      rename News h₀ L _ _ => N5
      refine' hret _ _ _ _ ?r1F ?r1N ⟨vs, k, [], rfl, rfl, ?r1d, fun _ h => nomatch h⟩
      case r1F => k_asm
      case r1N => exact cb_drop N5 (by walk_at "my sub")
      case r1d =>
        rw [lay_blocked hs1 (by unfold blk wsV; rw [hb1]; rfl)]
        exact H4
    · rename (WsSt.less _ _ = false) => hb1
      unfold Halt
      refine' Mine.Spec.use (equal_s (wsIn (cut2_len9 hsl) ?c6w1 ?c6w2 ?c6w3 ?c6w4 hio) (wsIn (cut2_len9 hr) ?c6v1 ?c6v2 ?c6v3 ?c6v4 hiw)) ?c6B ?c6F ?c6X ?c6N ?c6T ?c6d ?c6u ?_
      case c6B => k_asm
      case c6F => k_asm
      case c6X => k_asm
      case c6N => k_asm
      case c6T => k_asm
      case c6w1 => k_mem
      case c6w2 => k_mem
      case c6w3 => k_mem
      case c6w4 => k_mem
      case c6v1 => k_mem
      case c6v2 => k_mem
      case c6v3 => k_mem
      case c6v4 => k_mem
      case c6d => k_room
      case c6u => k_units
      intro v6 h6 tk6 n6 F6 N6 P6
      obtain ⟨rfl, rfl⟩ := P6
      k_steps
      · rename ((WsSt.count _ = _) ∧ _) => hb2
        rename News h₀ L _ _ => N5
        refine' hret _ _ _ _ ?r2F ?r2N ⟨vs, k, [], rfl, rfl, ?r2d, fun _ h => nomatch h⟩
        case r2F => k_asm
        case r2N => exact cb_drop N5 (by walk_at "my sub")
        case r2d =>
          rw [lay_blocked hs1 (by unfold blk wsV; rw [decide_eq_true hb2, Bool.or_true])]
          exact H4
      · rename (¬ ((WsSt.count _ = _) ∧ _)) => hb2
        refine' UnrEnd.intro ?r3F ?r3N ((D, listOf ys.toArray ys.length) :: (nmw, ({ cls := .type "tuple", data := .seq #[.ref ctw, .int (wsOf (Txt.slice rem (some 2) none)).b a9] } : Obj)) :: (ctw, ({ cls := .type "tuple", data := .seq vsw.toArray } : Obj)) :: (xw, instObj 114 dw) :: (dw, wsDict w.params (wsOf (Txt.slice rem (some 2) none)) raww nmw a1 a2 a3 a4 a5 a6 a7 a8) :: (L1 + 1, oc2) :: (l, listOf vs.toArray k) :: rest) ?r3s e4 ⟨.head _, rfl, ?r3h, _, _, ?r3m⟩
        case r3F => k_asm
        case r3N => k_asm
        case r3s => walk_at "my sub"
        case r3m => walk_at "my map"
        case r3h =>
          rw [hs3]
          intro v hv
          rcases List.mem_append.mp hv with hv | hv
          · exact hall v hv
          · rw [List.mem_singleton.mp hv]
            unfold blk wsV
            rw [hb1, decide_eq_false hb2]
            rfl
  case g2 =>
    clear F7 N7
    rintro m n h tk ⟨rfl, hall, u1, u2, rfl⟩ F8 N8
    rw [List.take_of_length_le (by omega)] at hall
    have hlay : layV prs bare rem = (prs.filter fun p => Txt.lower p.1 != Txt.lower bare) ++ ((heldOf prs bare).filter (fun v => !(wsV rem).less (wsV v)) ++ [rem]).map fun v => (bare, v) := by
      unfold layV
      rw [if_neg]
      rw [List.any_eq_true]
      rintro ⟨v, hv, hc⟩
      rw [hall v hv] at hc
      cases hc
    rw [hlay] at hret
    clear hlay
    have lys2 : ys.length < 1000 := by
      rw [lys]; unfold heldOf; rw [List.length_map]
      exact Nat.lt_of_le_of_lt (List.length_filter_le _ _) H5
    k_steps
    unfold Halt
    rename News _ _ _ _ => N7
    refine comp_T (fun pre zs nw => nw = (D, listOf ys.toArray ys.length) :: (nmw, ({ cls := .type "tuple", data := .seq #[.ref ctw, .int (wsOf (Txt.slice rem (some 2) none)).b a9] } : Obj)) :: (ctw, ({ cls := .type "tuple", data := .seq vsw.toArray } : Obj)) :: (xw, instObj 114 dw) :: (dw, wsDict w.params (wsOf (Txt.slice rem (some 2) none)) raww nmw a1 a2 a3 a4 a5 a6 a7 a8) :: (L1 + 1, oc2) :: (l, listOf vs.toArray k) :: rest ∧ DatAll rest zs ((((heldOf prs bare).take pre.length).filter fun v => !(wsV rem).less (wsV v)).map .str)) ⟨rfl, .nil⟩ ?turn ?done
    case turn =>
      clear N7 F8
      rintro pre v post zs nw I oI C oC D2 m₂ h tk E' e1 ⟨rfl, hzd⟩ hn hx' F8 N8 off ne
      obtain ⟨s9, hs1, hs2, hs3, hs4⟩ := dat_split hys2 e1
      obtain ⟨t9, rfl⟩ := str_of hs4
      have hsl := hvl s9 hs1
      k_steps
      unfold Halt
      refine' Mine.Spec.use (ws_s _ _ (Txt.slice s9 (some 2) none) _ (cut2_len hsl)) ?c7B ?c7F ?c7X ?c7N ?c7T ?c7d ?c7u ?_
      case c7B => k_asm
      case c7F => k_asm
      case c7X => k_asm
      case c7N => k_asm
      case c7T => k_asm
      case c7d => k_room
      case c7u => k_units
      intro v7 h7 tk7 n7 F7 N7 P7
      obtain ⟨xo, do_, nmo, cto, rawo, vso, b1, b2, b3, b4, b5, b6, b7, b8, b9, rfl, rfl, hio, lo2, lo1, lo3, lo4⟩ := P7
      k_steps
      unfold Halt
      refine' Mine.Spec.use (less_s (wsIn (cut2_len9 hr) ?c8v1 ?c8v2 ?c8v3 ?c8v4 hiw) (wsIn (cut2_len9 hsl) ?c8w1 ?c8w2 ?c8w3 ?c8w4 hio) ⟨(ws_bnd (cut2_len9 hr)).2.2.1, (ws_bnd (cut2_len9 hr)).2.2.2⟩ ⟨(ws_bnd (cut2_len9 hsl)).2.2.1, (ws_bnd (cut2_len9 hsl)).2.2.2⟩) ?c8B ?c8F ?c8X ?c8N ?c8T ?c8d ?c8u ?_
      case c8B => k_asm
      case c8F => k_asm
      case c8X => k_asm
      case c8N => k_asm
      case c8T => k_asm
      case c8w1 => k_mem
      case c8w2 => k_mem
      case c8w3 => k_mem
      case c8w4 => k_mem
      case c8v1 => k_mem
      case c8v2 => k_mem
      case c8v3 => k_mem
      case c8v4 => k_mem
      case c8d => k_room
      case c8u => k_units
      intro v8 h8 tk8 n8 F8 N8 P8
      obtain ⟨rfl, rfl⟩ := P8
      k_steps
      · rename (WsSt.less _ _ = true) => hb1
        refine LCg.CompEnd.intro (by k_asm) (by k_asm) ((D, listOf ys.toArray ys.length) :: (nmw, ({ cls := .type "tuple", data := .seq #[.ref ctw, .int (wsOf (Txt.slice rem (some 2) none)).b a9] } : Obj)) :: (ctw, ({ cls := .type "tuple", data := .seq vsw.toArray } : Obj)) :: (xw, instObj 114 dw) :: (dw, wsDict w.params (wsOf (Txt.slice rem (some 2) none)) raww nmw a1 a2 a3 a4 a5 a6 a7 a8) :: (L1 + 1, oc2) :: (l, listOf vs.toArray k) :: rest) (by walk_at "my sub") off (Or.inr ⟨_, .head _, rfl, _, rfl⟩) ⟨rfl, ?_⟩
        rw [hs3, List.filter_append, List.map_append, List.filter_cons_of_neg (by unfold wsV; rw [hb1]; simp)]
        simpa using hzd
      · rename (WsSt.less _ _ = false) => hb1
        refine LCg.CompEnd.intro (by k_asm) (by k_asm) ((D, listOf ys.toArray ys.length) :: (nmw, ({ cls := .type "tuple", data := .seq #[.ref ctw, .int (wsOf (Txt.slice rem (some 2) none)).b a9] } : Obj)) :: (ctw, ({ cls := .type "tuple", data := .seq vsw.toArray } : Obj)) :: (xw, instObj 114 dw) :: (dw, wsDict w.params (wsOf (Txt.slice rem (some 2) none)) raww nmw a1 a2 a3 a4 a5 a6 a7 a8) :: (L1 + 1, oc2) :: (l, listOf vs.toArray k) :: rest) (by walk_at "my sub") off (Or.inr ⟨_, .head _, rfl, _, rfl⟩) ⟨rfl, ?_⟩
        rw [hs3, List.filter_append, List.map_append, List.filter_cons_of_pos (by unfold wsV; rw [hb1]; rfl)]
        exact hzd.append (.one (.str _ _))
    case done =>
      clear N7 F8
      rintro zs nw ⟨rfl, hzd⟩ D2 h tk F8 N8 off
      rw [List.take_of_length_le (by omega)] at hzd
      k_steps
      refine' del_K ?dF ?dX ?dI ?dq ?ds ?df ?_
      case dF => k_asm
      case dX => k_asm
      case dI => k_inst
      case dq => k_is
      case ds => k_is
      case df => k_is
      have lzs : zs.length < 1000 := by
        rw [hzd.length, List.length_map]
        exact Nat.lt_of_le_of_lt (List.length_filter_le _ _) (by rw [← lys]; exact lys2)
      obtain ⟨f1, f2, f3, f4, f5, f6, f7, f8⟩ := off
      have f9 := off1_mem f8
      have HA : HdAt w.params ((D2, LCg.lst zs) :: rest) x d l t1 vs prs := ⟨.tail _ H1, .tail _ H2, List.forall_mem_cons.mpr ⟨Ne.symm f7, H3⟩, H4.mono fun p hp => .tail _ hp, H5⟩
      have N1 : News _ _ _ ((l, listOf vs.toArray k) :: (D2, LCg.lst zs) :: rest) := cb_drop N8 (by walk_at "my sub")
      clear N8
      refine' Mine.Spec.use (del_s (k := k) HA (nm := bare) (by omega) (fun p hp => Nat.lt_trans (hp1 p hp).1 (by decide)) hn) ?c9B ?c9F ?c9X ?c9N ?c9T ?c9d ?c9u ?_
      case c9B => k_asm
      case c9F => k_asm
      case c9X => k_asm
      case c9N => exact N1
      case c9T => k_asm
      case c9d => k_room
      case c9u => k_units
      intro v9 h9 tk9 n9 F9 N9 P9
      obtain ⟨vs2, k2, rfl, rfl, hvs2⟩ := P9
      k_steps
      unfold Halt
      rename Fr _ _ _ _ => F9
      rename News _ _ _ _ => N9
      rename_i D5 h5 l5
      obtain ⟨m₂, em, F10⟩ := Fr.gen F9
      have qt2 : m₂ (Str.ofString "table") = some (.ref x) := by rw [em]; exact qt1
      have qb2 : m₂ (Str.ofString "bare") = some (.str bare ts) := by rw [em]; exact qb1
      clear em F9
      generalize hvals : (heldOf prs bare).filter (fun v => !(wsV rem).less (wsV v)) = kept at hzd hret
      have hkm : ∀ v ∈ kept, v ∈ heldOf prs bare := fun v hv => by rw [← hvals] at hv; exact (List.mem_filter.mp hv).1
      have oD5 : @Ne Nat D5 l := by walk_at "my ne"
      have N10 : News _ _ _ ((l, listOf vs2.toArray k2) :: (D5, listOf (zs ++ [Value.str rem u]).toArray 0) :: (D2, LCg.lst zs) :: rest) := cb_drop N9 (by walk_at "my sub")
      clear N9
      have hall2 : DatAll rest (zs ++ [Value.str rem u]) ((kept ++ [rem]).map .str) := by
        rw [List.map_append]
        exact hzd.append (.one (.str _ _))
      have hvok : ∀ v ∈ kept ++ [rem], v.length < 100 ∧ okVal w.params v = true := fun v hv => by
        rcases List.mem_append.mp hv with hv | hv
        · exact ⟨hvl v (hkm v hv), hvk v (hkm v hv)⟩
        · rw [List.mem_singleton.mp hv]; exact ⟨hr, hv2⟩
      have lkept : kept.length < 400 := by
        rw [← hvals]
        refine Nat.lt_of_le_of_lt (List.length_filter_le _ _) ?_
        unfold heldOf
        rw [List.length_map]
        exact Nat.lt_of_le_of_lt (List.length_filter_le _ _) hl4
      have lbase : (prs.filter fun p => Txt.lower p.1 != Txt.lower bare).length < 400 := Nat.lt_of_le_of_lt (List.length_filter_le _ _) hl4
      clear hvals
      generalize (prs.filter fun p => Txt.lower p.1 != Txt.lower bare) = bse at hvs2 hret lbase
      refine iter_listP (fun pre m n => ∃ (us : List Value) (k : Nat) (new : Led) (u1 : Option Value), n = (l, listOf us.toArray k) :: (new ++ rest) ∧ (D5, listOf (zs ++ [Value.str rem u]).toArray 0) ∈ new ∧ DatAll (new ++ rest) us ((bse ++ ((kept ++ [rem]).take pre.length).map fun v => (bare, v)).map prD) ∧ (∀ p ∈ new, p.1 ≠ l ∧ ∀ q ∈ rest, p.1 ≠ q.1) ∧ m = upd [(Str.ofString "value", u1)] m₂) (by rfl) F10 N10 (.tail _ (.head _)) rfl rfl ?i0 ?i1 ?i2
      case i0 =>
        refine ⟨vs2, k2, [(D5, listOf (zs ++ [Value.str rem u]).toArray 0), (D2, LCg.lst zs)], m₂ (Str.ofString "value"), rfl, .head _, ?_, ?_, upd_eq ⟨rfl, trivial⟩ (fun _ _ => rfl)⟩
        · simp only [List.length_nil, List.take_zero, List.map_nil, List.append_nil]
          exact hvs2.mono fun p hp => .tail _ hp
        · have f5 : ∀ q ∈ rest, D5 ≠ q.1 := fun q hq => Nat.ne_of_gt (allLt_mem (by walk_at "my allLt") q hq)
          exact List.forall_mem_cons.mpr ⟨⟨oD5, f5⟩, List.forall_mem_cons.mpr ⟨⟨Ne.symm f7, fun q hq => Ne.symm (f9 q hq)⟩, fun _ h => nomatch h⟩⟩
      case i1 =>
        clear F10 N10
        rintro pre v post it I m n h tk e1 ⟨us, k3, new, u1, rfl, hD5, hdat, hoff, rfl⟩ e3 e4 e5 F8 N8
        obtain ⟨s9, hs1, hs2, hs3, hs4⟩ := dat_split hall2 e1
        obtain ⟨t9, rfl⟩ := str_of hs4
        obtain ⟨hsl, hsk⟩ := hvok s9 hs1
        have hI : l ≠ I := e4 _ (.head _)
        have H1b : (x, instObj 262 d) ∈ new ++ rest := List.mem_append_right _ H1
        have H2b := List.mem_append_right new H2
        have HB : HdAt w.params ((I, it) :: (new ++ rest)) x d l t1 us (bse ++ ((kept ++ [rem]).take pre.length).map fun v => (bare, v)) := ⟨.tail _ H1b, .tail _ H2b, List.forall_mem_cons.mpr ⟨Ne.symm hI, fun p hp => (List.mem_append.mp hp).elim (fun h => (hoff p h).1) (H3 p)⟩, hdat.mono fun p hp => .tail _ hp, by
          rw [List.length_append, List.length_map, List.length_take, List.length_append, List.length_singleton]
          omega⟩
        have N9 : News _ _ _ ((l, listOf us.toArray k3) :: (I, it) :: (new ++ rest)) := cb_drop N8 (by walk_at "my sub")
        clear N8
        k_steps
        unfold Halt
        refine' Mine.Spec.use (add_s (k := k3) HB (nm := bare) (vl := s9) (by omega) (by omega) hn2 hsk) ?c10B ?c10F ?c10X ?c10N ?c10T ?c10d ?c10u ?_
        case c10B => k_asm
        case c10F => k_asm
        case c10X => k_asm
        case c10N => exact N9
        case c10T => k_asm
        case c10d => k_room
        case c10u => k_units
        intro v10 h10 tk10 n10 F10 N10 P10
        obtain ⟨D6, k6, t6, u6, rfl, rfl, l6, l7⟩ := P10
        k_steps
        refine' UnrEnd.intro ?j1F ?j1N ((l, listOf (us ++ [Value.ref D6]).toArray k6) :: (((D6, ({ cls := .type "tuple", data := .seq #[Value.str bare t6, Value.str s9 u6] } : Obj)) :: new) ++ rest)) ?j1s ?j1o ⟨.tail _ (.tail _ (List.mem_append_left _ hD5)), us ++ [Value.ref D6], k6, (D6, ({ cls := .type "tuple", data := .seq #[Value.str bare t6, Value.str s9 u6] } : Obj)) :: new, _, rfl, .tail _ hD5, ?j1d, ?j1e, ?j1m⟩
        case j1F => k_asm
        case j1N => k_asm
        case j1s => show ∀ p ∈ (I, it) :: (l, listOf (us ++ [Value.ref D6]).toArray k6) :: (D6, ({ cls := .type "tuple", data := .seq #[Value.str bare t6, Value.str s9 u6] } : Obj)) :: (new ++ rest), _; walk_at "my sub"
        case j1o => exact List.forall_mem_cons.mpr ⟨hI, List.forall_mem_cons.mpr ⟨Nat.ne_of_gt (l7 _ (.head _)), fun p hp => e4 p (.tail _ hp)⟩⟩
        case j1m => walk_at "my map"
        case j1e => exact List.forall_mem_cons.mpr ⟨⟨Nat.ne_of_gt l6, fun q hq => Nat.ne_of_gt (l7 _ (.tail _ (List.mem_append_right _ hq)))⟩, hoff⟩
        case j1d =>
          have e9 : bse ++ ((kept ++ [rem]).take pre.length ++ [s9]).map (fun v => (bare, v)) = (bse ++ ((kept ++ [rem]).take pre.length).map fun v => (bare, v)) ++ [(bare, s9)] := by simp
          rw [hs3, e9, List.map_append]
          refine (hdat.mono fun p hp => .tail _ hp).append (.one ?_)
          exact .tuple (.head _) (.cons (.str _ _) (.cons (.str _ _) .nil))
      case i2 =>
        clear F10 N10
        rintro m n h tk ⟨us, k3, new, u1, rfl, hD5, hdat, hoff, rfl⟩ F8 N8
        have lz : (kept ++ [rem]).length ≤ (zs ++ [Value.str rem u]).length := by
          rw [hall2.length, List.length_map]; exact Nat.le_refl _
        rw [List.take_of_length_le lz] at hdat
        k_steps
        rename News h₀ L _ _ => N5
        refine' hret _ _ _ _ ?r5F ?r5N ⟨us, k3, new, rfl, rfl, hdat, hoff⟩
        case r5F => k_asm
        case r5N => exact cb_drop N5 (by walk_at "my sub")
end
section
/-- two int lists of one length, one before the other -/
noncomputable def lexLt : List Int → List Int → Bool
  | x :: xs, y :: ys => if x = y then lexLt xs ys else decide (x < y)
  | _, _ => false
open AutoSeq1 (wpAny_loadPart') in
open MeetsSeq MeetsSeq3 in
theorem lt_loop (l b : Addr) (items items2 : Array Value) (n n2 : Nat) (xs ys : List Int) (hx : IntsAre items.toList xs) (hy : IntsAre items2.toList ys) (hsz : items.size = items2.size) (k : Nat) :
    ∀ i : Nat, items.size - i = k → Meets (Builtin.«list.__eq__.loop» ⟨[.ref l, .ref b, rawInt i, rawInt 0], []⟩)
      (fun _ R s => s.heap.get? l = some { cls := .type "list", dict := none, data := .seq items n, slots := #[] } ∧ s.heap.get? b = some { cls := .type "list", dict := none, data := .seq items2 n2, slots := #[] } ∧
        R (.ok (.ret (.bool (lexLt (xs.drop i) (ys.drop i))))) s) := by
  have lx : items.size = xs.length := by rw [← hx.length, Array.length_toList]
  have ly : items2.size = ys.length := by rw [← hy.length, Array.length_toList]
  induction k with
  | zero =>
    intro i hk prog w A R s h
    obtain ⟨hp, g, d, tk, os⟩ := s; obtain ⟨hl, hb, h⟩ := h
    wp_walk using wpAny_loadPart' hl, wpAny_loadPart' hb
    have hi1 : items[((i : Nat) : Int).toNat]? = none := by simp; omega
    have hi2 : items2[((i : Nat) : Int).toNat]? = none := by simp; omega
    have hd : xs.drop i = [] := List.drop_eq_nil_of_le (by omega)
    rw [hd] at h
    rw [hi1, hi2]
    wp_walk using wpAny_loadPart' hl, wpAny_loadPart' hb
    show R (.ok (.ret (.bool (decide (items.size < items2.size))))) _
    rw [hsz, decide_eq_false (Nat.lt_irrefl _)]
    exact h
  | succ k ih =>
    intro i hk prog w A R s h
    obtain ⟨hp, g, d, tk, os⟩ := s; obtain ⟨hl, hb, h⟩ := h
    wp_walk using wpAny_loadPart' hl, wpAny_loadPart' hb
    have hlt : i < xs.length := by omega
    have hlt2 : i < ys.length := by omega
    obtain ⟨t1, e1⟩ := ints_at hx hlt
    obtain ⟨t2, e2⟩ := ints_at hy hlt2
    have g1 : xs.getD i 0 = xs[i] := by rw [List.getD_eq_getElem?_getD, List.getElem?_eq_getElem hlt]; rfl
    have g2 : ys.getD i 0 = ys[i] := by rw [List.getD_eq_getElem?_getD, List.getElem?_eq_getElem hlt2]; rfl
    rw [g1] at e1
    rw [g2] at e2
    have hi1 : items[((i : Nat) : Int).toNat]? = some (.int xs[i] t1) := by simpa using e1
    have hi2 : items2[((i : Nat) : Int).toNat]? = some (.int ys[i] t2) := by simpa using e2
    have hc : ((i : Int) + 1) = ((i + 1 : Nat) : Int) := by push_cast; rfl
    rw [List.drop_eq_getElem_cons hlt, List.drop_eq_getElem_cons hlt2] at h
    rw [hi1, hi2]
    refine wpAny_bind (EqGives.int xs[i] ys[i] t1 t2 prog w _ _ _ _ ?_)
    cases hb' : (xs[i] == ys[i]) with
    | true =>
      have he : xs[i] = ys[i] := beq_iff_eq.mp hb'
      unfold lexLt at h
      rw [if_pos he] at h
      wp_walk
      rw [hc]
      exact ⟨plainId_quiet plain_eq_loop _, codeAny_builtin entry_eq_loop (by
        rw [Around.under_plainId plain_eq_loop _]
        exact ih (i + 1) (by omega) prog w A R _ ⟨hl, hb, h⟩)⟩
    | false =>
      have he : ¬ xs[i] = ys[i] := beq_eq_false_iff_ne.mp hb'
      unfold lexLt at h
      rw [if_neg he] at h
      wp_walk using wpAny_loadPart' hl, wpAny_loadPart' hb
      rw [hi1, hi2]
      refine wpAny_bind (m := richCompare .Lt (.int xs[i] t1) (.int ys[i] t2)) (PyProof.Rows.lt_int ?_)
      wp_walk
      exact h
open AutoSeq1 (wpAny_loadPart') in
open MeetsSeq MeetsSeq3 in
theorem list_lt (l b : Addr) (items items2 : Array Value) (n n2 : Nat) (xs ys : List Int) (hx : IntsAre items.toList xs) (hy : IntsAre items2.toList ys) (hsz : items.size = items2.size) :
    Meets (Builtin.«list.__lt__» ⟨[.ref l, .ref b], []⟩)
      (fun _ R s => s.heap.get? l = some { cls := .type "list", dict := none, data := .seq items n, slots := #[] } ∧ s.heap.get? b = some { cls := .type "list", dict := none, data := .seq items2 n2, slots := #[] } ∧
        R (.ok (.ret (.bool (lexLt xs ys)))) s) := by
  intro prog w A R s h
  obtain ⟨hp, g, d, tk, os⟩ := s; obtain ⟨hl, hb, h⟩ := h
  have f3 := AutoSeq1.sub_list_list
  wp_walk using wpAny_loadPart' hl, wpAny_loadPart' hb
  exact ⟨plainId_quiet plain_eq_loop _, codeAny_builtin entry_eq_loop (by
    rw [Around.under_plainId plain_eq_loop _]
    exact lt_loop l b items items2 n n2 xs ys hx hy hsz _ 0 rfl prog w A R _ ⟨hl, hb, by simpa using h⟩)⟩
theorem ask_lists {prog : Program} {w : World} {A : Around} {E : Value → Shared → Prop} {s : Shared} {a b : Addr} {us vs : List Value} {n k : Nat} {xs ys : List Int} {Q : Bool → Shared → Prop} (hu : A.units < cLine)
    (ha : s.heap.get? a = some (listOf us.toArray n)) (hb : s.heap.get? b = some (listOf vs.toArray k)) (hx : IntsAre us xs) (hy : IntsAre vs ys) (hsz : us.length = vs.length) (h : Q (lexLt xs ys) s) :
    wpAny (model prog w) A (keyLt' oneType' (.ref a) (.ref b)) Q E s := by
  rw [keyLt'_oneType, oneLt'_eq]
  simp only [if_true]
  refine wpAny_bind (wpAny_cRoomFor hu ?_)
  have hT : s.TypeIs (.ref a) "list" := ⟨_, ha, rfl⟩
  refine wpAny_bind (wpAny_callSpecialIfBound?_slot (name := PySem.Str.ofString "__lt__") hT F.slot_list_lt (call_meets F.slot_list_lt hT F.entry_list_lt (F.args_list_lt_2 _ _) (list_lt a b us.toArray vs.toArray n k xs ys (by simpa using hx) (by simpa using hy) (by simpa using hsz)) ⟨ha, hb, ?_⟩))
  exact wpAny_truthy_bool h
noncomputable def evc {α : Type} (n : Nat) (lt : Nat → Nat → Bool) : KasT α → Option α
  | .ret a => some a
  | .ask i j k => if i < n ∧ j < n then evc n lt (k (lt i j)) else none
noncomputable def insEv (x : Nat) : List Nat → List (List Nat)
  | [] => [[x]]
  | y :: l => (x :: y :: l) :: (insEv x l).map (y :: ·)
noncomputable def permsOf : List Nat → List (List Nat)
  | [] => [[]]
  | x :: l => (permsOf l).flatMap (insEv x)
noncomputable def sortOk (n : Nat) (σ : List Nat) : Bool := match evc n (fun i j => decide (σ.getD i 0 < σ.getD j 0)) (kas_sort n) with
  | some p => p.toList.map (fun i => σ.getD i 0) == List.range n && p.toList.all fun i => decide (i < n)
  | none => false
theorem insEv_mem {x : Nat} : ∀ (a b : List Nat), a ++ x :: b ∈ insEv x (a ++ b)
  | [], [] => .head _
  | [], y :: b => .head _
  | y :: a, b => by
    show y :: (a ++ x :: b) ∈ (x :: y :: (a ++ b)) :: (insEv x (a ++ b)).map (y :: ·)
    exact .tail _ (List.mem_map.mpr ⟨_, insEv_mem a b, rfl⟩)
theorem permsOf_mem : ∀ (l σ : List Nat), σ.Perm l → σ ∈ permsOf l
  | [], σ, h => by rw [h.eq_nil]; exact .head _
  | x :: l, σ, h => by
    have hx : x ∈ σ := h.mem_iff.mpr (.head _)
    obtain ⟨a, b, rfl⟩ := List.append_of_mem hx
    have h2 : (a ++ b).Perm l := List.Perm.cons_inv ((List.perm_middle.symm).trans h)
    exact List.mem_flatMap.mpr ⟨a ++ b, permsOf_mem l _ h2, insEv_mem a b⟩
theorem sort_2 : (permsOf (List.range 2)).all (sortOk 2) = true := by decide +kernel
theorem sort_3 : (permsOf (List.range 3)).all (sortOk 3) = true := by decide +kernel
theorem sort_4 : (permsOf (List.range 4)).all (sortOk 4) = true := by decide +kernel
theorem sort_5 : (permsOf (List.range 5)).all (sortOk 5) = true := by decide +kernel
theorem sort_6 : (permsOf (List.range 6)).all (sortOk 6) = true := by decide +kernel
theorem lexLt_eq : ∀ {xs ys : List Int}, xs.length = ys.length → lexLt xs ys = decide (xs < ys)
  | [], [], _ => by simp [lexLt]
  | x :: xs, y :: ys, h => by
    have h' : xs.length = ys.length := by simpa using h
    unfold lexLt
    rw [lexLt_eq h']
    by_cases he : x = y
    · subst he
      simp [List.cons_lt_cons_iff]
    · simp [List.cons_lt_cons_iff, he]
noncomputable def sortV (cs : List (List Int)) : List (List Int) := cs.mergeSort fun a b => decide (a ≤ b)
theorem sortV_perm (cs : List (List Int)) : (sortV cs).Perm cs := List.mergeSort_perm _ _
theorem sortV_sorted (cs : List (List Int)) : (sortV cs).Pairwise (· ≤ ·) := by
  have h := List.pairwise_mergeSort (le := fun a b : List Int => decide (a ≤ b)) (by intro a b c h1 h2; simp only [decide_eq_true_eq] at *; exact List.le_trans h1 h2) (by intro a b; simp only [Bool.or_eq_true, decide_eq_true_eq]; exact List.le_total a b) cs
  exact h.imp (by intro a b h; simpa using h)
theorem sortV_eq {a b : List (List Int)} (h : a.Perm b) : sortV a = sortV b := by
  have p : (sortV a).Perm (sortV b) := (sortV_perm a).trans (h.trans (sortV_perm b).symm)
  exact List.Perm.eq_of_pairwise (le := fun a b : List Int => a ≤ b) (by intro a b _ _ h1 h2; exact List.le_antisymm h1 h2) (sortV_sorted a) (sortV_sorted b) p
theorem run_tree {α : Type} {n : Nat} {lt : Nat → Nat → Bool} {cmp : Nat → Nat → (Bool → Shared → Prop) → Shared → Prop} {s : Shared} {G : α → Shared → Prop} (hc : ∀ i j C, i < n → j < n → C (lt i j) s → cmp i j C s) : ∀ {t : KasT α} {a : α}, evc n lt t = some a → G a s → t.kasWp cmp G s
  | .ret b, a, h, hg => by
    have : b = a := Option.some.inj h
    subst this
    exact hg
  | .ask i j k, a, h, hg => by
    unfold evc at h
    split at h
    · rename_i hij
      exact hc i j _ hij.1 hij.2 (run_tree hc h hg)
    · cases h
theorem evc_congr {α : Type} {n : Nat} {l1 l2 : Nat → Nat → Bool} (h : ∀ i j, i < n → j < n → l1 i j = l2 i j) : ∀ t : KasT α, evc n l1 t = evc n l2 t
  | .ret _ => rfl
  | .ask i j k => by
    unfold evc
    by_cases hij : i < n ∧ j < n
    · rw [if_pos hij, if_pos hij, h i j hij.1 hij.2]
      exact evc_congr h _
    · rw [if_neg hij, if_neg hij]
theorem sort_all {n : Nat} (h2 : 2 ≤ n) (h6 : n ≤ 6) {σ : List Nat} (hσ : σ.Perm (List.range n)) : sortOk n σ = true := by
  have hm := permsOf_mem _ _ hσ
  have : n = 2 ∨ n = 3 ∨ n = 4 ∨ n = 5 ∨ n = 6 := by omega
  rcases this with rfl | rfl | rfl | rfl | rfl
  · exact List.all_eq_true.mp sort_2 _ hm
  · exact List.all_eq_true.mp sort_3 _ hm
  · exact List.all_eq_true.mp sort_4 _ hm
  · exact List.all_eq_true.mp sort_5 _ hm
  · exact List.all_eq_true.mp sort_6 _ hm
theorem sort_tree {cs : List (List Int)} {m : Nat} (hn : cs.Nodup) (hl : ∀ c ∈ cs, c.length = m) (h2 : 2 ≤ cs.length) (h6 : cs.length ≤ 6) :
    ∃ p : Array Nat, evc cs.length (fun i j => lexLt (cs.getD i []) (cs.getD j [])) (kas_sort cs.length) = some p ∧ p.toList.map (fun i => cs.getD i []) = sortV cs ∧ ∀ i ∈ p.toList, i < cs.length := by
  have hp := sortV_perm cs
  have hts := sortV_sorted cs
  have hnt : (sortV cs).Nodup := hp.nodup_iff.mpr hn
  generalize hT : sortV cs = ts at hp hts hnt
  have lt : ts.length = cs.length := hp.length_eq
  have hidx : ts.map (fun c => ts.idxOf c) = List.range ts.length := by
    apply List.ext_getElem
    · simp
    · intro i h1 h2
      simp only [List.getElem_map, List.getElem_range]
      exact hnt.idxOf_getElem i (by simpa using h1)
  have hσ : (cs.map fun c => ts.idxOf c).Perm (List.range cs.length) := by
    rw [← lt, ← hidx]
    exact (hp.symm).map _
  have hok := sort_all h2 h6 hσ
  unfold sortOk at hok
  have hg : ∀ i, i < cs.length → (cs.map fun c => ts.idxOf c).getD i 0 = ts.idxOf (cs.getD i []) := by
    intro i hi
    rw [List.getD_eq_getElem?_getD, List.getElem?_map, List.getElem?_eq_getElem hi, List.getD_eq_getElem?_getD, List.getElem?_eq_getElem hi]
    rfl
  have hmem : ∀ i, i < cs.length → cs.getD i [] ∈ ts := by
    intro i hi
    rw [List.getD_eq_getElem?_getD, List.getElem?_eq_getElem hi]
    exact hp.mem_iff.mpr (List.getElem_mem hi)
  have hback : ∀ c ∈ ts, ts.getD (ts.idxOf c) [] = c := by
    intro c hc
    have hlt := List.idxOf_lt_length_of_mem hc
    rw [List.getD_eq_getElem?_getD, List.getElem?_eq_getElem hlt]
    exact List.getElem_idxOf hlt
  have hlen : ∀ c ∈ ts, c.length = m := fun c hc => hl c (hp.mem_iff.mp hc)
  have hcmp : ∀ i j, i < cs.length → j < cs.length → lexLt (cs.getD i []) (cs.getD j []) = decide ((cs.map fun c => ts.idxOf c).getD i 0 < (cs.map fun c => ts.idxOf c).getD j 0) := by
    intro i j hi hj
    rw [hg i hi, hg j hj]
    have m1 := hmem i hi
    have m2 := hmem j hj
    generalize cs.getD i [] = a at m1
    generalize cs.getD j [] = b at m2
    rw [lexLt_eq (by rw [hlen a m1, hlen b m2])]
    have l1 := List.idxOf_lt_length_of_mem m1
    have l2 := List.idxOf_lt_length_of_mem m2
    have g1 : ts[ts.idxOf a] = a := List.getElem_idxOf l1
    have g2 : ts[ts.idxOf b] = b := List.getElem_idxOf l2
    have mono : ∀ (x y : Nat) (hx : x < ts.length) (hy : y < ts.length), x < y → ts[x] ≤ ts[y] := fun x y hx hy hxy => (List.pairwise_iff_getElem.mp hts) x y hx hy hxy
    congr 1
    apply propext
    constructor
    · intro hab
      rcases Nat.lt_trichotomy (ts.idxOf a) (ts.idxOf b) with h | h | h
      · exact h
      · have : a = b := by rw [← g1, ← g2]; simp only [h]
        subst this
        exact absurd hab (List.lt_irrefl _)
      · have := mono _ _ l2 l1 h
        rw [g1, g2] at this
        exact absurd hab (List.not_lt.mpr this)
    · intro h
      have hle := mono _ _ l1 l2 h
      rw [g1, g2] at hle
      rcases List.le_iff_lt_or_eq.mp hle with h' | h'
      · exact h'
      · subst h'; omega
  rw [evc_congr (fun i j hi hj => hcmp i j hi hj)]
  cases hq : evc cs.length (fun i j => decide ((cs.map fun c => ts.idxOf c).getD i 0 < (cs.map fun c => ts.idxOf c).getD j 0)) (kas_sort cs.length) with
  | none => rw [hq] at hok; cases hok
  | some p =>
    rw [hq] at hok
    simp only [Bool.and_eq_true, beq_iff_eq, List.all_eq_true, decide_eq_true_eq] at hok
    refine ⟨p, rfl, ?_, hok.2⟩
    have e1 : p.toList.map (fun i => cs.getD i []) = (p.toList.map fun i => (cs.map fun c => ts.idxOf c).getD i 0).map fun k => ts.getD k [] := by
      rw [List.map_map]
      apply List.map_congr_left
      intro i hi
      show cs.getD i [] = ts.getD ((cs.map fun c => ts.idxOf c).getD i 0) []
      rw [hg i (hok.2 i hi), hback _ (hmem i (hok.2 i hi))]
    rw [e1, hok.1, ← lt]
    apply List.ext_getElem
    · simp
    · intro i h1 h2
      simp [List.getD_eq_getElem?_getD, List.getElem?_eq_getElem h2]
end
section
section
variable {prog : Program} {w : World} {A : Around} {E : Value → Shared → Prop} {s : Shared} {h₀ : Heap} {L a : Addr} {m : Str → Option Value} {news : Led} {vs : List Value}
theorem short_list_sort {n : Nat} {P : PySem.Fin → Shared → Prop} (F : Fr h₀ L s.heap m) (N : News h₀ L s.heap news) (ho : s.heap.get? a = some (seqObj "list" vs.toArray n)) (haL : a ≠ L) (ha0 : h₀.get? a = none) (hna : ∀ p ∈ news, p.1 ≠ a)
    (h2 : vs.length < 2) (h : ∀ h' c, Fr h₀ L h' m → News h₀ L h' ((a, listOf vs.toArray c) :: news) → P (.done (.ret .none)) { s with heap := h' }) :
    wpAny (model prog w) A (Builtin.«list.sort» ⟨[.ref a], []⟩) P E s := by
  have ha : a < s.heap.objs.size := Heap.lt_size ho
  have s1 := Heap.SameBut.update s.heap a (Obj.mapSeq fun _ => (#[] : Array Value))
  obtain ⟨e1, ho1⟩ : ∃ e1, (s.heap.update a (Obj.mapSeq fun _ => (#[] : Array Value))).get? a = some (seqObj "list" #[] e1) := ⟨_, get?_update_seq ho fun _ => #[]⟩
  have F3 : Fr h₀ L (((s.heap.update a (Obj.mapSeq fun _ => (#[] : Array Value))).push (seqObj "tuple" vs.toArray 0)).push (seqObj "list" #[] 0)) m := ((kas_fr F s1 haL ha0).push _).push _
  have N2 : News h₀ L (((s.heap.update a (Obj.mapSeq fun _ => (#[] : Array Value))).push (seqObj "tuple" vs.toArray 0)).push (seqObj "list" #[] 0)) news :=
    (kas_news N s1 hna).grown fun b x e => Heap.get?_push_of_some _ (Heap.get?_push_of_some _ e)
  have ho6 : (((s.heap.update a (Obj.mapSeq fun _ => (#[] : Array Value))).push (seqObj "tuple" vs.toArray 0)).push (seqObj "list" #[] 0)).get? a = some (seqObj "list" #[] e1) := Heap.get?_push_of_some _ (Heap.get?_push_of_some _ ho1)
  rw [list_sort_plain]
  refine wpAny_bind (listItems_at ho rfl ?_)
  refine wpAny_bind (listUpdate_at ho rfl ?_ (by rw [List.size_toArray, sizeLine_eq]; omega) (Nat.zero_le _))
  refine wpAny_bind (seqEpoch_at ho1 rfl ?_)
  refine wpAny_bind (wpAny_newTuple ?_ (by show vs.length ≤ _; rw [sizeLine_eq]; omega))
  refine wpAny_bind (wpAny_newList ?_ (Nat.zero_le _))
  refine wpAny_holding ?_
  show wpAny (model prog w) A _ P E { s with heap := ((s.heap.update a (Obj.mapSeq fun _ => (#[] : Array Value))).push (seqObj "tuple" vs.toArray 0)).push (seqObj "list" #[] 0) }
  dsimp only
  have hn2 : vs.toArray.size < 2 := by rw [List.size_toArray]; omega
  rw [if_pos hn2, if_pos hn2]
  refine wpAny_bind (wpAny_pure ?_)
  rw [StateT.run_pure]
  refine wpAny_bind (wpAny_pure ?_)
  dsimp only
  have hout : (arrOf (SortSt.mk' general' (vs.toArray.zip vs.toArray) #[] 7 none)).map (·.2) = vs.toArray := by
    apply Array.toList_inj.mp
    show ((vs.toArray.zip vs.toArray).map (·.2)).toList = _
    simp [List.map_snd_zip]
  rw [hout]
  refine wpAny_bind (seqEpoch_at ho6 rfl ?_)
  obtain ⟨c2, hc2⟩ : ∃ c2, ((((s.heap.update a (Obj.mapSeq fun _ => (#[] : Array Value))).push (seqObj "tuple" vs.toArray 0)).push (seqObj "list" #[] 0)).update a (Obj.mapSeq fun _ => vs.toArray)).get? a = some (seqObj "list" vs.toArray c2) := ⟨_, get?_update_seq ho6 fun _ => vs.toArray⟩
  have s2 := Heap.SameBut.update (((s.heap.update a (Obj.mapSeq fun _ => (#[] : Array Value))).push (seqObj "tuple" vs.toArray 0)).push (seqObj "list" #[] 0)) a (Obj.mapSeq fun _ => vs.toArray)
  refine wpAny_bind (listUpdate_at ho6 rfl ?_ (Nat.zero_le _) (by rw [List.size_toArray, sizeLine_eq]; omega))
  simp only [bne_self_eq_false, Bool.false_eq_true, if_false]
  refine wpAny_pure (h _ c2 (kas_fr F3 s2 haL ha0) fun p hp => ?_)
  rcases List.mem_cons.mp hp with rfl | hp
  · exact ⟨hc2, haL, ha0⟩
  · exact kas_news N2 s2 hna p hp
theorem short_sorted {l : Addr} {Q : Value → Shared → Prop} (F : Fr h₀ L s.heap m) (N : News h₀ L s.heap news) (hl : s.heap.IsList l vs.toArray) (h2 : vs.length < 2)
    (h : ∀ D c h', Fr h₀ L h' m → News h₀ L h' ((D, listOf vs.toArray c) :: news) → (∀ q ∈ news, q.1 < D) → Q (.ref D) { s with heap := h' }) :
    wpAny (model prog w) A (call (.builtin "sorted") [.ref l]) Q E s := by
  refine Calls.call_function_entry kind_sorted plain_sorted entry_sorted (args_sorted1 _) ?_
  unfold Builtin.«sorted»
  refine wpAny_bind (m := checkCount "sorted" 1 1 _) (wpAny_pure ?_)
  refine wpAny_bind (collect_list hl ?_ (by rw [sizeLine_eq]; omega))
  refine wpAny_bind (wpAny_newList ?_ (by rw [sizeLine_eq]; omega))
  have hsz : ((s.heap.push (seqObj "list" #[] 0)).update s.heap.objs.size (Obj.mapSeq (· ++ vs.toArray))).objs.size = s.heap.objs.size + 1 := by
    rw [Heap.size_update, size_push']
  have hoL : (((s.heap.push (seqObj "list" #[] 0)).update s.heap.objs.size (Obj.mapSeq (· ++ vs.toArray))).push (seqObj "list" vs.toArray 0)).get? (s.heap.objs.size + 1) = some (seqObj "list" vs.toArray 0) := by
    rw [← hsz]; exact Heap.get?_push_size _ rfl
  have keep : ∀ b o, s.heap.get? b = some o → (((s.heap.push (seqObj "list" #[] 0)).update s.heap.objs.size (Obj.mapSeq (· ++ vs.toArray))).push (seqObj "list" vs.toArray 0)).get? b = some o := fun b o q => by
    have hlt : b < s.heap.objs.size := Heap.lt_size q
    rw [Heap.get?_push_ne _ _ _ (by rw [hsz]; exact Nat.ne_of_lt (Nat.lt_succ_of_lt hlt)), Heap.get?_update_ne _ _ _ _ (Nat.ne_of_lt hlt), Heap.get?_push_ne _ _ _ (Nat.ne_of_lt hlt)]
    exact q
  have hL : L < s.heap.objs.size := F.ns.lt
  show wpAny _ _ _ _ _ { s with heap := ((s.heap.push (seqObj "list" #[] 0)).update s.heap.objs.size (Obj.mapSeq (· ++ vs.toArray))).push (seqObj "list" vs.toArray 0) }
  rw [hsz]
  refine wpAny_bind (wpAny_holding (wpAny_call_entry slot_list_sort ⟨_, hoL, rfl⟩ entry_list_sort ?body (args_list_sort _)))
  case body =>
    refine short_list_sort (s := { s with heap := ((s.heap.push (seqObj "list" #[] 0)).update s.heap.objs.size (Obj.mapSeq (· ++ vs.toArray))).push (seqObj "list" vs.toArray 0) })
      (F.kept keep) (N.grown keep) hoL (Nat.ne_of_gt (Nat.lt_succ_of_lt hL)) (Heap.get?_none_of_le (Nat.le_trans F.above (Nat.le_succ_of_le (Nat.le_of_lt hL))))
      (fun p hp => Nat.ne_of_lt (Nat.lt_succ_of_lt (Heap.lt_size (N p hp).1))) h2 fun h' c F' N' => ?_
    exact ⟨_, rfl, wpAny_pure ⟨_, rfl, h _ c h' F' N' fun q hq => Nat.lt_succ_of_lt (Heap.lt_size (N q hq).1)⟩⟩
theorem dat_pick {f : List Int → Dat} {cs : List (List Int)} (hd : DatAll news vs (cs.map f)) : ∀ p : List Nat, (∀ i ∈ p, i < cs.length) → DatAll news (p.map fun i => vs.getD i Value.none) ((p.map fun i => cs.getD i []).map f)
  | [], _ => .nil
  | i :: p, h => by
    have hi := h i (.head _)
    obtain ⟨v, hv, hdv⟩ := hd.get (k := i) (by rw [List.length_map]; exact hi)
    rw [List.getElem_map] at hdv
    have e1 : vs.getD i Value.none = v := by rw [List.getD_eq_getElem?_getD, hv]; rfl
    have e2 : cs.getD i [] = cs[i] := by rw [List.getD_eq_getElem?_getD, List.getElem?_eq_getElem hi]; rfl
    rw [List.map_cons, List.map_cons, List.map_cons, e1, e2]
    exact .cons hdv (dat_pick hd p fun i hi => h i (.tail _ hi))
noncomputable def colD (c : List Int) : Dat := .list (c.map .int)
theorem sorted_cols {l : Addr} {k z : Nat} {cs : List (List Int)} {Q : Value → Shared → Prop} (F : Fr h₀ L s.heap m) (N : News h₀ L s.heap news) (hl : (l, listOf vs.toArray k) ∈ news) {nd : Led} (hs : ∀ q ∈ nd, q ∈ news) (hd : DatAll nd vs (cs.map colD)) (hn : cs.Nodup) (hz : ∀ c ∈ cs, c.length = z) (h6 : cs.length ≤ 6) (hu : A.units + 2 < cLine)
    (h : ∀ D us c h', Fr h₀ L h' m → News h₀ L h' ((D, listOf (us : List Value).toArray c) :: news) → (∀ q ∈ news, q.1 < D) → DatAll nd us ((sortV cs).map colD) → Q (.ref D) { s with heap := h' }) :
    wpAny (model prog w) A (call (.builtin "sorted") [.ref l]) Q E s := by
  have lv : vs.length = cs.length := by rw [hd.length, List.length_map]
  by_cases h2 : vs.length < 2
  · refine short_sorted F N (News.isList N hl) h2 fun D c h' F' N' q => h D vs c h' F' N' q ?_
    have : sortV cs = cs := by
      match cs, lv ▸ h2 with
      | [], _ => simp [sortV]
      | [_], _ => simp [sortV]
      | _ :: _ :: _, h2 => simp at h2; omega
    rw [this]; exact hd
  · obtain ⟨p, hp1, hp2, hp3⟩ := sort_tree hn hz (by omega) h6
    have at_ : ∀ i, i < cs.length → ∃ a us c, vs.getD i Value.none = .ref a ∧ (a, listOf (us : List Value).toArray c) ∈ news ∧ IntsAre us (cs.getD i []) := by
      intro i hi
      obtain ⟨v, hv, hdv⟩ := hd.get (k := i) (by rw [List.length_map]; exact hi)
      rw [List.getElem_map] at hdv
      obtain ⟨a, us, c, e, hm, hr⟩ := list_open hdv
      have e2 : cs.getD i [] = cs[i] := by rw [List.getD_eq_getElem?_getD, List.getElem?_eq_getElem hi]; rfl
      exact ⟨a, us, c, by rw [List.getD_eq_getElem?_getD, hv]; exact e, hs _ hm, by rw [e2]; exact ints_back hr⟩
    refine kas_sorted (T := .type "list") F N (News.isList N hl) (by omega) (by omega) ?_ (by decide) fun D e1 h' F' N' hlt => ?_
    · intro h9 _ N9 v hv
      obtain ⟨i, hi, rfl⟩ := List.getElem_of_mem hv
      obtain ⟨a, us, c, e, hm, _⟩ := at_ i (by omega)
      have e3 : vs[i] = .ref a := by rw [← e, List.getD_eq_getElem?_getD, List.getElem?_eq_getElem hi]; rfl
      rw [e3]
      exact (Looks.ld (N9 _ hm).1).andThen .now
    · rw [lv]
      refine run_tree (lt := fun i j => lexLt (cs.getD i []) (cs.getD j [])) (n := cs.length) (fun i j C hi hj hC => ?_) hp1 ?_
      · obtain ⟨a, us, c, e, hm, hr⟩ := at_ i hi
        obtain ⟨a2, us2, c2, e2, hm2, hr2⟩ := at_ j hj
        unfold kas_ask
        rw [e, e2]
        have q1 : ∀ i, i < cs.length → (cs.getD i []).length = z := fun i hi => by
          rw [List.getD_eq_getElem?_getD, List.getElem?_eq_getElem hi]
          exact hz _ (List.getElem_mem hi)
        refine ask_lists ?_ (N' _ (.tail _ hm)).1 (N' _ (.tail _ hm2)).1 hr hr2 (by rw [hr.length, hr2.length, q1 i hi, q1 j hj]) hC
        show A.in1.in1.units < cLine
        rw [units_in1, units_in1]; exact hu
      · refine KasFin.intro F' N' (UpdF.head fun q hq => Nat.ne_of_lt (hlt q hq)) fun h9 c F9 N9 => ?_
        refine h D _ c h9 F9 N9 hlt ?_
        rw [← hp2]
        exact dat_pick hd _ hp3
end
end
section
structure Note where
  msg : Str
  ld : Str
  cd : Str
noncomputable def noteT (n : Note) : Dat := .tuple [.str n.msg, .str n.ld, .str n.cd]
theorem note_open {news : Led} {v : Value} {n : Note} (h : DatIn news v (noteT n)) : ∃ a k t1 t2 t3, v = .ref a ∧ (a, ({ cls := .type "tuple", data := .seq [Value.str n.msg t1, Value.str n.ld t2, Value.str n.cd t3].toArray k } : Obj)) ∈ news := by
  unfold noteT at h
  cases h with
  | tuple hm r =>
    cases r with
    | cons d1 r =>
      cases r with
      | cons d2 r =>
        cases r with
        | cons d3 r =>
          cases r
          cases d1
          cases d2
          cases d3
          exact ⟨_, _, _, _, _, rfl, hm⟩
theorem app_len (a b : Str) : (a ++ b).length = a.length + b.length := by
  show (a.cps ++ b.cps).size = _
  rw [Array.size_append]
  rfl
noncomputable def remOf (n : Note) : Str := Str.ofString "# " ++ n.ld ++ n.cd
noncomputable def dueOf (r : Row) : Str := Str.ofString "# " ++ r.ld ++ Str.ofString "x"
structure NoteOk (p : Params) (n : Note) : Prop where
  a1 : n.msg.length < 100
  a2 : n.ld.length < 40
  a3 : n.cd = Str.ofString "x" ∨ n.cd = Str.ofString ""
  a4 : commentV (n.ld ++ n.cd ++ Str.ofString " \t\n") = if n.cd = Str.ofString "x" then remOf n else Str.ofString "#"
  a5 : stripV n.msg = bareV n.msg
  a6 : (bareV n.msg).length < 100
  a7 : okName p (bareV n.msg) = true
  a8 : okName p (Txt.lower (bareV n.msg)) = true
  a9 : okVal p (remOf n) = true
  a10 : okName p (Txt.lower (Txt.swapcase (bareV n.msg))) = true
  a11 : (Txt.swapcase (bareV n.msg)).length < 100
  a12 : Txt.lower (bareV n.msg) = Str.ofString "a" ∨ Txt.lower (bareV n.msg) = Str.ofString "b"
  a13 : Txt.lower (Txt.swapcase (bareV n.msg)) = Txt.lower (bareV n.msg)
noncomputable def tabStep (prs : List (Str × Str)) (n : Note) : List (Str × Str) := if n.cd = Str.ofString "x" then layV prs (bareV n.msg) (remOf n) else prs
noncomputable def tabOf (ns : List Note) : List (Str × Str) := ns.foldl tabStep [(Str.ofString "first", Str.ofString "own")]
noncomputable def rowOf (n : Note) : Row := ⟨Txt.lower (bareV n.msg), n.ld, colsV n.ld⟩
noncomputable def rowsOf (ns : List Note) : List Row := (ns.filter fun n => decide (n.cd = Str.ofString "x")).map rowOf
noncomputable def GoodTab (p : Params) (prs : List (Str × Str)) : Prop := prs.length < 400 ∧ ∀ q ∈ prs, q.1.length < 100 ∧ q.2.length < 100 ∧ okVal p q.2 = true ∧ PyData.strOk q.2 = true
/-- what the walk of _law_left asks of its notes -/
structure LeftOk (p : Params) (nts : List Note) : Prop where
  n6 : nts.length ≤ 6
  good : ∀ n ∈ nts, NoteOk p n
  gt : ∀ i, GoodTab p (tabOf (nts.take i))
  held : ∀ low, low = Str.ofString "a" ∨ low = Str.ofString "b" → heldOf (tabOf nts) low = (leastV (rowsOf nts) low).map dueOf
  nd : ∀ low, low = Str.ofString "a" ∨ low = Str.ofString "b" → ((leastV (rowsOf nts) low).map (·.cs)).Nodup
  len : (tabOf nts).length = 1 + (leastV (rowsOf nts) (Str.ofString "a")).length + (leastV (rowsOf nts) (Str.ofString "b")).length
  first : ∃ r, tabOf nts = (Str.ofString "first", Str.ofString "own") :: r
theorem rowsOf_snoc {ns : List Note} {n : Note} : rowsOf (ns ++ [n]) = if n.cd = Str.ofString "x" then rowsOf ns ++ [rowOf n] else rowsOf ns := by
  unfold rowsOf
  rw [List.filter_append, List.map_append]
  split
  · rw [List.filter_cons_of_pos (by simpa using by assumption)]; rfl
  · rw [List.filter_cons_of_neg (by simpa using by assumption)]; simp
theorem tabOf_snoc {ns : List Note} {n : Note} : tabOf (ns ++ [n]) = tabStep (tabOf ns) n := by
  unfold tabOf
  rw [List.foldl_append]; rfl
theorem rowsOf_len (ns : List Note) : (rowsOf ns).length ≤ ns.length := by
  unfold rowsOf
  rw [List.length_map]
  exact List.length_filter_le _ _
theorem colsV_len (l : Str) : (colsV l).length = 6 := by
  unfold colsV colsL
  rw [List.length_map, List.length_range]
theorem rowsOf_cs {ns : List Note} {r : Row} (h : r ∈ rowsOf ns) : r.cs.length = 6 := by
  obtain ⟨n, _, rfl⟩ := List.mem_map.mp h
  exact colsV_len _
theorem leastUp_sub {same : List Row} : ∀ i, i ≤ same.length → ∀ r ∈ leastUp same i, r ∈ same
  | 0, _, r, h => by cases h
  | i + 1, hi, r, h => by
    unfold leastUp at h
    split at h
    · rcases List.mem_append.mp h with h | h
      · exact leastUp_sub i (by omega) r h
      · rw [List.mem_singleton.mp h, List.getD_eq_getElem?_getD, List.getElem?_eq_getElem (by omega)]
        exact List.getElem_mem _
    · exact leastUp_sub i (by omega) r h
theorem leastV_sub {rows : List Row} {low : Str} {r : Row} (h : r ∈ leastV rows low) : r ∈ rows ∧ (r.nm == low) = true := by
  have := leastUp_sub _ (Nat.le_refl _) _ h
  unfold sameOf at this
  exact List.mem_filter.mp this
theorem leastV_len (rows : List Row) (low : Str) : (leastV rows low).length ≤ rows.length :=
  Nat.le_trans (leastUp_len _ _) (List.length_filter_le _ _)
theorem pr_narrow {n n' : Led} (h : ∀ q ∈ n, q.2.cls = .type "tuple" → q ∈ n') : ∀ {us : List Value} {prs : List (Str × Str)}, DatAll n us (prs.map prD) → DatAll n' us (prs.map prD)
  | _, [], d => by cases d; exact .nil
  | _, p :: prs, d => by
    rw [List.map_cons] at d ⊢
    cases d with
    | cons d1 r =>
      refine .cons ?_ (pr_narrow h r)
      unfold prD at d1 ⊢
      cases d1 with
      | tuple hm r =>
        refine .tuple (h _ hm rfl) ?_
        cases r with
        | cons d1 r =>
          cases r with
          | cons d2 r =>
            cases r
            cases d1
            cases d2
            exact .cons (.str _ _) (.cons (.str _ _) .nil)
section
variable {prog : Program} {w : World} {A : Around} {E : Value → Shared → Prop} {s : Shared} {env : Env} {h₀ : Heap} {x : Str} {body : List Stmt} {Q : Flow → Shared → Prop}
theorem iter_tupT {target : Expr} {ax : Addr} {lo : Obj} {vs : List Value} {k : Nat} {m₀ : Str → Option Value} {news : Led} (S : List Value → (Str → Option Value) → Led → Prop)
    (hh : A.handled = none) (F : Fr h₀ env.locals s.heap m₀) (N : News h₀ env.locals s.heap news) (hm : (ax, lo) ∈ news) (hc : lo.cls = .type "tuple") (hd : lo.data = .seq vs.toArray k) (h0 : S [] m₀ news)
    (turn : ∀ pre v post it I m n h tk, vs = pre ++ v :: post → S pre m n → (∀ p ∈ news, p.1 < I) → (∀ p ∈ n, p.1 ≠ I) → it.cls = .type "tuple_iterator" → Fr h₀ env.locals h m → News h₀ env.locals h ((I, it) :: n) →
      wpAny (model prog w) A (assign target env v) (fun _ s₂ => wpAny (model prog w) A (execs body env) (UnrPostW h₀ env.locals { s with heap := h, toks := tk } [(I, it)] (fun m' n' => (ax, lo) ∈ n' ∧ S (pre ++ [v]) m' n') Q) E s₂) E { s with heap := h, toks := tk })
    (done : ∀ m n h tk, S vs m n → Fr h₀ env.locals h m → News h₀ env.locals h n → Q .next { s with heap := h, toks := tk }) :
    wpAny (model prog w) A (pyIter (.ref ax)) (fun it s₂ => TurnsAt prog w A h₀ env target body Q E it s₂) E s := by
  refine iter_tupTurns hh F N hm hc hd fun I hI => ?_
  suffices h : ∀ post pre m n, vs = pre ++ post → S pre m n → (∀ p ∈ n, p.1 ≠ I) → ItemsRest prog w A E h₀ env target body Q s [(I, "tuple_iterator")] [(ax, lo)] (post.map .val) m n from h _ [] _ _ rfl h0 fun p hp => Nat.ne_of_lt (hI p hp)
  intro post
  induction post with
  | nil =>
    intro pre m n e hS ho
    rw [List.append_nil] at e
    exact ItemsRest.zero fun h tk F' N' => done m n h tk (e ▸ hS) F' N'
  | cons c post ih =>
    intro pre m n e hS ho
    refine ItemsRest.val fun h tk F' => AllObj.cons fun it hi => AllObj.nil fun N' => ?_
    refine wpAny_mono (turn pre c post it I m n h tk e hS hI ho hi F' N') (fun _ s₂ q => wpAny_mono q (fun f s₃ p => ?_) fun _ _ q => q) fun _ _ q => q
    have go : UnrEndW h₀ env.locals { s with heap := h, toks := tk } [(I, it)] (fun m' n' => (ax, lo) ∈ n' ∧ S (pre ++ [c]) m' n') s₃ → UnrEndW h₀ env.locals { s with heap := h, toks := tk } [(I, it)] (fun m' n' => SubL [(ax, lo)] n' ∧ ItemsRest prog w A E h₀ env target body Q s [(I, "tuple_iterator")] [(ax, lo)] (post.map .val) m' n') s₃ := by
      rintro ⟨h', tk', m', n', e1, F1, N1, o1, l1, r1⟩
      exact ⟨h', tk', m', n', e1, F1, N1, o1, ⟨l1, trivial⟩, ih (pre ++ [c]) m' n' (by rw [e]; simp) r1 fun p hp => o1 p hp (I, it) (.head _)⟩
    cases f with
    | ret v => exact p
    | brk => exact p
    | next => exact go p
    | cont => exact go p

end
theorem low_a : Txt.lower (Str.ofString "a") = Str.ofString "a" := by decide +kernel
theorem low_b : Txt.lower (Str.ofString "b") = Str.ofString "b" := by decide +kernel
theorem low_ok {low : Str} (h : low = Str.ofString "a" ∨ low = Str.ofString "b") (p : Params) (prs : List (Str × Str)) : okName p (Txt.lower low) = true ∧ okName p (Txt.lower (Txt.upper low)) = true ∧ low.length = 1 ∧ (Txt.upper low).length = 1 ∧ heldOf prs (Txt.upper low) = heldOf prs low := by
  have e1 : Txt.lower (Txt.upper (Str.ofString "a")) = Txt.lower (Str.ofString "a") := by decide +kernel
  have e2 : Txt.lower (Txt.upper (Str.ofString "b")) = Txt.lower (Str.ofString "b") := by decide +kernel
  rcases h with rfl | rfl
  · refine ⟨by kernel_rfl, by kernel_rfl, by decide +kernel, by decide +kernel, ?_⟩
    unfold heldOf
    rw [e1]
  · refine ⟨by kernel_rfl, by kernel_rfl, by decide +kernel, by decide +kernel, ?_⟩
    unfold heldOf
    rw [e2]
theorem held_strOk {p : Params} {prs : List (Str × Str)} (h : GoodTab p prs) {low x : Str} (hx : x ∈ heldOf prs low) : PyData.strOk x = true := by
  obtain ⟨q, hq, rfl⟩ := List.mem_map.mp hx
  exact (h.2 q (List.mem_filter.mp hq).1).2.2.2
/-- what _law_left answers -/
noncomputable def sortedOf (nts : List Note) (low : Str) : List (List Int) := sortV ((leastV (rowsOf nts) low).map (·.cs))
noncomputable def lowD (nts : List Note) (low : Str) : Dat := .list ((sortedOf nts low).map colD)
noncomputable def lows : List Str := [Str.ofString "a", Str.ofString "b"]
noncomputable def leftD (nts : List Note) : List Dat := lows.map (lowD nts)
theorem left_open {n : Led} {ls : List Value} {nts : List Note} (h : DatAll n ls (leftD nts)) : ∃ (da db : Addr) (ua ub : List Value) (ka kb : Nat), ls = [.ref da, .ref db] ∧ (da, listOf ua.toArray ka) ∈ n ∧ (db, listOf ub.toArray kb) ∈ n ∧ ua.length = (sortedOf nts (Str.ofString "a")).length ∧ ub.length = (sortedOf nts (Str.ofString "b")).length := by
  have h2 : DatAll n ls [lowD nts (Str.ofString "a"), lowD nts (Str.ofString "b")] := h
  cases h2 with
  | cons d1 r =>
    cases r with
    | cons d2 r =>
      cases r
      obtain ⟨da, ua, ka, rfl, hma, qa⟩ := list_open d1
      obtain ⟨db, ub, kb, rfl, hmb, qb⟩ := list_open d2
      have la := qa.length
      have lb := qb.length
      rw [List.length_map] at la lb
      exact ⟨da, db, ua, ub, ka, kb, rfl, hma, hmb, la, lb⟩
theorem first_open {n : Led} {us : List Value} {prs : List (Str × Str)} (h : DatAll n us (prs.map prD)) (hf : ∃ r, prs = (Str.ofString "first", Str.ofString "own") :: r) : ∃ (pa : Addr) (us' : List Value) (t t' : Tok), us = .ref pa :: us' ∧ ∃ k, (pa, ({ cls := .type "tuple", data := .seq [Value.str (Str.ofString "first") t, Value.str (Str.ofString "own") t'].toArray k } : Obj)) ∈ n := by
  obtain ⟨r, rfl⟩ := hf
  rw [List.map_cons] at h
  unfold prD at h
  cases h with
  | cons d1 r =>
    cases d1 with
    | tuple hm r =>
      cases r with
      | cons d1 r =>
        cases r with
        | cons d2 r =>
          cases r
          cases d1
          cases d2
          exact ⟨_, _, _, _, rfl, _, hm⟩
theorem sortedOf_len (nts : List Note) (low : Str) : (sortedOf nts low).length = (leastV (rowsOf nts) low).length := by
  unfold sortedOf
  rw [(sortV_perm _).length_eq, List.length_map]
/-- the loops' states in _law_left -/
noncomputable def left1S (nts : List Note) (lT lR : Addr) (R : Led) (m₁ : Str → Option Value) (pre : List Value) (m : Str → Option Value) (n : Led) : Prop :=
  ∃ (us : List Value) (k1 : Nat) (rs : List Value) (k2 : Nat) (R2 : Led) (u1 u2 u3 u4 : Option Value), n = (lT, listOf us.toArray k1) :: (lR, listOf rs.toArray k2) :: R2 ∧ (∀ q ∈ R, q ∈ R2) ∧ (∀ q ∈ R2, q.1 ≠ lT ∧ q.1 ≠ lR) ∧ DatAll R2 us ((tabOf (nts.take pre.length)).map prD) ∧ DatAll R2 rs ((rowsOf (nts.take pre.length)).map rowD) ∧ m = upd [(Str.ofString "message", u1), (Str.ofString "lead", u2), (Str.ofString "code", u3), (Str.ofString "remark", u4)] m₁
noncomputable def left2S (nts : List Note) (lL : Addr) (R3 : Led) (m₂ : Str → Option Value) (pre : List Value) (m : Str → Option Value) (n : Led) : Prop :=
  ∃ (ls : List Value) (kl : Nat) (R4 : Led) (u1 u2 u3 : Option Value), n = (lL, listOf ls.toArray kl) :: R4 ∧ (∀ q ∈ R3, q ∈ R4) ∧ (∀ q ∈ R4, q.1 ≠ lL) ∧ DatAll R4 ls ((lows.take pre.length).map (lowD nts)) ∧ m = upd [(Str.ofString "low", u1), (Str.ofString "least", u2), (Str.ofString "due", u3)] m₂
noncomputable def left3S (n₀ : Led) (m₃ : Str → Option Value) (_pre : List Value) (m : Str → Option Value) (n : Led) : Prop :=
  ∃ (u1 u2 u3 u4 : Option Value), n = n₀ ∧ m = upd [(Str.ofString "message", u1), (Str.ofString "lead", u2), (Str.ofString "code", u3), (Str.ofString "bare", u4)] m₃
section
variable {prog : Program} {w : World} {A : Around} {E : Value → Shared → Prop} {s : Shared} {env : Env} {h₀ : Heap} {x : Str} {target : Expr} {body : List Stmt} {Q : Flow → Shared → Prop}
theorem iter_tupTQ {ax : Addr} {lo : Obj} {vs : List Value} {k : Nat} {m₀ : Str → Option Value} {news : Led} (S : List Value → (Str → Option Value) → Led → Prop)
    (hh : A.handled = none) (F : Fr h₀ env.locals s.heap m₀) (N : News h₀ env.locals s.heap news) (hm : (ax, lo) ∈ news) (hc : lo.cls = .type "tuple") (hd : lo.data = .seq vs.toArray k) (h0 : S [] m₀ news)
    (turn : ∀ (Pn : (Str → Option Value) → Led → Prop) (Qn : Flow → Shared → Prop) pre v post it I m n h tk, vs = pre ++ v :: post → S pre m n → (∀ p ∈ news, p.1 < I) → (∀ p ∈ n, p.1 ≠ I) → it.cls = .type "tuple_iterator" → Fr h₀ env.locals h m → News h₀ env.locals h ((I, it) :: n) → (∀ m' n', (ax, lo) ∈ n' → S (pre ++ [v]) m' n' → Pn m' n') →
      wpAny (model prog w) A (assign target env v) (fun _ s₂ => wpAny (model prog w) A (execs body env) (UnrPostW h₀ env.locals { s with heap := h, toks := tk } [(I, it)] Pn Qn) E s₂) E { s with heap := h, toks := tk })
    (done : ∀ m n h tk, S vs m n → Fr h₀ env.locals h m → News h₀ env.locals h n → Q .next { s with heap := h, toks := tk }) :
    wpAny (model prog w) A (pyIter (.ref ax)) (fun it s₂ => TurnsAt prog w A h₀ env target body Q E it s₂) E s :=
  iter_tupT S hh F N hm hc hd h0 (fun pre v post it I m n h tk q0 q1 q2 q3 q4 q5 q6 => turn (fun m' n' => (ax, lo) ∈ n' ∧ S (pre ++ [v]) m' n') Q pre v post it I m n h tk q0 q1 q2 q3 q4 q5 q6 (fun _ _ a b => ⟨a, b⟩)) done
end
end
section
local macro_rules | `(tactic| walk_at "eval Name") => `(tactic| (k_here; (with_reducible show wpAny _ _ (eval (PySem.Expr.Name _ _) (envOf _ _ _ _ _)) _ _ _); k_dflt (first | (refine' nameX_L ?F ?v ?_ ?a ?b; (case F => k_asm); (case a | b => rfl); (case v => first | (refine' Mine.look ?h ?e; (case h => with_reducible assumption); (case e => rfl)) | rfl); k_whole) | (refine' nameX_K ?F ?X ?T ?e ?_ ?a ?b; (case F | X | T => k_asm); (case a | b => rfl); (case e => k_is); k_whole) | (refine' nameX_B ?F ?X ?T ?e ?v ?n ?_ ?a ?b; (case F | X | T => k_asm); (case a | b => rfl); (case e => k_is); (case v => boot_fast); (case n => decide); k_whole))))
section
local macro_rules | `(tactic| walk_at "call ref") => `(tactic| (k_here; (fail_if_success (with_reducible show wpAny _ _ (call (Value.ref 307) [Value.ref _]) _ _ _)); refine Mine.halt ?_))
local macro_rules | `(tactic| walk_at "compareOp NotEq ref ref") => `(tactic| (refine Mine.halt ?_))
local macro_rules | `(tactic| walk_at "exec For Name Tuple cons nil") => `(tactic| (k_here; (rename Fr _ _ _ _ => lF'); (with_unfolding_all refine' For_turns lF' ?_; k_whole)))
local macro_rules | `(tactic| walk_at "exec For Tuple Name cons nil") => `(tactic| (k_here; (rename Fr _ _ _ _ => lF'); (with_unfolding_all refine' For_turns lF' ?_; k_whole)))
local macro_rules | `(tactic| walk_at "subscriptTail Name Constant ref int") => `(tactic| (k_here; (with_reducible show wpAny _ _ (subscriptTail _ _ (Value.ref _) (Value.int _ _)) _ _ _); k_dflt (refine' Mine.my_item ?k1 ?k2 ?k3 ?k4 ?_ ?k5; (case k1 => exact News.isList (by k_asm) (by k_mem)); (case k4 => exact rfl); (case k2 | k3 => decide); (case k5 => with_unfolding_all rfl); k_whole)))
local macro_rules | `(tactic| walk_at "subscriptTail Name Call ref str") => `(tactic| (k_here; (with_reducible show wpAny _ _ (subscriptTail _ _ (Value.ref _) (Value.str _ _)) _ _ _); k_dflt (refine kda_item (knd := PySem.strKind _ _) (by k_asm) (by k_mem) (by assumption) (strKind_is _ _ _ _) (by with_reducible assumption) ?_)))
local macro_rules | `(tactic| walk_at "call builtin:sorted") => `(tactic| (refine Mine.halt ?_))
set_option maxHeartbeats 8000000 in
theorem left_s {e : Env0} {news : Led} {l : Addr} {vs : List Value} {k : Nat} {nts : List Note} (hl : (l, listOf vs.toArray k) ∈ news) (hd : DatAll news vs (nts.map noteT)) (OK : LeftOk e.w.params nts) :
    Spec e 200 307 [.ref l] news (fun v n => ∃ (D : Addr) (us : List Value) (k : Nat), v = .ref D ∧ (D, listOf us.toArray k) ∈ n ∧ DatAll n us (leftD nts) ∧ ∀ q ∈ news, q ∈ n) := by
  obtain ⟨w, p, loose, mean, mg, mb⟩ := e
  unfold Spec
  dsimp only
  k_fill
  intro dp un gd cn ns ig ic mo a ccd cl outer A₀ base h₀ L m s Q E B F X N T hd' hu hret
  have hx := OK.n6
  have good := OK.good
  have gt := OK.gt
  k_steps
  unfold Halt
  refine' Mine.Spec.use (init_s ?c1e1 ?c1e2) ?c1B ?c1F ?c1X ?c1N ?c1T ?c1d ?c1u ?_
  case c1B => k_asm
  case c1F => k_asm
  case c1X => k_asm
  case c1N => k_asm
  case c1T => k_asm
  case c1e1 => k_mem
  case c1e2 => k_mem
  case c1d => k_room
  case c1u => k_units
  intro v1 h1 tk1 n1 F1 N1 P1
  obtain ⟨xt, dt, tt, rfl, rfl, lt1, lt2⟩ := P1
  k_steps
  unfold Halt
  rename Fr _ _ _ _ => F0
  rename News _ _ _ _ => N0
  obtain ⟨m₁, em, F1⟩ := Fr.gen F0
  have qt : m₁ (Str.ofString "table") = some (.ref xt) := by rw [em]; rfl
  have qn : m₁ (Str.ofString "notes") = some (.ref l) := by rw [em]; rfl
  obtain ⟨lT, pT, lR, ta, tb, R, qr, hR, f1, f2, N1⟩ : ∃ (lT pT lR : Addr) (ta tb : Tok) (R : Led), m₁ (Str.ofString "rows") = some (.ref lR) ∧ R = (pT, ({ cls := .type "tuple", data := .seq #[.str (Str.ofString "first") ta, .str (Str.ofString "own") tb] } : Obj)) :: (xt, instObj 262 dt) :: (dt, dictOf [⟨PyData.keyHash w.params (Str.ofString "_headers"), .str (Str.ofString "_headers") tt, .ref lT⟩] 1) :: news ∧
      @Ne Nat lT lR ∧ (∀ q ∈ R, q.1 ≠ lT ∧ q.1 ≠ lR) ∧ News _ _ _ ((lT, listOf [Value.ref pT].toArray 0) :: (lR, listOf [].toArray 0) :: R) := by
    refine' ⟨_, _, _, _, _, _, ?h1, rfl, ?h2, ?h3, ?h4⟩
    case h1 => rw [em]; rfl
    case h4 => exact cb_drop N0 (by walk_at "my sub")
    case h2 => walk_at "my ne"
    case h3 =>
      have y1 : @LT.lt Nat _ _ dt := lt2 _ (.head _)
      have y2 : @LT.lt Nat _ _ dt := lt2 _ (.tail _ (.head _))
      refine List.forall_mem_cons.mpr ⟨⟨?g1, ?g2⟩, List.forall_mem_cons.mpr ⟨⟨?g3, ?g4⟩, List.forall_mem_cons.mpr ⟨⟨?g5, ?g6⟩, fun q hq => ⟨?g7, ?g8⟩⟩⟩⟩
      case g7 => exact Nat.ne_of_lt (allLt_mem (by walk_at "my allLt") q hq)
      case g8 => exact Nat.ne_of_lt (allLt_mem (by walk_at "my allLt") q hq)
      all_goals walk_at "my ne"
  clear em F0 N0
  have hx1 : (xt, instObj 262 dt) ∈ R := by rw [hR]; exact .tail _ (.head _)
  have hx2 : (dt, dictOf [⟨PyData.keyHash w.params (Str.ofString "_headers"), .str (Str.ofString "_headers") tt, .ref lT⟩] 1) ∈ R := by rw [hR]; exact .tail _ (.tail _ (.head _))
  have hnR : ∀ q ∈ news, q ∈ R := fun q hq => by rw [hR]; exact .tail _ (.tail _ (.tail _ hq))
  have hp0 : DatAll R [Value.ref pT] ((tabOf []).map prD) := .one (.tuple (by rw [hR]; exact .head _) (.cons (.str _ _) (.cons (.str _ _) .nil)))
  clear hR lt1 lt2
  have hl2 := hnR _ hl
  have ols : nts.length ≤ vs.length := by
    have := hd.length
    rw [List.length_map] at this
    omega
  have olv : vs.length ≤ 6 := by
    have := hd.length
    rw [List.length_map] at this
    omega
  refine iter_listTQ (left1S nts lT lR R m₁) (by rfl) F1 N1 (.tail _ (.tail _ hl2)) rfl rfl ?l0 ?l1 ?l2
  case l0 => exact ⟨_, 0, [], 0, R, m₁ (Str.ofString "message"), m₁ (Str.ofString "lead"), m₁ (Str.ofString "code"), m₁ (Str.ofString "remark"), rfl, fun _ h => h, f2, hp0, .nil, upd_eq ⟨rfl, rfl, rfl, rfl, trivial⟩ (fun _ _ => rfl)⟩
  case l1 =>
    clear F1 N1
    rintro Pn Qn pre v post it I m n h tk e1 ⟨us, k1, rs, k2, R2, u1, u2, u3, u4, rfl, hsub, hoff, hus, hrs, rfl⟩ e3 e4 e5 F8 N8 hPn
    obtain ⟨nt, hn1, hn2, hn3, hn4⟩ := dat_split hd e1
    obtain ⟨av, kv, t1, t2, t3, rfl, hav⟩ := note_open hn4
    have ok := good nt hn1
    have hav2 := hsub _ (hnR _ hav)
    have hI1 := e4 _ (.head _)
    have hI2 := e4 _ (.tail _ (.head _))
    have hI3 : ∀ q ∈ R2, q.1 ≠ I := fun q hq => e4 q (.tail _ (.tail _ hq))
    have h1b := hsub _ hx1
    have h2b := hsub _ hx2
    have w1 := ok.a2
    have hhash : Str.ofString "#" = ⟨#[35]⟩ := by decide +kernel
    rcases ok.a3 with hcx | hcx
    · have ha4 : commentV (nt.ld ++ Str.ofString "x" ++ Str.ofString " \t\n") = Str.ofString "# " ++ nt.ld ++ Str.ofString "x" := by
        have := ok.a4
        rw [if_pos hcx] at this
        unfold remOf at this
        rw [hcx] at this
        exact this
      rw [hcx] at hav2
      have w3 : (nt.ld ++ Str.ofString "x" ++ Str.ofString " \t\n").length < 1000 := by
        rw [app_len, app_len]
        have : (Str.ofString " \t\n").length = 3 := by decide +kernel
        have : (Str.ofString "x").length = 1 := by decide +kernel
        omega
      k_steps
      unfold Halt
      refine' Mine.Spec.use (comment_s _ _ (nt.ld ++ Str.ofString "x" ++ Str.ofString " \t\n") _ w3) ?c2B ?c2F ?c2X ?c2N ?c2T ?c2d ?c2u ?_
      case c2B => k_asm
      case c2F => k_asm
      case c2X => k_asm
      case c2N => k_asm
      case c2T => k_asm
      case c2d => k_room
      case c2u => k_units
      intro v2 h2 tk2 n2 F2 N2 P2
      obtain ⟨rfl, tc, rfl⟩ := P2
      rw [ha4]
      have hb1 : ((Str.ofString "# " ++ nt.ld ++ Str.ofString "x") != (Str.ofString "# " ++ nt.ld ++ Str.ofString "x")) = false := bne_self_eq_false _
      have hb2 : ((Str.ofString "# " ++ nt.ld ++ Str.ofString "x") != Str.ofString "#") = true := by
        refine bne_iff_ne.mpr fun h => ?_
        have := congrArg Str.length h
        rw [app_len, app_len] at this
        have e1 : (Str.ofString "# ").length = 2 := by decide +kernel
        have e2 : (Str.ofString "x").length = 1 := by decide +kernel
        have e3 : (Str.ofString "#").length = 1 := by decide +kernel
        omega
      k_steps
      unfold Halt
      rename News _ _ _ _ => N7
      have gtab := gt pre.length
      have HB : HdAt w.params ((I, it) :: (lR, listOf rs.toArray k2) :: R2) xt dt lT tt us (tabOf (nts.take pre.length)) :=
        ⟨.tail _ (.tail _ h1b), .tail _ (.tail _ h2b), List.forall_mem_cons.mpr ⟨Ne.symm hI1, List.forall_mem_cons.mpr ⟨Ne.symm f1, fun q hq => (hoff q hq).1⟩⟩, hus.mono fun q hq => .tail _ (.tail _ hq), Nat.lt_trans gtab.1 (by decide)⟩
      have N9 : News _ _ _ ((lT, listOf us.toArray k1) :: (I, it) :: (lR, listOf rs.toArray k2) :: R2) := cb_drop N7 (by walk_at "my sub")
      have w5 : (Str.ofString "# " ++ nt.ld ++ Str.ofString "x").length < 100 := by
        rw [app_len, app_len]
        have e1 : (Str.ofString "# ").length = 2 := by decide +kernel
        have e2 : (Str.ofString "x").length = 1 := by decide +kernel
        omega
      have w6 : okVal w.params (Str.ofString "# " ++ nt.ld ++ Str.ofString "x") = true := by
        have := ok.a9
        unfold remOf at this
        rw [hcx] at this
        exact this
      refine' Mine.Spec.use (lay_s (k := k1) HB (msg := nt.msg) (rem := Str.ofString "# " ++ nt.ld ++ Str.ofString "x") ok.a1 w5 (fun q hq => ⟨(gtab.2 q hq).1, (gtab.2 q hq).2.1⟩) (by rw [ok.a5]; exact ok.a6) (by rw [ok.a5]; exact ok.a8) (by rw [ok.a5]; exact ok.a7) (fun q hq => (gtab.2 q hq).2.2.1) w6 gtab.1) ?c3B ?c3F ?c3X ?c3N ?c3T ?c3d ?c3u ?_
      case c3B => k_asm
      case c3F => k_asm
      case c3X => k_asm
      case c3N => exact N9
      case c3T => k_asm
      case c3d => k_room
      case c3u => k_units
      intro v3 h3 tk3 n3 F3 N3 P3
      obtain ⟨us2, k3, new, rfl, rfl, hus2, hnew⟩ := P3
      clear N7 N9 HB
      rw [ok.a5] at hus2
      rename News _ _ _ _ => N10
      have N11 : News _ _ _ ((I, it) :: (lR, listOf rs.toArray k2) :: (lT, listOf us2.toArray k3) :: (new ++ R2)) := cb_drop N10 (by
        refine List.forall_mem_cons.mpr ⟨.tail _ (List.mem_append_right _ (.head _)), List.forall_mem_cons.mpr ⟨.tail _ (List.mem_append_right _ (.tail _ (.head _))), List.forall_mem_cons.mpr ⟨.head _, fun q hq => ?_⟩⟩⟩
        rcases List.mem_append.mp hq with hq | hq
        · exact .tail _ (List.mem_append_left _ hq)
        · exact .tail _ (List.mem_append_right _ (.tail _ (.tail _ hq))))
      clear N10
      have hnI : ∀ q ∈ new ++ R2, q.1 ≠ I := fun q hq => (List.mem_append.mp hq).elim (fun h => (hnew q h).2 _ (.head _)) (hI3 q)
      have hnR3 : ∀ q ∈ new ++ R2, q.1 ≠ lR := fun q hq => (List.mem_append.mp hq).elim (fun h => (hnew q h).2 _ (.tail _ (.head _))) fun h => (hoff q h).2
      have hnT : ∀ q ∈ new ++ R2, q.1 ≠ lT := fun q hq => (List.mem_append.mp hq).elim (fun h => (hnew q h).1) fun h => (hoff q h).1
      have hne2 : @Ne Nat lR I := hI2
      have hne1 : @Ne Nat lT I := hI1
      have hus3 : DatAll (new ++ R2) us2 ((tabOf (nts.take (pre ++ [Value.ref av]).length)).map prD) := by
        rw [hn3, tabOf_snoc]
        unfold tabStep
        rw [if_pos hcx]
        unfold remOf
        rw [hcx]
        refine pr_narrow (fun q hq hc => ?_) hus2
        rcases List.mem_append.mp hq with hq | hq
        · exact List.mem_append_left _ hq
        · cases hq with
          | head => rw [e5] at hc; exact absurd hc (by simp)
          | tail _ hq => cases hq with
            | head => exact absurd hc (by simp)
            | tail _ hq => exact List.mem_append_right _ hq
      k_steps
      unfold Halt
      refine' Mine.Spec.use (bare_s _ _ nt.msg _ ok.a1) ?c4B ?c4F ?c4X ?c4N ?c4T ?c4d ?c4u ?_
      case c4B => k_asm
      case c4F => k_asm
      case c4X => k_asm
      case c4N => k_asm
      case c4T => k_asm
      case c4d => k_room
      case c4u => k_units
      intro v4 h4 tk4 n4 F4 N4 P4
      obtain ⟨rfl, tb2, rfl⟩ := P4
      have w7 := ok.a6
      have lrs : rs.length ≤ 6 := by
        rw [hrs.length, List.length_map]
        exact Nat.le_trans (rowsOf_len _) (by rw [List.length_take]; omega)
      k_steps
      unfold Halt
      refine' Mine.Spec.use (cols_s _ _ nt.ld _ (by omega)) ?c5B ?c5F ?c5X ?c5N ?c5T ?c5d ?c5u ?_
      case c5B => k_asm
      case c5F => k_asm
      case c5X => k_asm
      case c5N => k_asm
      case c5T => k_asm
      case c5d => k_room
      case c5u => k_units
      intro v5 h5 tk5 n5 F5 N5 P5
      obtain ⟨Dc, cv, kc, rfl, rfl, hcv, lDc⟩ := P5
      have y1 : @LT.lt Nat _ lR Dc := lDc _ (.tail _ (.head _))
      have y2 : @LT.lt Nat _ I Dc := lDc _ (.head _)
      have y3 : @LT.lt Nat _ lT Dc := lDc _ (.tail _ (.tail _ (.head _)))
      k_steps
      rename News _ _ _ _ => N12
      rename_i D9 h7 l9 h8 F12
      rw [List.push_toArray] at N12
      obtain ⟨z1, z2, z3, z4, z5⟩ := l9
      have z6 := allLt_mem z5
      refine' endW1 F12 N12 ((lT, listOf us2.toArray k3) :: (lR, listOf (rs ++ [Value.ref D9]).toArray (k2 + 1)) :: (D9, ({ cls := .type "tuple", data := .seq #[Value.str (Txt.lower (bareV nt.msg)) tk4, Value.str nt.ld t2, Value.ref Dc] } : Obj)) :: (Dc, listOf cv.toArray kc) :: (new ++ R2)) ?x1s ?x1o (hPn _ _ (.tail _ (.tail _ (.tail _ (.tail _ (List.mem_append_right _ (hsub _ hl2)))))) ⟨us2, k3, rs ++ [Value.ref D9], k2 + 1, (D9, ({ cls := .type "tuple", data := .seq #[Value.str (Txt.lower (bareV nt.msg)) tk4, Value.str nt.ld t2, Value.ref Dc] } : Obj)) :: (Dc, listOf cv.toArray kc) :: (new ++ R2), _, _, _, _, rfl, ?x1r, ?x1f, ?x1t, ?x1d, ?x1m⟩)
      case x1s => walk_at "my sub"
      case x1o => exact List.forall_mem_cons.mpr ⟨hne1, List.forall_mem_cons.mpr ⟨hne2, List.forall_mem_cons.mpr ⟨Nat.ne_of_gt z2, List.forall_mem_cons.mpr ⟨Nat.ne_of_gt y2, hnI⟩⟩⟩⟩
      case x1r => exact fun q hq => .tail _ (.tail _ (List.mem_append_right _ (hsub q hq)))
      case x1f => exact List.forall_mem_cons.mpr ⟨⟨Nat.ne_of_gt z4, Nat.ne_of_gt z3⟩, List.forall_mem_cons.mpr ⟨⟨Nat.ne_of_gt y3, Nat.ne_of_gt y1⟩, fun q hq => ⟨hnT q hq, hnR3 q hq⟩⟩⟩
      case x1t => exact hus3.mono fun q hq => .tail _ (.tail _ hq)
      case x1m => walk_at "my map"
      case x1d =>
        rw [hn3, rowsOf_snoc, if_pos hcx, List.map_append]
        refine (hrs.mono fun q hq => .tail _ (.tail _ (List.mem_append_right _ hq))).append (.one ?_)
        exact .tuple (.head _) (.cons (.str _ _) (.cons (.str _ _) (.cons (.list (.tail _ (.head _)) (dat_ints hcv)) .nil)))
    · have ha4 : commentV (nt.ld ++ Str.ofString "" ++ Str.ofString " \t\n") = Str.ofString "#" := by
        have := ok.a4
        rw [if_neg (by rw [hcx]; decide +kernel), hcx] at this
        exact this
      rw [hcx] at hav2
      have w3 : (nt.ld ++ Str.ofString "" ++ Str.ofString " \t\n").length < 1000 := by
        rw [app_len, app_len]
        have : (Str.ofString " \t\n").length = 3 := by decide +kernel
        have : (Str.ofString "").length = 0 := by decide +kernel
        omega
      k_steps
      unfold Halt
      refine' Mine.Spec.use (comment_s _ _ (nt.ld ++ Str.ofString "" ++ Str.ofString " \t\n") _ w3) ?c6B ?c6F ?c6X ?c6N ?c6T ?c6d ?c6u ?_
      case c6B => k_asm
      case c6F => k_asm
      case c6X => k_asm
      case c6N => k_asm
      case c6T => k_asm
      case c6d => k_room
      case c6u => k_units
      intro v6 h6 tk6 n6 F6 N6 P6
      obtain ⟨rfl, tc, rfl⟩ := P6
      rw [ha4]
      k_steps
      rename News _ _ _ _ => N12
      refine' endW1 (by k_asm) N12 ((lT, listOf us.toArray k1) :: (lR, listOf rs.toArray k2) :: R2) ?x2s ?x2o (hPn _ _ (.tail _ (.tail _ (hsub _ hl2))) ⟨us, k1, rs, k2, R2, _, _, _, _, rfl, hsub, hoff, ?x2t, ?x2d, ?x2m⟩)
      case x2s => walk_at "my sub"
      case x2o => exact List.forall_mem_cons.mpr ⟨hI1, List.forall_mem_cons.mpr ⟨hI2, hI3⟩⟩
      case x2m => walk_at "my map"
      case x2t =>
        rw [hn3, tabOf_snoc]
        unfold tabStep
        rw [if_neg (by rw [hcx]; decide +kernel)]
        exact hus
      case x2d =>
        rw [hn3, rowsOf_snoc, if_neg (by rw [hcx]; decide +kernel)]
        exact hrs
  case l2 =>
    clear F1 N1
    rintro m n h tk ⟨us, k1, rs, k2, R2, u1, u2, u3, u4, rfl, hsub, hoff, hus, hrs, rfl⟩ F8 N8
    rw [List.take_of_length_le ols] at hus hrs
    have lrs : (rowsOf nts).length ≤ 6 := Nat.le_trans (rowsOf_len _) hx
    have lpr := (gt 6).1
    have lprk := fun q hq => ((gt 6).2 q hq).1
    have gtn := gt 6
    rw [List.take_of_length_le hx] at lpr lprk gtn
    have kq : ∀ ss : List Str, (∀ x ∈ ss, PyData.strOk x = true) → kqdOk 8 (Dat.list (ss.map .str)) = true := fun ss h => by simpa [kqdOk] using h
    k_steps
    unfold Halt
    rename Fr _ _ _ _ => F2
    rename News _ _ _ _ => N2
    rename_i hA pAB hB lq
    obtain ⟨m₂, em, F3⟩ := Fr.gen F2
    have qt2 : m₂ (Str.ofString "table") = some (.ref xt) := by rw [em]; exact qt
    have qn2 : m₂ (Str.ofString "notes") = some (.ref l) := by rw [em]; exact qn
    have qr2 : m₂ (Str.ofString "rows") = some (.ref lR) := by rw [em]; exact qr
    obtain ⟨lL, t5, t6, qL, hoL, N3⟩ : ∃ (lL : Addr) (t5 t6 : Tok), m₂ (Str.ofString "left") = some (.ref lL) ∧ (∀ q ∈ (pAB, ({ cls := .type "tuple", data := .seq [Value.str (Str.ofString "a") t5, Value.str (Str.ofString "b") t6].toArray } : Obj)) :: (lT, listOf us.toArray k1) :: (lR, listOf rs.toArray k2) :: R2, q.1 ≠ lL) ∧ News _ _ _ ((lL, listOf [].toArray 0) :: (pAB, ({ cls := .type "tuple", data := .seq [Value.str (Str.ofString "a") t5, Value.str (Str.ofString "b") t6].toArray } : Obj)) :: (lT, listOf us.toArray k1) :: (lR, listOf rs.toArray k2) :: R2) := by
      refine' ⟨_, _, _, ?h6, ?h7, ?h8⟩
      case h6 => rw [em]; rfl
      case h8 => exact cb_drop N2 (by walk_at "my sub")
      case h7 => k_all
    clear em F2 N2
    have hR2 : ∀ q ∈ R2, q ∈ (pAB, ({ cls := .type "tuple", data := .seq [Value.str (Str.ofString "a") t5, Value.str (Str.ofString "b") t6].toArray } : Obj)) :: (lT, listOf us.toArray k1) :: (lR, listOf rs.toArray k2) :: R2 := fun q hq => .tail _ (.tail _ (.tail _ hq))
    have hmT : (lT, listOf us.toArray k1) ∈ (pAB, ({ cls := .type "tuple", data := .seq [Value.str (Str.ofString "a") t5, Value.str (Str.ofString "b") t6].toArray } : Obj)) :: (lT, listOf us.toArray k1) :: (lR, listOf rs.toArray k2) :: R2 := .tail _ (.head _)
    have hmR : (lR, listOf rs.toArray k2) ∈ (pAB, ({ cls := .type "tuple", data := .seq [Value.str (Str.ofString "a") t5, Value.str (Str.ofString "b") t6].toArray } : Obj)) :: (lT, listOf us.toArray k1) :: (lR, listOf rs.toArray k2) :: R2 := .tail _ (.tail _ (.head _))
    have hmP : (pAB, ({ cls := .type "tuple", data := .seq [Value.str (Str.ofString "a") t5, Value.str (Str.ofString "b") t6].toArray } : Obj)) ∈ (pAB, ({ cls := .type "tuple", data := .seq [Value.str (Str.ofString "a") t5, Value.str (Str.ofString "b") t6].toArray } : Obj)) :: (lT, listOf us.toArray k1) :: (lR, listOf rs.toArray k2) :: R2 := .head _
    generalize hR3 : (pAB, ({ cls := .type "tuple", data := .seq [Value.str (Str.ofString "a") t5, Value.str (Str.ofString "b") t6].toArray } : Obj)) :: (lT, listOf us.toArray k1) :: (lR, listOf rs.toArray k2) :: R2 = R3 at hoL N3 hR2 hmT hmR hmP
    clear hR3
    have hds : DatAll R3 [Value.str (Str.ofString "a") t5, Value.str (Str.ofString "b") t6] (lows.map .str) := .cons (.str _ _) (.cons (.str _ _) .nil)
    refine iter_tupTQ (left2S nts lL R3 m₂) (by rfl) F3 N3 (.tail _ hmP) rfl rfl ?t0 ?t1 ?t2
    case t0 => exact ⟨[], 0, R3, m₂ (Str.ofString "low"), m₂ (Str.ofString "least"), m₂ (Str.ofString "due"), rfl, fun _ h => h, hoL, .nil, upd_eq ⟨rfl, rfl, rfl, trivial⟩ (fun _ _ => rfl)⟩
    case t1 =>
      clear F3 N3
      rintro Pn Qn pre v post it I m n h tk e1 ⟨ls, kl, R4, w1, w2, w3, rfl, hsub4, hoff4, hls, rfl⟩ e3 e4 e5 F8 N8 hPn
      obtain ⟨low, hw1, hw2, hw3, hw4⟩ := dat_split hds e1
      obtain ⟨tw, rfl⟩ := str_of hw4
      have hlow : low = Str.ofString "a" ∨ low = Str.ofString "b" := by simpa [lows] using hw1
      obtain ⟨o1, o2, o3, o4, o5⟩ := low_ok hlow w.params (tabOf nts)
      have hheld := OK.held low hlow
      have hnod := OK.nd low hlow
      have hI1 : @Ne Nat lL I := e4 _ (.head _)
      have hI3 : ∀ q ∈ R4, q.1 ≠ I := fun q hq => e4 q (.tail _ hq)
      have g1 := hsub4 _ hmT
      have g2 := hsub4 _ hmR
      have g3 := hsub4 _ hmP
      have g4 := hsub4 _ (hR2 _ (hsub _ hx1))
      have g5 := hsub4 _ (hR2 _ (hsub _ hx2))
      have g6 : ∀ q ∈ R2, q ∈ R4 := fun q hq => hsub4 _ (hR2 _ hq)
      have lls : ls.length ≤ 2 := by
        rw [hls.length, List.length_map, List.length_take]
        exact Nat.min_le_right _ _
      k_steps
      unfold Halt
      refine' Mine.Spec.use (least_s _ _ lR low _ rs k2 (rowsOf nts) ?c7e1 ?c7e2 hrs (by omega) (fun r hr => by rw [rowsOf_cs hr]; decide)) ?c7B ?c7F ?c7X ?c7N ?c7T ?c7d ?c7u ?_
      case c7B => k_asm
      case c7F => k_asm
      case c7X => k_asm
      case c7N => k_asm
      case c7T => k_asm
      case c7e1 => k_mem
      case c7e2 => exact fun q hq => .tail _ (.tail _ (g6 q hq))
      case c7d => k_room
      case c7u => k_units
      intro v7 h7 tk7 n7 F7 N7 P7
      obtain ⟨D, us5, k5, rfl, rfl, lD, hus5⟩ := P7
      have lus5 : us5.length ≤ 6 := by
        rw [hus5.length, List.length_map]
        exact Nat.le_trans (leastV_len _ _) lrs
      k_steps
      unfold Halt
      have hld : ∀ r ∈ leastV (rowsOf nts) low, r.ld.length < 40 := fun r hr => by
        obtain ⟨n, hn, rfl⟩ := List.mem_map.mp (leastV_sub hr).1
        exact (good n (List.mem_filter.mp hn).1).a2
      rename News _ _ _ _ => N5
      refine comp_UQ (fun pre zs nw => nw = (D, listOf us5.toArray k5) :: (I, it) :: (lL, listOf ls.toArray kl) :: R4 ∧ DatAll R2 zs ((((leastV (rowsOf nts) low).take pre.length).map dueOf).map .str)) ⟨rfl, .nil⟩ ?turn ?done
      case turn =>
        clear N5
        rintro Pc pre v post zs nw I2 oI C oC D2 m₃ h' tk' E' e6 ⟨rfl, hzd⟩ hn hx' F3 N3 off ne hPc
        obtain ⟨r, hr1, hr2, hr3, hr4⟩ := dat_split hus5 e6
        obtain ⟨a2, n2, t3, t4, b2, us2, k2, rfl, ha2, hb2, hus2⟩ := row_open hr4
        replace ha2 := g6 _ ha2
        have hldr := hld r hr1
        k_steps
        refine LCg.CompEnd.intro (by k_asm) (by k_asm) ((D, listOf us5.toArray k5) :: (I, it) :: (lL, listOf ls.toArray kl) :: R4) (by walk_at "my sub") off (Or.inr ⟨_, .head _, rfl, _, rfl⟩) (hPc _ _ ⟨rfl, ?_⟩)
        rw [hr3, List.map_append, List.map_append]
        exact hzd.append (.one (.str _ _))
      case done =>
        clear N5
        rintro zs nw ⟨rfl, hzd⟩ D2 h' tk' F3 N3 off
        rw [List.take_of_length_le (by rw [hus5.length, List.length_map]; exact Nat.le_refl _), ← hheld] at hzd
        obtain ⟨n1, n2, n3, n4⟩ := off
        have n4' := off1_mem n4
        dsimp only at n1 n2 n3
        k_steps
        unfold Halt
        rename News _ _ _ _ => N6
        rename Fr _ _ _ _ => F6
        have HI : ∀ led : Led, (∀ q ∈ R4, q ∈ led) → HdIn w.params led xt dt lT tt us k1 (tabOf nts) := fun led hs => ⟨hs _ g4, hs _ g5, hs _ g1, hus.mono fun q hq => hs _ (g6 q hq), by omega⟩
        refine' Mine.Spec.use (get_s (HI _ ?c8e1) (nm := low) (by omega) (fun q hq => Nat.lt_trans (lprk q hq) (by decide)) o1) ?c8B ?c8F ?c8X ?c8N ?c8T ?c8d ?c8u ?_
        case c8B => k_asm
        case c8F => k_asm
        case c8X => k_asm
        case c8N => k_asm
        case c8T => k_asm
        case c8e1 => walk_at "my sub"
        case c8d => k_room
        case c8u => k_units
        intro v8 h8 tk8 n8 F8 N8 P8
        obtain ⟨E1, es1, rfl, rfl, oE1, hes1⟩ := P8
        have hes1b : DatAll R2 es1 ((heldOf (tabOf nts) low).map .str) := dat_strs hes1
        k_steps
        unfold Halt
        refine dat_ne (by k_asm) (DatIn.list (by k_mem) (dat_strs hes1b)) (DatIn.list (by k_mem) (dat_strs hzd)) (kq _ fun x hx => held_strOk gtn hx) (kq _ fun x hx => held_strOk gtn hx) (by k_units) fun r1 hr1 => ?_
        have hr1f : r1 = false := by
          cases r1 with
          | false => rfl
          | true => exact absurd rfl (hr1.mp rfl)
        subst hr1f
        k_steps
        unfold Halt
        refine' Mine.Spec.use (get_s (HI _ ?c9e1) (nm := (Txt.upper low)) (by omega) (fun q hq => Nat.lt_trans (lprk q hq) (by decide)) o2) ?c9B ?c9F ?c9X ?c9N ?c9T ?c9d ?c9u ?_
        case c9B => k_asm
        case c9F => k_asm
        case c9X => k_asm
        case c9N => k_asm
        case c9T => k_asm
        case c9e1 => walk_at "my sub"
        case c9d => k_room
        case c9u => k_units
        intro v9 h9 tk9 n9 F9 N9 P9
        obtain ⟨E2, es2, rfl, rfl, oE2, hes2⟩ := P9
        have hes2b : DatAll R2 es2 ((heldOf (tabOf nts) (Txt.upper low)).map .str) := dat_strs hes2
        k_steps
        unfold Halt
        refine dat_ne (by k_asm) (DatIn.list (by k_mem) (dat_strs hes2b)) (DatIn.list (by k_mem) (dat_strs hzd)) (kq _ fun x hx => held_strOk gtn hx) (kq _ fun x hx => held_strOk gtn hx) (by k_units) fun r2 hr2 => ?_
        have hr2f : r2 = false := by
          cases r2 with
          | false => rfl
          | true => exact absurd (by rw [o5]) (hr2.mp rfl)
        subst hr2f
        k_steps
        unfold Halt
        rename News _ _ _ _ => N4
        refine comp_UQ (fun pre zs2 nw => nw = (E2, listOf es2.toArray es2.length) :: (E1, listOf es1.toArray es1.length) :: (D2, LCg.lst zs) :: (D, listOf us5.toArray k5) :: (I, it) :: (lL, listOf ls.toArray kl) :: R4 ∧ DatAll R2 zs2 ((((leastV (rowsOf nts) low).take pre.length).map (·.cs)).map colD)) ⟨rfl, .nil⟩ ?turn2 ?done2
        case turn2 =>
          clear N4
          rintro Pc pre v post zs2 nw I2 oI C oC D3 m₃ h' tk' E' e6 ⟨rfl, hzd2⟩ hn hx' F5 N5 off ne hPc
          obtain ⟨r, hr1, hr2, hr3, hr4⟩ := dat_split hus5 e6
          obtain ⟨a2, n2, t3, t4, b2, us2, k2, rfl, ha2, hb2, hus2⟩ := row_open hr4
          replace ha2 := g6 _ ha2
          k_steps
          refine LCg.CompEnd.intro (by k_asm) (by k_asm) ((E2, listOf es2.toArray es2.length) :: (E1, listOf es1.toArray es1.length) :: (D2, LCg.lst zs) :: (D, listOf us5.toArray k5) :: (I, it) :: (lL, listOf ls.toArray kl) :: R4) (by walk_at "my sub") off (Or.inr ⟨_, .tail _ (.tail _ (.tail _ (.head _))), rfl, _, rfl⟩) (hPc _ _ ⟨rfl, ?_⟩)
          rw [hr3, List.map_append, List.map_append]
          exact hzd2.append (.one (.list hb2 (dat_ints hus2)))
        case done2 =>
          clear N4
          rintro zs2 nw ⟨rfl, hzd2⟩ D6 h' tk' F5 N5 off
          rw [List.take_of_length_le (by rw [hus5.length, List.length_map]; exact Nat.le_refl _)] at hzd2
          obtain ⟨p1, p2, p3, p4, p5, p6, p7⟩ := off
          have p7' := off1_mem p7
          dsimp only at p1 p2 p3 p4 p5 p6
          k_steps
          unfold Halt
          refine sorted_cols (z := 6) (by k_asm) (by k_asm) (by k_mem) (fun q hq => by simp only [List.mem_cons]; exact Or.inr (Or.inr (Or.inr (Or.inr (Or.inr (Or.inr (Or.inr (g6 q hq)))))))) hzd2 hnod (fun c hc => by obtain ⟨r, hr, rfl⟩ := List.mem_map.mp hc; exact rowsOf_cs (leastV_sub hr).1) (by rw [List.length_map]; exact Nat.le_trans (leastV_len _ _) lrs) (by k_units) fun D7 us7 c7 h7 F7 N7 l7 d7 => ?_
          have q1 : @LT.lt Nat _ lL D7 := l7 (lL, listOf ls.toArray kl) (by k_mem)
          have q2 : @LT.lt Nat _ I D7 := l7 (I, it) (by k_mem)
          have q3 : ∀ q ∈ R4, q.1 < D7 := fun q hq => l7 q (by simp only [List.mem_cons]; exact Or.inr (Or.inr (Or.inr (Or.inr (Or.inr (Or.inr (Or.inr hq)))))))
          have N8 : News _ _ _ ((lL, listOf ls.toArray kl) :: (I, it) :: (D7, listOf us7.toArray c7) :: R4) := cb_drop N7 (by walk_at "my sub")
          clear N7
          k_steps
          rename News _ _ _ _ => N9
          rw [List.push_toArray] at N9
          refine' endW1 (by k_asm) N9 ((lL, listOf (ls ++ [Value.ref D7]).toArray (kl + 1)) :: (D7, listOf us7.toArray c7) :: R4) ?y1s ?y1o (hPn _ _ (.tail _ (.tail _ g3)) ⟨ls ++ [Value.ref D7], kl + 1, (D7, listOf us7.toArray c7) :: R4, _, _, _, rfl, ?y1r, ?y1f, ?y1d, ?y1m⟩)
          case y1s => walk_at "my sub"
          case y1o => exact List.forall_mem_cons.mpr ⟨hI1, List.forall_mem_cons.mpr ⟨Nat.ne_of_gt q2, hI3⟩⟩
          case y1r => exact fun q hq => .tail _ (hsub4 q hq)
          case y1f => exact List.forall_mem_cons.mpr ⟨Nat.ne_of_gt q1, hoff4⟩
          case y1m => walk_at "my map"
          case y1d =>
            rw [hw3, List.map_append]
            refine (hls.mono fun q hq => .tail _ hq).append (.one ?_)
            exact .list (.head _) (d7.mono fun q hq => .tail _ (g6 q hq))
    case t2 =>
      clear F3 N3
      rintro m n h tk ⟨ls, kl, R4, w1, w2, w3, rfl, hsub4, hoff4, hls, rfl⟩ F8 N8
      replace hls : DatAll R4 ls (leftD nts) := hls
      obtain ⟨da, db, ua, ub, ka, kb, rfl, hma, hmb, lua, lub⟩ := left_open hls
      rw [sortedOf_len] at lua lub
      have lua6 : ua.length ≤ 6 := by rw [lua]; exact Nat.le_trans (leastV_len _ _) lrs
      have lub6 : ub.length ≤ 6 := by rw [lub]; exact Nat.le_trans (leastV_len _ _) lrs
      have g1 := hsub4 _ hmT
      have g4 := hsub4 _ (hR2 _ (hsub _ hx1))
      have g5 := hsub4 _ (hR2 _ (hsub _ hx2))
      have g6 : ∀ q ∈ R2, q ∈ R4 := fun q hq => hsub4 _ (hR2 _ hq)
      have g7 := g6 _ (hsub _ hl2)
      k_steps
      unfold Halt
      rename Fr _ _ _ _ => F2
      rename News _ _ _ _ => N2
      rename Obj.IsDictOf _ _ _ => hdd
      obtain ⟨m₃, em, F3⟩ := Fr.gen F2
      have qt3 : m₃ (Str.ofString "table") = some (.ref xt) := by rw [em]; exact qt2
      have qn3 : m₃ (Str.ofString "notes") = some (.ref l) := by rw [em]; exact qn2
      have qL3 : m₃ (Str.ofString "left") = some (.ref lL) := by rw [em]; exact qL
      obtain ⟨dS, oS, y1, y2, y3, y4, qS3, N3, hdd2⟩ : ∃ (dS : Addr) (oS : Obj) (y1 y2 y3 y4 : Tok), m₃ (Str.ofString "sizes") = some (.ref dS) ∧ News _ _ _ ((dS, oS) :: (lL, listOf [Value.ref da, Value.ref db].toArray kl) :: R4) ∧ Obj.IsDictOf (PySem.strKind Challenge.rw_pe0277_01.row.prog w) oS (strPairs [(.str (Str.ofString "a") y1, .int (ua.length : Nat) y2), (.str (Str.ofString "b") y3, .int (ub.length : Nat) y4)]) := ⟨_, _, _, _, _, _, by rw [em]; rfl, N2, hdd⟩
      clear em F2 N2 hdd
      have HI : ∀ led : Led, (∀ q ∈ R4, q ∈ led) → HdIn w.params led xt dt lT tt us k1 (tabOf nts) := fun led hs => ⟨hs _ g4, hs _ g5, hs _ g1, hus.mono fun q hq => hs _ (g6 q hq), by omega⟩
      refine iter_listTQ (left3S ((dS, oS) :: (lL, listOf [Value.ref da, Value.ref db].toArray kl) :: R4) m₃) (by rfl) F3 N3 (.tail _ (.tail _ g7)) rfl rfl ?v0 ?v1 ?v2
      case v0 => exact ⟨m₃ (Str.ofString "message"), m₃ (Str.ofString "lead"), m₃ (Str.ofString "code"), m₃ (Str.ofString "bare"), rfl, upd_eq ⟨rfl, rfl, rfl, rfl, trivial⟩ (fun _ _ => rfl)⟩
      case v1 =>
        clear F3 N3
        rintro Pn Qn pre v post it I m n h tk e1 ⟨u1, u2, u3, u4, rfl, rfl⟩ e3 e4 e5 F8 N8 hPn
        obtain ⟨nt, hn1, hn2, hn3, hn4⟩ := dat_split hd e1
        obtain ⟨av, kv, t1, t2, t3, rfl, hav⟩ := note_open hn4
        have ok := good nt hn1
        have hav2 := g6 _ (hsub _ (hnR _ hav))
        have hI3 : ∀ q ∈ (dS, oS) :: (lL, listOf [Value.ref da, Value.ref db].toArray kl) :: R4, q.1 ≠ I := e4
        have w1 := ok.a1
        have w2 := ok.a6
        have w3 := ok.a11
        obtain ⟨z, tz, hz1, hz2⟩ : ∃ (z : Int) (tz : Tok), valueAt (strPairs [(.str (Str.ofString "a") y1, .int (ua.length : Nat) y2), (.str (Str.ofString "b") y3, .int (ub.length : Nat) y4)]) (Txt.lower (bareV nt.msg)) = some (.int z tz) ∧ ((heldOf (tabOf nts) (Txt.swapcase (bareV nt.msg))).length : Int) = z := by
          have e1 : heldOf (tabOf nts) (Txt.swapcase (bareV nt.msg)) = heldOf (tabOf nts) (Txt.lower (bareV nt.msg)) := by
            unfold heldOf
            rw [ok.a13]
            rcases ok.a12 with h | h
            · rw [h, low_a]
            · rw [h, low_b]
          rw [e1, OK.held _ ok.a12, List.length_map]
          rcases ok.a12 with h | h
          · rw [h, ← lua]
            exact ⟨_, _, rfl, rfl⟩
          · rw [h, ← lub]
            exact ⟨_, _, rfl, rfl⟩
        k_steps
        unfold Halt
        refine' Mine.Spec.use (bare_s _ _ nt.msg _ ok.a1) ?c10B ?c10F ?c10X ?c10N ?c10T ?c10d ?c10u ?_
        case c10B => k_asm
        case c10F => k_asm
        case c10X => k_asm
        case c10N => k_asm
        case c10T => k_asm
        case c10d => k_room
        case c10u => k_units
        intro v10 h10 tk10 n10 F10 N10 P10
        obtain ⟨rfl, tb2, rfl⟩ := P10
        have hb1 : (bareV nt.msg != bareV nt.msg) = false := bne_self_eq_false _
        k_steps
        unfold Halt
        refine' Mine.Spec.use (strip_s _ _ nt.msg _ (by omega)) ?c11B ?c11F ?c11X ?c11N ?c11T ?c11d ?c11u ?_
        case c11B => k_asm
        case c11F => k_asm
        case c11X => k_asm
        case c11N => k_asm
        case c11T => k_asm
        case c11d => k_room
        case c11u => k_units
        intro v11 h11 tk11 n11 F11 N11 P11
        obtain ⟨rfl, ts2, rfl⟩ := P11
        rw [ok.a5]
        k_steps
        unfold Halt
        refine' Mine.Spec.use (get_s (HI _ ?c12e1) (nm := Txt.swapcase (bareV nt.msg)) (by omega) (fun q hq => Nat.lt_trans (lprk q hq) (by decide)) ok.a10) ?c12B ?c12F ?c12X ?c12N ?c12T ?c12d ?c12u ?_
        case c12B => k_asm
        case c12F => k_asm
        case c12X => k_asm
        case c12N => k_asm
        case c12T => k_asm
        case c12e1 => walk_at "my sub"
        case c12d => k_room
        case c12u => k_units
        intro v12 h12 tk12 n12 F12 N12 P12
        obtain ⟨E3, es3, rfl, rfl, oE3, hes3⟩ := P12
        have les3 : es3.length = (heldOf (tabOf nts) (Txt.swapcase (bareV nt.msg))).length := by
          have := hes3.length
          rw [List.length_map] at this
          exact this
        have hb3 : ((es3.length : Int) != z) = false := by
          rw [les3, hz2]
          exact bne_self_eq_false _
        have les4 : es3.length < 1000 := by
          rw [les3]
          unfold heldOf
          rw [List.length_map]
          exact Nat.lt_of_le_of_lt (List.length_filter_le _ _) (by omega)
        k_steps
        rename News _ _ _ _ => N12
        refine' endW1 (by k_asm) N12 ((dS, oS) :: (lL, listOf [Value.ref da, Value.ref db].toArray kl) :: R4) ?w1s hI3 (hPn _ _ (.tail _ (.tail _ g7)) ⟨_, _, _, _, rfl, ?w1m⟩)
        case w1s => walk_at "my sub"
        case w1m => walk_at "my map"
      case v2 =>
        clear F3 N3
        obtain ⟨pa, us', t7, t8, rfl, k9, hpa⟩ := first_open hus OK.first
        replace hpa := g6 _ hpa
        rintro m n h tk ⟨u1, u2, u3, u4, rfl, rfl⟩ F8 N8
        k_steps
        unfold Halt
        refine' Mine.Spec.use (len_s (HI _ ?c13e1)) ?c13B ?c13F ?c13X ?c13N ?c13T ?c13d ?c13u ?_
        case c13B => k_asm
        case c13F => k_asm
        case c13X => k_asm
        case c13N => k_asm
        case c13T => k_asm
        case c13e1 => walk_at "my sub"
        case c13d => k_room
        case c13u => k_units
        intro v13 h13 tk13 n13 F13 N13 P13
        obtain ⟨rfl, tL, rfl⟩ := P13
        dsimp only [W.LenBack]
        refine ⟨⟨by omega, by omega⟩, ?_⟩
        have hb5 : (((tabOf nts).length : Int) != 1 + (ua.length : Int) + (ub.length : Int)) = false := by
          rw [OK.len, lua, lub]
          have e1 : ((1 + (leastV (rowsOf nts) (Str.ofString "a")).length + (leastV (rowsOf nts) (Str.ofString "b")).length : Nat) : Int) = 1 + ((leastV (rowsOf nts) (Str.ofString "a")).length : Int) + ((leastV (rowsOf nts) (Str.ofString "b")).length : Int) := by omega
          rw [e1]
          exact bne_self_eq_false _
        k_steps
        unfold Halt
        refine' Mine.Spec.use (items_s (HI _ ?c14e1)) ?c14B ?c14F ?c14X ?c14N ?c14T ?c14d ?c14u ?_
        case c14B => k_asm
        case c14F => k_asm
        case c14X => k_asm
        case c14N => k_asm
        case c14T => k_asm
        case c14e1 => walk_at "my sub"
        case c14d => k_room
        case c14u => k_units
        intro v14 h14 tk14 n14 F14 N14 P14
        obtain ⟨E4, rfl, rfl, oE4⟩ := P14
        k_steps
        unfold Halt
        refine dat_ne (by k_asm) (DatIn.tuple (by k_mem) (.cons (.str _ _) (.cons (.str _ _) .nil))) (DatIn.tuple (by k_mem) (.cons (.str _ _) (.cons (.str _ _) .nil))) (by decide +kernel) (by decide +kernel) (by k_units) fun r3 hr3 => ?_
        have hr3f : r3 = false := by
          cases r3 with
          | false => rfl
          | true => exact absurd rfl (hr3.mp rfl)
        subst hr3f
        k_steps
        rename News h₀ L _ _ => N15
        refine' hret _ _ _ ((lL, listOf [Value.ref da, Value.ref db].toArray kl) :: R4) ?zF ?zN ⟨lL, _, kl, rfl, .head _, hls.mono (fun q hq => .tail _ hq), fun q hq => .tail _ (g6 _ (hsub _ (hnR _ hq)))⟩
        case zF => k_asm
        case zN => exact cb_drop N15 (by walk_at "my sub")
end
section
theorem aboveV_iff {xs ys : List Int} (hx : xs.length = 6) (hy : ys.length = 6) : aboveV xs ys = true ↔ ∀ i, i < 6 → xs.getD i 0 < ys.getD i 0 := by
  unfold aboveV geAt
  rw [hx, hy, List.all_eq_true]
  constructor
  · intro h i hi
    have := h i (List.mem_range.mpr (by simpa using hi))
    simp only [Bool.not_eq_true', decide_eq_false_iff_not] at this
    omega
  · intro h i hi
    have := h i (by simpa using List.mem_range.mp hi)
    simp only [Bool.not_eq_true', decide_eq_false_iff_not]
    omega
noncomputable def GoodRow (r : Row) : Prop := r.cs.length = 6 ∧ 0 ≤ r.cs.getD 0 0
noncomputable def lt' (r s : Row) : Bool := aboveV r.cs s.cs
theorem lt_trans' {a b c : Row} (ha : GoodRow a) (hb : GoodRow b) (hc : GoodRow c) (h1 : lt' a b = true) (h2 : lt' b c = true) : lt' a c = true := by
  unfold lt' at *
  rw [aboveV_iff ha.1 hb.1] at h1
  rw [aboveV_iff hb.1 hc.1] at h2
  rw [aboveV_iff ha.1 hc.1]
  exact fun i hi => Int.lt_trans (h1 i hi) (h2 i hi)
theorem lt_irr {a : Row} (ha : GoodRow a) : lt' a a = false := by
  rw [← Bool.not_eq_true]
  unfold lt'
  rw [aboveV_iff ha.1 ha.1]
  intro h
  exact Int.lt_irrefl _ (h 0 (by decide))
theorem lt_meas {a b : Row} (ha : GoodRow a) (hb : GoodRow b) (h : lt' a b = true) : (a.cs.getD 0 0).toNat < (b.cs.getD 0 0).toNat := by
  unfold lt' at h
  rw [aboveV_iff ha.1 hb.1] at h
  have := h 0 (by decide)
  have := ha.2
  omega
theorem lt_congL {a b c : Row} (e : a.cs = b.cs) : lt' a c = lt' b c := by unfold lt'; rw [e]
theorem lt_congR {a b c : Row} (e : a.cs = b.cs) : lt' c a = lt' c b := by unfold lt'; rw [e]
theorem isLeast_iff {same : List Row} {i : Nat} : isLeast same i = true ↔ (∀ r ∈ same, lt' r (same.getD i Row.dflt) = false) ∧ (same.getD i Row.dflt).cs ∉ (same.take i).map (·.cs) := by
  unfold isLeast lt'
  rw [Bool.and_eq_true, List.all_eq_true]
  simp
theorem leastUp_mem {same : List Row} {r : Row} : ∀ n, r ∈ leastUp same n ↔ ∃ i, i < n ∧ isLeast same i = true ∧ r = same.getD i Row.dflt
  | 0 => by simp [leastUp]
  | n + 1 => by
    have ih := leastUp_mem (same := same) (r := r) n
    unfold leastUp
    split
    · rename_i h
      rw [List.mem_append, ih, List.mem_singleton]
      constructor
      · rintro (⟨i, a, b, c⟩ | e)
        · exact ⟨i, by omega, b, c⟩
        · exact ⟨n, by omega, h, e⟩
      · rintro ⟨i, a, b, c⟩
        by_cases e : i = n
        · subst e; exact Or.inr c
        · exact Or.inl ⟨i, by omega, b, c⟩
    · rename_i h
      rw [ih]
      constructor
      · rintro ⟨i, a, b, c⟩; exact ⟨i, by omega, b, c⟩
      · rintro ⟨i, a, b, c⟩
        by_cases e : i = n
        · subst e; exact absurd b h
        · exact ⟨i, by omega, b, c⟩
theorem getD_mem {same : List Row} {i : Nat} (h : i < same.length) : same.getD i Row.dflt ∈ same := by
  rw [List.getD_eq_getElem?_getD, List.getElem?_eq_getElem h]
  exact List.getElem_mem _
theorem first_at {cs : List Int} : ∀ {same : List Row}, cs ∈ same.map (·.cs) → ∃ i, i < same.length ∧ (same.getD i Row.dflt).cs = cs ∧ cs ∉ (same.take i).map (·.cs)
  | [], h => by cases h
  | r :: rs, h => by
    by_cases e : r.cs = cs
    · exact ⟨0, by simp, by simpa using e, by simp⟩
    · have h2 : cs ∈ rs.map (·.cs) := by
        rcases List.mem_cons.mp h with h | h
        · exact absurd h.symm e
        · exact h
      obtain ⟨i, a, b, c⟩ := first_at h2
      refine ⟨i + 1, by simpa using a, by simpa using b, ?_⟩
      simp only [List.take_succ_cons, List.map_cons, List.mem_cons, not_or]
      exact ⟨fun h => e h.symm, c⟩
theorem least_of_min {same : List Row} {v : Row} (hv : v ∈ same) (hm : ∀ r ∈ same, lt' r v = false) : ∃ u ∈ leastUp same same.length, u.cs = v.cs := by
  obtain ⟨i, a, b, c⟩ := first_at (List.mem_map.mpr ⟨v, hv, rfl⟩)
  refine ⟨same.getD i Row.dflt, (leastUp_mem _).mpr ⟨i, a, isLeast_iff.mpr ⟨fun r hr => ?_, by rw [b]; exact c⟩, rfl⟩, b⟩
  rw [lt_congR b]
  exact hm r hr
theorem least_min {same : List Row} {u : Row} (h : u ∈ leastUp same same.length) : u ∈ same ∧ ∀ r ∈ same, lt' r u = false := by
  obtain ⟨i, a, b, rfl⟩ := (leastUp_mem _).mp h
  exact ⟨getD_mem a, (isLeast_iff.mp b).1⟩
theorem cover {same : List Row} (hg : ∀ r ∈ same, GoodRow r) : ∀ (k : Nat) (v : Row), v ∈ same → (v.cs.getD 0 0).toNat < k → ∃ u ∈ leastUp same same.length, lt' u v = true ∨ u.cs = v.cs
  | 0, v, _, h => absurd h (by omega)
  | k + 1, v, hv, h => by
    by_cases hw : ∃ w ∈ same, lt' w v = true
    · obtain ⟨w, hw1, hw2⟩ := hw
      have := lt_meas (hg _ hw1) (hg _ hv) hw2
      obtain ⟨u, hu, e⟩ := cover hg k w hw1 (by omega)
      refine ⟨u, hu, Or.inl ?_⟩
      rcases e with e | e
      · exact lt_trans' (hg _ (least_min hu).1) (hg _ hw1) (hg _ hv) e hw2
      · rw [lt_congL e]; exact hw2
    · obtain ⟨u, hu, e⟩ := least_of_min hv fun r hr => by
        rw [← Bool.not_eq_true]
        exact fun h => hw ⟨r, hr, h⟩
      exact ⟨u, hu, Or.inr e⟩
noncomputable def ins (h : List Row) (r : Row) : List Row := if (h.any fun v => lt' v r || decide (v.cs = r.cs)) = true then h else h.filter (fun v => !lt' r v) ++ [r]
theorem isLeast_snoc {same : List Row} {r : Row} {i : Nat} (hi : i < same.length) : isLeast (same ++ [r]) i = (isLeast same i && !lt' r (same.getD i Row.dflt)) := by
  have e1 : (same ++ [r]).getD i Row.dflt = same.getD i Row.dflt := by
    rw [List.getD_eq_getElem?_getD, List.getElem?_append_left hi, ← List.getD_eq_getElem?_getD]
  have e2 : (same ++ [r]).take i = same.take i := by
    rw [List.take_append_of_le_length (by omega)]
  rw [Bool.eq_iff_iff, Bool.and_eq_true, isLeast_iff, isLeast_iff, e1, e2]
  constructor
  · rintro ⟨a, b⟩
    exact ⟨⟨fun s hs => a s (List.mem_append_left _ hs), b⟩, by rw [a r (List.mem_append_right _ (.head _))]; rfl⟩
  · rintro ⟨⟨a, b⟩, c⟩
    refine ⟨fun s hs => ?_, b⟩
    rcases List.mem_append.mp hs with hs | hs
    · exact a s hs
    · rw [List.mem_singleton.mp hs]
      simpa using c
theorem leastUp_snoc {same : List Row} {r : Row} : ∀ i, i ≤ same.length → leastUp (same ++ [r]) i = (leastUp same i).filter (fun v => !lt' r v)
  | 0, _ => rfl
  | i + 1, hi => by
    have ih := leastUp_snoc (same := same) (r := r) i (by omega)
    have e1 : (same ++ [r]).getD i Row.dflt = same.getD i Row.dflt := by
      rw [List.getD_eq_getElem?_getD, List.getElem?_append_left (by omega), ← List.getD_eq_getElem?_getD]
    unfold leastUp
    rw [isLeast_snoc (by omega), ih, e1]
    cases h1 : isLeast same i with
    | false => rfl
    | true =>
      show (if (true && !lt' r (same.getD i Row.dflt)) = true then _ else _) = List.filter _ (leastUp same i ++ [same.getD i Row.dflt])
      rw [List.filter_append]
      cases h2 : lt' r (same.getD i Row.dflt) with
      | false => rw [List.filter_cons_of_pos (by rw [h2]; rfl)]; rfl
      | true => rw [List.filter_cons_of_neg (by rw [h2]; simp)]; simp
theorem least_snoc {same : List Row} {r : Row} (hg : ∀ v ∈ same, GoodRow v) (hr : GoodRow r) : leastUp (same ++ [r]) (same ++ [r]).length = ins (leastUp same same.length) r := by
  have e1 : (same ++ [r]).getD same.length Row.dflt = r := by
    rw [List.getD_eq_getElem?_getD, List.getElem?_append_right (Nat.le_refl _), Nat.sub_self]; rfl
  have e2 : (same ++ [r]).take same.length = same := by
    rw [List.take_append_of_le_length (Nat.le_refl _), List.take_length]
  have e3 : (same ++ [r]).length = same.length + 1 := by simp
  rw [e3]
  show (if isLeast (same ++ [r]) same.length = true then leastUp (same ++ [r]) same.length ++ [(same ++ [r]).getD same.length Row.dflt] else leastUp (same ++ [r]) same.length) = _
  unfold ins
  rw [leastUp_snoc _ (Nat.le_refl _), e1]
  split
  · rename_i hl
    obtain ⟨q1, q2⟩ := isLeast_iff.mp hl
    rw [e1] at q1 q2
    rw [e2] at q2
    rw [if_neg]
    rw [List.any_eq_true]
    rintro ⟨v, hv, hv2⟩
    have hvs := (least_min hv).1
    rw [Bool.or_eq_true, decide_eq_true_eq] at hv2
    rcases hv2 with h | h
    · rw [q1 v (List.mem_append_left _ hvs)] at h; cases h
    · exact q2 (List.mem_map.mpr ⟨v, hvs, h⟩)
  · rename_i hl
    have hany : ∃ v ∈ leastUp same same.length, lt' v r = true ∨ v.cs = r.cs := by
      by_cases h : ∃ v ∈ same, lt' v r = true
      · obtain ⟨v, hv, h⟩ := h
        obtain ⟨u, hu, e⟩ := cover hg _ v hv (Nat.lt_succ_self _)
        refine ⟨u, hu, Or.inl ?_⟩
        rcases e with e | e
        · exact lt_trans' (hg _ (least_min hu).1) (hg _ hv) hr e h
        · rw [lt_congL e]; exact h
      · by_cases h2 : r.cs ∈ same.map (·.cs)
        · obtain ⟨v, hv, e⟩ := List.mem_map.mp h2
          obtain ⟨u, hu, e2⟩ := cover hg _ v hv (Nat.lt_succ_self _)
          refine ⟨u, hu, ?_⟩
          rcases e2 with e2 | e2
          · rw [lt_congR e] at e2; exact Or.inl e2
          · exact Or.inr (e2.trans e)
        · refine absurd (isLeast_iff.mpr ⟨fun s hs => ?_, ?_⟩) hl
          · rw [e1]
            rcases List.mem_append.mp hs with hs | hs
            · rw [← Bool.not_eq_true]
              exact fun q => h ⟨s, hs, q⟩
            · rw [List.mem_singleton.mp hs]; exact lt_irr hr
          · rw [e1, e2]; exact h2
    obtain ⟨v, hv, hv2⟩ := hany
    rw [if_pos]
    · rw [List.filter_eq_self]
      intro u hu
      rw [Bool.not_eq_true', ← Bool.not_eq_true]
      intro hru
      obtain ⟨hus, hum⟩ := least_min hu
      have hvs := (least_min hv).1
      have : lt' v u = true := by
        rcases hv2 with h | h
        · exact lt_trans' (hg _ hvs) hr (hg _ hus) h hru
        · rw [lt_congL h]; exact hru
      rw [hum v hvs] at this
      cases this
    · rw [List.any_eq_true]
      refine ⟨v, hv, ?_⟩
      rw [Bool.or_eq_true, decide_eq_true_eq]
      exact hv2
theorem leastV_snoc {rows : List Row} {r : Row} {low : Str} (hg : ∀ v ∈ rows, GoodRow v) (hr : GoodRow r) : leastV (rows ++ [r]) low = if (r.nm == low) = true then ins (leastV rows low) r else leastV rows low := by
  unfold leastV sameOf
  rw [List.filter_append]
  split
  · rename_i h
    rw [List.filter_cons_of_pos (p := fun r : Row => r.nm == low) h, List.filter_nil]
    exact least_snoc (fun v hv => hg v (List.mem_filter.mp hv).1) hr
  · rename_i h
    rw [List.filter_cons_of_neg (p := fun r : Row => r.nm == low) h, List.filter_nil, List.append_nil]
theorem nodup_upto {same : List Row} : ∀ n, n ≤ same.length → ((leastUp same n).map (·.cs)).Nodup
  | 0, _ => List.nodup_nil
  | n + 1, h => by
    have ih := nodup_upto (same := same) n (by omega)
    unfold leastUp
    split
    · rename_i hl
      rw [List.map_append, List.nodup_append]
      refine ⟨ih, by simp, ?_⟩
      intro a ha b hb e
      rw [List.map_cons, List.map_nil, List.mem_singleton] at hb
      obtain ⟨u, hu, e2⟩ := List.mem_map.mp ha
      obtain ⟨i, hi, _, e3⟩ := (leastUp_mem _).mp hu
      refine (isLeast_iff.mp hl).2 (List.mem_map.mpr ⟨u, ?_, e2.trans (e.trans hb)⟩)
      rw [e3, List.getD_eq_getElem?_getD, List.getElem?_eq_getElem (by omega), Option.getD_some]
      exact List.mem_take_iff_getElem.mpr ⟨i, by omega, rfl⟩
    · exact ih
theorem leastV_nodup (rows : List Row) (low : Str) : ((leastV rows low).map (·.cs)).Nodup := nodup_upto _ (Nat.le_refl _)
theorem leastV_perm {rows rows' : List Row} {low : Str} (hp : rows.Perm rows') : ((leastV rows low).map (·.cs)).Perm ((leastV rows' low).map (·.cs)) := by
  have sub : ∀ {r1 r2 : List Row}, r1.Perm r2 → ∀ cs ∈ (leastV r1 low).map (·.cs), cs ∈ (leastV r2 low).map (·.cs) := by
    intro r1 r2 hp cs hcs
    obtain ⟨u, hu, rfl⟩ := List.mem_map.mp hcs
    obtain ⟨a, b⟩ := least_min hu
    have hp2 : (sameOf r1 low).Perm (sameOf r2 low) := hp.filter _
    obtain ⟨v, hv, e⟩ := least_of_min (hp2.mem_iff.mp a) fun r hr => b r (hp2.mem_iff.mpr hr)
    exact List.mem_map.mpr ⟨v, hv, e⟩
  refine (List.perm_ext_iff_of_nodup (leastV_nodup _ _) (leastV_nodup _ _)).mpr fun cs => ⟨sub hp cs, sub hp.symm cs⟩
theorem sortedOf_perm {a b : List Note} {low : Str} (h : a.Perm b) : sortedOf a low = sortedOf b low := by
  unfold sortedOf
  refine sortV_eq (leastV_perm ?_)
  unfold rowsOf
  exact (h.filter _).map _
end
section
noncomputable def msgN (i : Nat) : Str := msgOf (i : Int)
noncomputable def leadN (t : Nat) : Str := leadOf ((64 * t : Nat) : Int)
noncomputable def dueN (t : Nat) : Str := Str.ofString "# " ++ leadN t ++ Str.ofString "x"
noncomputable def names4 : List Str := [Str.ofString "a", Str.ofString "A", Str.ofString "b", Str.ofString "B"]
noncomputable def tabW : List WsSt := [⟨[], 0, 0, 0⟩, ⟨[], 1, 1, 0⟩, ⟨[], 2, 2, 0⟩, ⟨[1], 0, 1, 1⟩, ⟨[0, 1], 0, 2, 1⟩, ⟨[0, 0, 1], 0, 3, 1⟩, ⟨[], 3, 3, 0⟩, ⟨[1], 1, 2, 1⟩, ⟨[0, 1], 1, 3, 1⟩, ⟨[0, 0, 1], 1, 4, 1⟩, ⟨[], 4, 4, 0⟩, ⟨[1], 2, 3, 1⟩, ⟨[0, 1], 2, 4, 1⟩, ⟨[0, 0, 1], 2, 5, 1⟩, ⟨[2], 0, 2, 2⟩, ⟨[1, 1], 0, 3, 2⟩, ⟨[1, 0, 1], 0, 4, 2⟩, ⟨[0, 0, 0, 1], 0, 4, 1⟩, ⟨[0, 2], 0, 4, 2⟩, ⟨[0, 1, 1], 0, 5, 2⟩, ⟨[0, 0, 0, 0, 1], 0, 5, 1⟩, ⟨[0, 0, 2], 0, 6, 2⟩, ⟨[], 5, 5, 0⟩, ⟨[1], 3, 4, 1⟩, ⟨[0, 1], 3, 5, 1⟩, ⟨[0, 0, 1], 3, 6, 1⟩, ⟨[2], 1, 3, 2⟩, ⟨[1, 1], 1, 4, 2⟩, ⟨[1, 0, 1], 1, 5, 2⟩, ⟨[0, 0, 0, 1], 1, 5, 1⟩, ⟨[0, 2], 1, 5, 2⟩, ⟨[0, 1, 1], 1, 6, 2⟩, ⟨[0, 0, 0, 0, 1], 1, 6, 1⟩, ⟨[0, 0, 2], 1, 7, 2⟩]
noncomputable def tabC : List (List Int) := [[0, 0, 0, 0, 0, 0], [1, 1, 1, 1, 1, 1], [2, 2, 2, 2, 2, 2], [1, 2, 3, 4, 5, 6], [2, 2, 3, 4, 5, 6], [3, 4, 3, 4, 5, 6], [3, 3, 3, 3, 3, 3], [2, 3, 4, 5, 6, 7], [3, 3, 4, 5, 6, 7], [4, 5, 4, 5, 6, 7], [4, 4, 4, 4, 4, 4], [3, 4, 5, 6, 7, 8], [4, 4, 5, 6, 7, 8], [5, 6, 5, 6, 7, 8], [2, 4, 6, 8, 10, 12], [3, 4, 6, 8, 10, 12], [4, 6, 6, 8, 10, 12], [4, 4, 6, 4, 5, 6], [4, 4, 6, 8, 10, 12], [5, 6, 6, 8, 10, 12], [5, 6, 6, 8, 5, 6], [6, 8, 6, 8, 10, 12], [5, 5, 5, 5, 5, 5], [4, 5, 6, 7, 8, 9], [5, 5, 6, 7, 8, 9], [6, 7, 6, 7, 8, 9], [3, 5, 7, 9, 11, 13], [4, 5, 7, 9, 11, 13], [5, 7, 7, 9, 11, 13], [5, 5, 7, 5, 6, 7], [5, 5, 7, 9, 11, 13], [6, 7, 7, 9, 11, 13], [6, 7, 7, 9, 6, 7], [7, 9, 7, 9, 11, 13]]
noncomputable def clsL : List Nat := [0, 1, 2, 3, 4, 5, 1, 2, 6, 7, 8, 9, 2, 6, 10, 11, 12, 13, 3, 4, 5, 14, 15, 16, 4, 5, 17, 15, 18, 19, 5, 17, 20, 16, 19, 21, 1, 2, 6, 7, 8, 9, 2, 6, 10, 11, 12, 13, 6, 10, 22, 23, 24, 25, 7, 8, 9, 26, 27, 28, 8, 9, 29, 27, 30, 31, 9, 29, 32, 28, 31, 33]
noncomputable def wsEq (a b : WsSt) : Bool := decide (a.count = b.count ∧ a.b = b.b ∧ a.n = b.n ∧ a.nt = b.nt)
theorem wsEq_eq {a b : WsSt} (h : wsEq a b = true) : a = b := by
  obtain ⟨a1, a2, a3, a4⟩ := a
  obtain ⟨b1, b2, b3, b4⟩ := b
  have := of_decide_eq_true h
  simp only at this
  obtain ⟨rfl, rfl, rfl, rfl⟩ := this
  rfl
noncomputable def clsW (t : Nat) : WsSt := tabW.getD (clsL.getD t 0) ⟨[], 0, 0, 0⟩
noncomputable def clsC (t : Nat) : List Int := tabC.getD (clsL.getD t 0) []
theorem f_strip : (List.range 64).all (fun i => decide (stripV (msgN i) = bareV (msgN i))) = true := by decide +kernel
theorem f_names : (List.range 64).all (fun i => decide (bareV (msgN i) ∈ names4)) = true := by decide +kernel
theorem f_mlen : (List.range 64).all (fun i => decide ((msgN i).length < 100)) = true := by decide +kernel
theorem f_llen : (List.range 72).all (fun t => decide ((leadN t).length < 40)) = true := by decide +kernel
theorem f_dlen : (List.range 72).all (fun t => decide ((dueN t).length < 100)) = true := by decide +kernel
theorem f_comX : (List.range 72).all (fun t => decide (commentV (leadN t ++ Str.ofString "x" ++ Str.ofString " \t\n") = dueN t)) = true := by decide +kernel
theorem f_com0 : (List.range 72).all (fun t => decide (commentV (leadN t ++ Str.ofString "" ++ Str.ofString " \t\n") = Str.ofString "#")) = true := by decide +kernel
theorem f_strOk : (List.range 72).all (fun t => PyData.strOk (dueN t)) = true := by decide +kernel
theorem f_okVal (p : Params) : (List.range 72).all (fun t => okVal p (dueN t)) = true := by kernel_rfl
theorem f_okVal0 (p : Params) : (List.range 72).all (fun t => okVal p (Str.ofString "# " ++ leadN t ++ Str.ofString "")) = true := by kernel_rfl
theorem f_cls : (List.range 72).all (fun t => decide (clsL.getD t 0 < 34) && wsEq (wsV (dueN t)) (clsW t) && decide (colsV (leadN t) = clsC t)) = true := by decide +kernel
theorem f_less : (List.range 34).all (fun i => (List.range 34).all fun j => decide ((tabW.getD i ⟨[], 0, 0, 0⟩).less (tabW.getD j ⟨[], 0, 0, 0⟩) = aboveV (tabC.getD i []) (tabC.getD j []))) = true := by decide +kernel
theorem f_eq : (List.range 34).all (fun i => (List.range 34).all fun j => decide (decide ((tabW.getD i ⟨[], 0, 0, 0⟩).count = (tabW.getD j ⟨[], 0, 0, 0⟩).count ∧ (tabW.getD i ⟨[], 0, 0, 0⟩).b = (tabW.getD j ⟨[], 0, 0, 0⟩).b) = decide (tabC.getD i [] = tabC.getD j []))) = true := by decide +kernel
theorem ranged {n : Nat} {f : Nat → Bool} (h : (List.range n).all f = true) {i : Nat} (hi : i < n) : f i = true := List.all_eq_true.mp h i (List.mem_range.mpr hi)
theorem due_less {t u : Nat} (ht : t < 72) (hu : u < 72) : (wsV (dueN t)).less (wsV (dueN u)) = aboveV (colsV (leadN t)) (colsV (leadN u)) := by
  have a := ranged f_cls ht
  have b := ranged f_cls hu
  simp only [Bool.and_eq_true, decide_eq_true_eq] at a b
  have c := ranged (ranged f_less a.1.1) b.1.1
  rw [wsEq_eq a.1.2, wsEq_eq b.1.2, a.2, b.2]
  exact of_decide_eq_true c
theorem due_eq {t u : Nat} (ht : t < 72) (hu : u < 72) : decide ((wsV (dueN t)).count = (wsV (dueN u)).count ∧ (wsV (dueN t)).b = (wsV (dueN u)).b) = decide (colsV (leadN t) = colsV (leadN u)) := by
  have a := ranged f_cls ht
  have b := ranged f_cls hu
  simp only [Bool.and_eq_true, decide_eq_true_eq] at a b
  have c := ranged (ranged f_eq a.1.1) b.1.1
  rw [wsEq_eq a.1.2, wsEq_eq b.1.2, a.2, b.2]
  exact of_decide_eq_true c
theorem fm (x : Int) {n : Int} (h : 0 ≤ n) : x.fmod n = x % n := Int.fmod_eq_emod_of_nonneg x h
theorem fd (x : Int) {n : Int} (h : 0 ≤ n) : x.fdiv n = x / n := Int.fdiv_eq_ediv_of_nonneg x h
theorem red1 {x : Int} (h : 0 ≤ x) (a b : Nat) : x % ((a * b : Nat) : Int) % ((a : Nat) : Int) = x % ((a : Nat) : Int) := by
  obtain ⟨n, rfl⟩ := Int.eq_ofNat_of_zero_le h
  exact congrArg Int.ofNat (Nat.mod_mul_right_mod n a b)
theorem red2 {x : Int} (h : 0 ≤ x) (a b c : Nat) : x % ((a * (b * c) : Nat) : Int) / ((a : Nat) : Int) % ((b : Nat) : Int) = x / ((a : Nat) : Int) % ((b : Nat) : Int) := by
  obtain ⟨n, rfl⟩ := Int.eq_ofNat_of_zero_le h
  refine congrArg Int.ofNat ?_
  show n % (a * (b * c)) / a % b = n / a % b
  rw [Nat.mod_mul_right_div_self, Nat.mod_mul_right_mod]
theorem msg_red {x : Int} (h0 : 0 ≤ x) : ∃ i, i < 64 ∧ msgOf x = msgN i := by
  refine ⟨(x % 64).toNat, by omega, ?_⟩
  have e0 : (((x % 64).toNat : Nat) : Int) = x % 64 := by omega
  unfold msgN msgOf
  rw [e0, fm x (by decide : (0:Int) ≤ 4), fm (x % 64) (by decide : (0:Int) ≤ 4), fd x (by decide : (0:Int) ≤ 4), fd (x % 64) (by decide : (0:Int) ≤ 4), fd x (by decide : (0:Int) ≤ 16), fd (x % 64) (by decide : (0:Int) ≤ 16), fm (x / 4) (by decide : (0:Int) ≤ 4), fm (x % 64 / 4) (by decide : (0:Int) ≤ 4), fm (x / 16) (by decide : (0:Int) ≤ 4), fm (x % 64 / 16) (by decide : (0:Int) ≤ 4)]
  rw [show x % 64 % 4 = x % 4 from red1 h0 4 16, show x % 64 / 4 % 4 = x / 4 % 4 from red2 h0 4 4 4, show x % 64 / 16 % 4 = x / 16 % 4 from red2 h0 16 4 1]
theorem lead_red {x : Int} (h0 : 0 ≤ x) : ∃ t, t < 72 ∧ leadOf x = leadN t := by
  refine ⟨(x / 64 % 72).toNat, by omega, ?_⟩
  have e0 : (((64 * (x / 64 % 72).toNat : Nat) : Int)) = 64 * (x / 64 % 72) := by omega
  unfold leadN leadOf
  rw [e0]
  have e1 : (64 * (x / 64 % 72)).fdiv 64 = x / 64 % 72 := by rw [fd _ (by decide : (0:Int) ≤ 64)]; omega
  rw [e1, fd x (by decide : (0:Int) ≤ 64)]
  have h0' : 0 ≤ x / 64 := by omega
  generalize x / 64 = t at h0' ⊢
  rw [fd t (by decide : (0:Int) ≤ 3), fd t (by decide : (0:Int) ≤ 6), fd t (by decide : (0:Int) ≤ 18), fd t (by decide : (0:Int) ≤ 36), fd (t % 72) (by decide : (0:Int) ≤ 3), fd (t % 72) (by decide : (0:Int) ≤ 6), fd (t % 72) (by decide : (0:Int) ≤ 18), fd (t % 72) (by decide : (0:Int) ≤ 36)]
  rw [fm t (by decide : (0:Int) ≤ 3), fm (t / 3) (by decide : (0:Int) ≤ 2), fm (t / 6) (by decide : (0:Int) ≤ 3), fm (t / 18) (by decide : (0:Int) ≤ 2), fm (t / 36) (by decide : (0:Int) ≤ 2), fm (t % 72) (by decide : (0:Int) ≤ 3), fm (t % 72 / 3) (by decide : (0:Int) ≤ 2), fm (t % 72 / 6) (by decide : (0:Int) ≤ 3), fm (t % 72 / 18) (by decide : (0:Int) ≤ 2), fm (t % 72 / 36) (by decide : (0:Int) ≤ 2)]
  rw [show t % 72 % 3 = t % 3 from red1 h0' 3 24, show t % 72 / 3 % 2 = t / 3 % 2 from red2 h0' 3 2 12, show t % 72 / 6 % 3 = t / 6 % 3 from red2 h0' 6 3 4, show t % 72 / 18 % 2 = t / 18 % 2 from red2 h0' 18 2 2, show t % 72 / 36 % 2 = t / 36 % 2 from red2 h0' 36 2 1]
theorem cd_red (x : Int) : cdOf x = Str.ofString "x" ∨ cdOf x = Str.ofString "" := by
  unfold cdOf
  split
  · exact Or.inr rfl
  · exact Or.inl rfl
noncomputable def noteOf (x : Int) : Note := ⟨msgOf x, leadOf x, cdOf x⟩
theorem noteT_of (x : Int) : noteT (noteOf x) = noteD x := rfl
/-- a note out of the finite lists -/
structure GoodNote (n : Note) : Prop where
  m : ∃ i, i < 64 ∧ n.msg = msgN i
  l : ∃ t, t < 72 ∧ n.ld = leadN t
  c : n.cd = Str.ofString "x" ∨ n.cd = Str.ofString ""
theorem goodNote {x : Int} (h : 0 ≤ x) : GoodNote (noteOf x) := ⟨msg_red h, lead_red h, cd_red x⟩
theorem bare_in {n : Note} (g : GoodNote n) : bareV n.msg ∈ names4 := by
  obtain ⟨i, hi, e⟩ := g.m
  rw [e]
  exact of_decide_eq_true (ranged f_names hi)
theorem mem4 {x : Str} (h : x ∈ names4) : x = Str.ofString "a" ∨ x = Str.ofString "A" ∨ x = Str.ofString "b" ∨ x = Str.ofString "B" := by
  simpa [names4] using h
theorem lo4 : names4.all (fun x => decide (Txt.lower x = Str.ofString "a" ∨ Txt.lower x = Str.ofString "b")) = true := by decide +kernel
theorem sw4 : names4.all (fun x => decide (Txt.lower (Txt.swapcase x) = Txt.lower x)) = true := by decide +kernel
theorem len4 : names4.all (fun x => decide (x.length < 100 ∧ (Txt.swapcase x).length < 100)) = true := by decide +kernel
theorem ok4 (p : Params) : names4.all (fun x => okName p x && okName p (Txt.lower x) && okName p (Txt.lower (Txt.swapcase x))) = true := by kernel_rfl
theorem in4 {f : Str → Bool} (h : names4.all f = true) {x : Str} (hx : x ∈ names4) : f x = true := List.all_eq_true.mp h x hx
theorem noteOk (p : Params) {n : Note} (g : GoodNote n) : NoteOk p n := by
  have hb := bare_in g
  have b1 := of_decide_eq_true (in4 len4 hb)
  have b2 := in4 (ok4 p) hb
  simp only [Bool.and_eq_true] at b2
  obtain ⟨i, hi, em⟩ := g.m
  obtain ⟨t, ht, el⟩ := g.l
  have hx0 : ¬ Str.ofString "" = Str.ofString "x" := by decide +kernel
  refine ⟨?_, ?_, g.c, ?_, ?_, b1.1, b2.1.1, b2.1.2, ?_, b2.2, b1.2, of_decide_eq_true (in4 lo4 hb), of_decide_eq_true (in4 sw4 hb)⟩
  · rw [em]; exact of_decide_eq_true (ranged f_mlen hi)
  · rw [el]; exact of_decide_eq_true (ranged f_llen ht)
  · unfold remOf
    rw [el]
    rcases g.c with h | h
    · rw [h, if_pos rfl]; exact of_decide_eq_true (ranged f_comX ht)
    · rw [h, if_neg hx0]; exact of_decide_eq_true (ranged f_com0 ht)
  · rw [em]; exact of_decide_eq_true (ranged f_strip hi)
  · unfold remOf
    rw [el]
    rcases g.c with h | h
    · rw [h]; exact ranged (f_okVal p) ht
    · rw [h]; exact ranged (f_okVal0 p) ht
end
section
theorem any_map' {α β : Type} {f : α → β} {p : β → Bool} {q : α → Bool} : ∀ {l : List α}, (∀ x ∈ l, p (f x) = q x) → (l.map f).any p = l.any q
  | [], _ => rfl
  | x :: l, h => by
    rw [List.map_cons, List.any_cons, List.any_cons, h x (.head _), any_map' fun y hy => h y (.tail _ hy)]
theorem filter_map' {α β : Type} {f : α → β} {p : β → Bool} {q : α → Bool} : ∀ {l : List α}, (∀ x ∈ l, p (f x) = q x) → (l.map f).filter p = (l.filter q).map f
  | [], _ => rfl
  | x :: l, h => by
    have ih := filter_map' (l := l) fun y hy => h y (.tail _ hy)
    have hx := h x (.head _)
    rw [List.map_cons, List.filter_cons, List.filter_cons, ih, hx]
    split <;> rfl
/-- a row out of the finite lists -/
noncomputable def FinRow (r : Row) : Prop := ∃ t, t < 72 ∧ r.ld = leadN t ∧ r.cs = colsV (leadN t)
theorem finRow {n : Note} (g : GoodNote n) : FinRow (rowOf n) := by
  obtain ⟨t, ht, e⟩ := g.l
  refine ⟨t, ht, e, ?_⟩
  unfold rowOf
  rw [e]
theorem finRow_good {r : Row} (h : FinRow r) : GoodRow r := by
  obtain ⟨t, ht, e1, e2⟩ := h
  refine ⟨by rw [e2]; exact colsV_len _, ?_⟩
  rw [e2]
  unfold colsV colsL
  rw [List.getD_eq_getElem?_getD, List.getElem?_map]
  simp
theorem rows_fin {ns : List Note} (g : ∀ n ∈ ns, GoodNote n) : ∀ r ∈ rowsOf ns, FinRow r := by
  intro r hr
  obtain ⟨n, hn, rfl⟩ := List.mem_map.mp hr
  exact finRow (g n (List.mem_filter.mp hn).1)
theorem row_less {r s : Row} (hr : FinRow r) (hs : FinRow s) : (wsV (dueOf r)).less (wsV (dueOf s)) = lt' r s := by
  obtain ⟨t, ht, e1, e2⟩ := hr
  obtain ⟨u, hu, e3, e4⟩ := hs
  unfold dueOf lt'
  rw [e1, e2, e3, e4]
  exact due_less ht hu
theorem row_blk {r s : Row} (hr : FinRow r) (hs : FinRow s) : blk (dueOf s) (dueOf r) = (lt' r s || decide (r.cs = s.cs)) := by
  have h1 := row_less hr hs
  obtain ⟨t, ht, e1, e2⟩ := hr
  obtain ⟨u, hu, e3, e4⟩ := hs
  have d1 : dueOf r = dueN t := by unfold dueOf dueN; rw [e1]
  have d2 : dueOf s = dueN u := by unfold dueOf dueN; rw [e3]
  have h2 := due_eq ht hu
  rw [← e2, ← e4] at h2
  rw [d1, d2] at h1 ⊢
  unfold blk
  rw [h1, h2]
theorem held_app {a b : List (Str × Str)} {x : Str} : heldOf (a ++ b) x = heldOf a x ++ heldOf b x := by
  unfold heldOf
  rw [List.filter_append, List.map_append]
theorem held_same {x y : Str} (h : Txt.lower x = Txt.lower y) (prs : List (Str × Str)) : heldOf prs x = heldOf prs y := by
  unfold heldOf
  rw [h]
theorem held_mk {x y : Str} : ∀ {vs : List Str}, heldOf (vs.map fun v => (x, v)) y = if (Txt.lower x == Txt.lower y) = true then vs else []
  | [] => by simp [heldOf]
  | v :: vs => by
    have ih := held_mk (x := x) (y := y) (vs := vs)
    unfold heldOf at ih ⊢
    rw [List.map_cons, List.filter_cons]
    split
    · rename_i h
      have h' : (Txt.lower x == Txt.lower y) = true := h
      rw [if_pos h'] at ih
      rw [List.map_cons, ih]
    · rename_i h
      have h' : ¬ (Txt.lower x == Txt.lower y) = true := h
      rw [if_neg h'] at ih
      exact ih
theorem held_out {prs : List (Str × Str)} {x y : Str} : heldOf (prs.filter fun p => Txt.lower p.1 != Txt.lower x) y = if (Txt.lower x == Txt.lower y) = true then [] else heldOf prs y := by
  unfold heldOf
  rw [List.filter_filter]
  split
  · rename_i h
    have e : Txt.lower x = Txt.lower y := eq_of_beq h
    rw [List.filter_eq_nil_iff.mpr]
    · rfl
    · intro p _
      rw [e]
      cases hb : (Txt.lower p.1 == Txt.lower y) with
      | true => rw [eq_of_beq hb]; simp
      | false => simp
  · rename_i h
    congr 1
    refine List.filter_congr fun p _ => ?_
    cases hb : (Txt.lower p.1 == Txt.lower y) with
    | false => simp
    | true =>
      rw [eq_of_beq hb, Bool.true_and]
      rw [bne_iff_ne]
      exact fun e => h (by rw [e]; exact beq_self_eq_true _)
theorem held_lay {prs : List (Str × Str)} {bare rem low : Str} : heldOf (layV prs bare rem) low =
    if (Txt.lower bare == Txt.lower low) = true then (if (heldOf prs bare).any (blk rem) = true then heldOf prs bare else (heldOf prs bare).filter (fun v => !(wsV rem).less (wsV v)) ++ [rem]) else heldOf prs low := by
  unfold layV
  by_cases h : (heldOf prs bare).any (blk rem) = true
  · rw [if_pos h, if_pos h]
    split
    · rename_i e
      exact (held_same (eq_of_beq e) prs).symm
    · rfl
  · rw [if_neg h, if_neg h, held_app, held_out, held_mk]
    split
    · simp
    · simp
noncomputable def nm4 (q : Str × Str) : Prop := q.1 ∈ names4 ∧ ∃ t, t < 72 ∧ q.2 = dueN t
theorem low_ne {x : Str} (h : x ∈ names4) : (Txt.lower (Str.ofString "first") != Txt.lower x) = true := by
  have a : names4.all (fun x => Txt.lower (Str.ofString "first") != Txt.lower x) = true := by decide +kernel
  exact in4 a h
structure Inv (ns : List Note) : Prop where
  first : ∃ r, tabOf ns = (Str.ofString "first", Str.ofString "own") :: r ∧ ∀ q ∈ r, nm4 q
  held : ∀ low, low = Str.ofString "a" ∨ low = Str.ofString "b" → heldOf (tabOf ns) low = (leastV (rowsOf ns) low).map dueOf
set_option maxHeartbeats 1000000 in
theorem inv_step {ns : List Note} {n : Note} (g : ∀ n ∈ ns, GoodNote n) (gn : GoodNote n) (h : Inv ns) : Inv (ns ++ [n]) := by
  by_cases hc : n.cd = Str.ofString "x"
  · have hb := bare_in gn
    have hlo := of_decide_eq_true (in4 lo4 hb)
    have hrem : remOf n = dueOf (rowOf n) := by
      unfold remOf dueOf rowOf
      rw [hc]
    have et : tabOf (ns ++ [n]) = layV (tabOf ns) (bareV n.msg) (dueOf (rowOf n)) := by
      rw [tabOf_snoc]
      unfold tabStep
      rw [if_pos hc, hrem]
    have er : rowsOf (ns ++ [n]) = rowsOf ns ++ [rowOf n] := by rw [rowsOf_snoc, if_pos hc]
    have hfr := rows_fin g
    have hfn := finRow gn
    have hll : Txt.lower (Txt.lower (bareV n.msg)) = Txt.lower (bareV n.msg) := by
      rcases hlo with e | e
      · rw [e, low_a]
      · rw [e, low_b]
    have hh : heldOf (tabOf ns) (bareV n.msg) = (leastV (rowsOf ns) (Txt.lower (bareV n.msg))).map dueOf := by
      rw [held_same hll.symm]
      exact h.held _ hlo
    have hfl : ∀ v ∈ leastV (rowsOf ns) (Txt.lower (bareV n.msg)), FinRow v := fun v hv => hfr v (leastV_sub hv).1
    have h1 : (heldOf (tabOf ns) (bareV n.msg)).any (blk (dueOf (rowOf n))) = (leastV (rowsOf ns) (Txt.lower (bareV n.msg))).any fun v => lt' v (rowOf n) || decide (v.cs = (rowOf n).cs) := by
      rw [hh]
      exact any_map' fun v hv => row_blk (hfl v hv) hfn
    have h2 : (heldOf (tabOf ns) (bareV n.msg)).filter (fun v => !(wsV (dueOf (rowOf n))).less (wsV v)) = ((leastV (rowsOf ns) (Txt.lower (bareV n.msg))).filter fun v => !lt' (rowOf n) v).map dueOf := by
      rw [hh]
      exact filter_map' fun v hv => by rw [row_less hfn (hfl v hv)]
    refine ⟨?_, fun low hlow => ?_⟩
    · obtain ⟨r, hr, hq⟩ := h.first
      rw [et]
      unfold layV
      split
      · exact ⟨r, hr, hq⟩
      · rw [hr, List.filter_cons, show (Txt.lower (Str.ofString "first", Str.ofString "own").1 != Txt.lower (bareV n.msg)) = true from low_ne hb, if_pos rfl, List.cons_append]
        refine ⟨_, rfl, fun q hq2 => ?_⟩
        rcases List.mem_append.mp hq2 with hq2 | hq2
        · exact hq q (List.mem_filter.mp hq2).1
        · rw [← hr] at hq2
          obtain ⟨v, hv, rfl⟩ := List.mem_map.mp hq2
          refine ⟨hb, ?_⟩
          have due_fin : ∀ r, FinRow r → ∃ t, t < 72 ∧ dueOf r = dueN t := fun r hr => by
            obtain ⟨t, ht, e1, e2⟩ := hr
            refine ⟨t, ht, ?_⟩
            unfold dueOf dueN
            rw [e1]
          rcases List.mem_append.mp hv with hv | hv
          · have hv2 := (List.mem_filter.mp hv).1
            rw [hh] at hv2
            obtain ⟨w, hw, rfl⟩ := List.mem_map.mp hv2
            exact due_fin w (hfl w hw)
          · rw [List.mem_singleton.mp hv]
            exact due_fin _ hfn
    · have hlow2 : Txt.lower low = low := by
        rcases hlow with e | e
        · rw [e, low_a]
        · rw [e, low_b]
      rw [et, er, held_lay, leastV_snoc (fun v hv => finRow_good (hfr v hv)) (finRow_good hfn)]
      have hnm : ((rowOf n).nm == low) = (Txt.lower (bareV n.msg) == Txt.lower low) := by
        rw [hlow2]; rfl
      rw [hnm]
      split
      · rename_i e
        have e2 : Txt.lower (bareV n.msg) = low := by rw [← hlow2]; exact eq_of_beq e
        rw [h1, h2, hh, e2]
        unfold ins
        split
        · rfl
        · rw [List.map_append]; rfl
      · exact h.held low hlow
  · have et : tabOf (ns ++ [n]) = tabOf ns := by
      rw [tabOf_snoc]
      unfold tabStep
      rw [if_neg hc]
    have er : rowsOf (ns ++ [n]) = rowsOf ns := by rw [rowsOf_snoc, if_neg hc]
    refine ⟨by rw [et]; exact h.first, fun low hlow => ?_⟩
    rw [et, er]
    exact h.held low hlow
theorem inv_nil : Inv [] := ⟨⟨[], rfl, fun _ h => nomatch h⟩, fun low hlow => by
  rcases hlow with rfl | rfl
  · decide +kernel
  · decide +kernel⟩
theorem inv_rev : ∀ l : List Note, (∀ n ∈ l, GoodNote n) → Inv l.reverse
  | [], _ => inv_nil
  | n :: l, g => by
    rw [List.reverse_cons]
    exact inv_step (fun m hm => g m (.tail _ (List.mem_reverse.mp hm))) (g n (.head _)) (inv_rev l fun m hm => g m (.tail _ hm))
theorem inv_all {l : List Note} (g : ∀ n ∈ l, GoodNote n) : Inv l := by
  have := inv_rev l.reverse fun n hn => g n (List.mem_reverse.mp hn)
  rw [List.reverse_reverse] at this
  exact this
theorem two_parts : ∀ {r : List (Str × Str)}, (∀ q ∈ r, nm4 q) → r.length = (heldOf r (Str.ofString "a")).length + (heldOf r (Str.ofString "b")).length
  | [], _ => rfl
  | q :: r, h => by
    have ih := two_parts (r := r) fun p hp => h p (.tail _ hp)
    have hq := of_decide_eq_true (in4 lo4 (h q (.head _)).1)
    unfold heldOf at ih ⊢
    rw [low_a, low_b] at ih ⊢
    have hab : (Str.ofString "a" == Str.ofString "b") = false := by decide +kernel
    have hba : (Str.ofString "b" == Str.ofString "a") = false := by decide +kernel
    rcases hq with e | e
    · rw [List.filter_cons_of_pos (by rw [e]; exact beq_self_eq_true _), List.filter_cons_of_neg (by rw [e, hab]; simp), List.length_cons, List.map_cons, List.length_cons, ih]
      omega
    · rw [List.filter_cons_of_neg (by rw [e, hba]; simp), List.filter_cons_of_pos (by rw [e]; exact beq_self_eq_true _), List.length_cons, List.map_cons, List.length_cons, ih]
      omega
theorem first_held {low : Str} (h : low = Str.ofString "a" ∨ low = Str.ofString "b") (r : List (Str × Str)) : heldOf ((Str.ofString "first", Str.ofString "own") :: r) low = heldOf r low := by
  have e1 : (Txt.lower (Str.ofString "first") == Txt.lower (Str.ofString "a")) = false := by decide +kernel
  have e2 : (Txt.lower (Str.ofString "first") == Txt.lower (Str.ofString "b")) = false := by decide +kernel
  unfold heldOf
  rcases h with rfl | rfl
  · rw [List.filter_cons_of_neg (by rw [e1]; simp)]
  · rw [List.filter_cons_of_neg (by rw [e2]; simp)]
theorem tab_len {ns : List Note} (h : Inv ns) : (tabOf ns).length = 1 + (leastV (rowsOf ns) (Str.ofString "a")).length + (leastV (rowsOf ns) (Str.ofString "b")).length := by
  obtain ⟨r, hr, hq⟩ := h.first
  have ha := congrArg List.length (h.held _ (Or.inl rfl))
  have hb := congrArg List.length (h.held _ (Or.inr rfl))
  rw [hr, first_held (Or.inl rfl), List.length_map] at ha
  rw [hr, first_held (Or.inr rfl), List.length_map] at hb
  rw [hr, List.length_cons, two_parts hq, ha, hb]
  omega
theorem good_tab (p : Params) {ns : List Note} (h : Inv ns) (hn : ns.length ≤ 6) : GoodTab p (tabOf ns) := by
  refine ⟨?_, ?_⟩
  · rw [tab_len h]
    have e := Nat.le_trans (rowsOf_len ns) hn
    have a := Nat.le_trans (leastV_len (rowsOf ns) (Str.ofString "a")) e
    have b := Nat.le_trans (leastV_len (rowsOf ns) (Str.ofString "b")) e
    omega
  · obtain ⟨r, hr, hq⟩ := h.first
    rw [hr]
    refine List.forall_mem_cons.mpr ⟨⟨by decide +kernel, by decide +kernel, okVal_own p, by decide +kernel⟩, fun q hqr => ?_⟩
    obtain ⟨h4, t, ht, e⟩ := hq q hqr
    refine ⟨(of_decide_eq_true (in4 len4 h4)).1, ?_, ?_, ?_⟩
    · rw [e]; exact of_decide_eq_true (ranged f_dlen ht)
    · rw [e]; exact ranged (f_okVal p) ht
    · rw [e]; exact ranged f_strOk ht
theorem left_ok (p : Params) {ns : List Note} (g : ∀ n ∈ ns, GoodNote n) (hn : ns.length ≤ 6) : LeftOk p ns := by
  have I := inv_all g
  refine ⟨hn, fun n hm => noteOk p (g n hm), fun i => good_tab p (inv_all fun n hm => g n (List.mem_of_mem_take hm)) (by rw [List.length_take]; omega), I.held, fun low _ => leastV_nodup _ _, tab_len I, ?_⟩
  obtain ⟨r, hr, _⟩ := I.first
  exact ⟨r, hr⟩
theorem leftD_perm {a b : List Note} (h : a.Perm b) : leftD a = leftD b := by
  unfold leftD lows lowD
  simp only [List.map_cons, List.map_nil, sortedOf_perm h]
end
section
local macro_rules | `(tactic| walk_at "call ref") => `(tactic| (k_here; refine Mine.halt ?_))
local macro_rules | `(tactic| walk_at "compareOp NotEq ref ref") => `(tactic| (refine Mine.halt ?_))
local macro_rules | `(tactic| walk_at "compareOp Eq ref ref") => `(tactic| (refine Mine.halt ?_))
local macro_rules | `(tactic| walk_at "subscriptTail Name Slice ref ref") => `(tactic| (k_here; (with_reducible show wpAny _ _ (subscriptTail _ (PySem.Expr.Slice none none (some _) _) (Value.ref _) (Value.ref _)) _ _ _); k_dflt (refine' krv_lit ?F ?N ?l ?k ?e ?_ ?s ?t ?z; (case F | N => k_asm); (case l => exact News.isList (by k_asm) (by k_mem)); (case k => exact IsPart.int _ _); (case e => exact rfl); (case s => with_unfolding_all rfl); (case t => kmk_pure); (case z => (rw [List.size_toArray, sizeLine_eq]; omega))); intro D' h' F' N' l1; (try k_lt l1); (try k_sweep)))
local macro_rules | `(tactic| walk_at "subscriptTail Name Slice ref ref") => `(tactic| (k_here; (with_reducible show wpAny _ _ (subscriptTail _ (PySem.Expr.Slice none (some _) none _) (Value.ref _) (Value.ref _)) _ _ _); k_dflt (refine' kmk_slice_lit ?F ?N ?l IsPart.none (IsPart.int _ _) (Mine.pick_upto ?y) ?_ ?s ?t ?z; (case F | N => k_asm); (case l => exact (by assumption : Heap.IsList _ _ _).at fun o e => (Fr.keep (by k_asm)) _ _ e); (case y => decide); (case s => with_unfolding_all rfl); (case t => kmk_pure); (case z => (rw [List.size_toArray, sizeLine_eq]; omega))); intro D' h' F' N' l1; (try k_lt l1); (try k_sweep)))
theorem fill0 (P : Params) : Mine.KF P = Mine.KF P ∧ PySem.Challenge.rw_pe0277_01.row = PySem.Challenge.rw_pe0277_01.row := by
  k_fill
  exact ⟨rfl, rfl⟩
theorem dat_rev {n : Led} : ∀ {vs : List Value} {ds : List Dat}, DatAll n vs ds → DatAll n vs.reverse ds.reverse
  | _, [], h => by cases h; exact .nil
  | _, d :: ds, h => by
    cases h with
    | cons d1 r =>
      rw [List.reverse_cons, List.reverse_cons]
      exact (dat_rev r).append (.one d1)
noncomputable def numsOf (xs : List Int) : List Int := [273, 164, 562] ++ (xs.take 3).map fun x => x.fmod 1000000
theorem nums_len (xs : List Int) : (numsOf xs).length ≤ 6 := by
  unfold numsOf
  rw [List.length_append, List.length_map, List.length_take]
  show 3 + _ ≤ 6
  omega
theorem nums_bnd (xs : List Int) : ∀ x ∈ numsOf xs, 0 ≤ x ∧ x < 1000000 := by
  intro x hx
  unfold numsOf at hx
  rcases List.mem_append.mp hx with hx | hx
  · simp only [List.mem_cons, List.not_mem_nil, or_false] at hx
    omega
  · obtain ⟨y, _, rfl⟩ := List.mem_map.mp hx
    exact ⟨Int.fmod_nonneg_of_pos _ (by decide), Int.fmod_lt_of_pos _ (by decide)⟩
noncomputable def notesOf (xs : List Int) : List Note := (numsOf xs).map noteOf
theorem notes_good (xs : List Int) : ∀ n ∈ notesOf xs, GoodNote n := by
  intro n hn
  obtain ⟨x, hx, rfl⟩ := List.mem_map.mp hn
  exact goodNote (nums_bnd xs x hx).1
theorem notes_ok (p : Params) (xs : List Int) : LeftOk p (notesOf xs) := left_ok p (notes_good xs) (by unfold notesOf; rw [List.length_map]; exact nums_len xs)
theorem back_ok (p : Params) (xs : List Int) : LeftOk p (notesOf xs).reverse := left_ok p (fun n hn => notes_good xs n (List.mem_reverse.mp hn)) (by unfold notesOf; rw [List.length_reverse, List.length_map]; exact nums_len xs)
set_option maxHeartbeats 8000000 in
theorem main : PySem.Challenge.rw_pe0277_01.Holds := by
  w_on
  refine holds_law Mine.law_said fun said => ?_
  refine holds_open (q := Mine.VW) (loose := Mine.LO0) (Xt := fun s => xlAt Mine.VW [] s && recOk (RowW.records PySem.Challenge.rw_pe0277_01.row.toRowW) s) (XP := XL Mine.VW []) (Yf := Hook.obs Mine.HK) (Ya := Hook.val Mine.HK) (YP := Hook.says Mine.HK) (N := 4000) (byRow2 "special-get-raises" Mine.leftF Mine.leftT) (Hook.of Mine.HK) (Hook.keeps Mine.HK) (fun s e => xl_of s (Bool.and_eq_true_iff.mp e).1) XL.keeps (by rfl) (by rfl) (by rfl) (fun s e => recFacts_of (Bool.and_eq_true_iff.mp e).2) (by rfl) (by first | assumption | decide +kernel) (by decide +kernel) ⟨rfl, rfl, rfl, rfl, rfl, by decide +kernel⟩ ?hw ?hc
  case hw => w_witness2
  case hc =>
    intro w s₀ s₁ mg mb G Y fa o pm cd doc dV kV ho hd hcd hD hmg hg args vals as hpre hlay hrd hwl hlo
    have KX := kIn_of Y
    have X := (Ground.X G).1
    have V := (Ground.X G).2
    refine Ground.open G ?_
    intro T B D TE TW
    clear D hmg
    wrow_args hpre hlay hrd hwl hlo
    refine enter_call ?_
    w_top on
    refine codeAny_mono ?_ (fun _ _ g => GoodW.toG g)
    have K0 := below_caller (Top.heap T)
    w_call any ho hd hcd hD T F
    clear hd
    k_drop
    rename IntsAre _ _ => hI
    rename Heap.IsList _ _ _ => hL
    rename List Int => xs
    rename List Value => vs
    have lv := hI.length
    have lx : xs.length ≤ 63 := by omega
    k_steps
    unfold Halt
    rename_i lA hA lTr D1 hB FB NB lAD gB
    refine comp_U (fun pre ys nw => nw = [(D1, listOf (vs.take (Int.toNat 3)).toArray 0), (lA, listOf [Value.int 273 _, Value.int 164 _, Value.int 562 _].toArray 0)] ∧ IntsAre ys (((xs.take 3).take pre.length).map fun x => x.fmod 1000000)) ⟨rfl, .nil⟩ ?turn ?done
    case turn =>
      clear NB FB
      rintro pre v post ys nw I oI C oC D m₃ h' tk' E' e6 ⟨rfl, hy⟩ hn hx' F3 N3 off ne
      obtain ⟨x, t, rfl, hxm, hxt⟩ := ints_split (hI.take 3) e6
      k_steps
      refine LCg.CompEnd.intro (by k_asm) (by k_asm) [(D1, listOf (vs.take (Int.toNat 3)).toArray 0), (lA, listOf [Value.int 273 _, Value.int 164 _, Value.int 562 _].toArray 0)] (by walk_at "my sub") off (Or.inr ⟨_, .head _, rfl, _, rfl⟩) ⟨rfl, ?_⟩
      rw [hxt, List.map_append]
      exact ints_app hy (.cons _ _ .nil)
    case done =>
      clear NB FB
      rintro ys nw ⟨rfl, hy⟩ D2 h' tk' F3 N3 off
      rw [List.take_of_length_le (by rw [List.length_take, List.length_take, lv]; exact Nat.le_refl _)] at hy
      have lys : ys.length ≤ 3 := by
        rw [hy.length, List.length_map, List.length_take]
        exact Nat.min_le_left _ _
      obtain ⟨n1, n2, n3⟩ := off
      dsimp only at n1 n2 n3
      k_steps
      unfold Halt
      refine' Mine.Spec.use (notes_s _ _ _ _ (numsOf xs) _ ?c1e1 (ints_app (.cons _ _ (.cons _ _ (.cons _ _ .nil))) hy) (Nat.lt_of_le_of_lt (nums_len xs) (by decide)) (nums_bnd xs)) ?c1B ?c1F ?c1X ?c1N ?c1T ?c1d ?c1u ?_
      case c1B => k_asm
      case c1F => k_asm
      case c1X => k_asm
      case c1N => k_asm
      case c1T => k_asm
      case c1e1 => k_mem
      case c1d => k_room
      case c1u => k_units
      intro v1 h1 tk1 n1 F1 N1 P1
      obtain ⟨D4, us4, k4, rest4, rfl, rfl, hsub4, hus4, off4⟩ := P1
      have hnt : DatAll ((D4, listOf us4.toArray k4) :: rest4) us4 ((notesOf xs).map noteT) := by
        unfold notesOf
        rw [List.map_map]
        exact hus4.mono fun q hq => .tail _ hq
      have lus4 : us4.length ≤ 6 := by
        rw [hus4.length, List.length_map]
        exact nums_len xs
      k_steps
      unfold Halt
      refine' Mine.Spec.use (left_s (nts := notesOf xs) ?c2e1 hnt (notes_ok _ xs)) ?c2B ?c2F ?c2X ?c2N ?c2T ?c2d ?c2u ?_
      case c2B => k_asm
      case c2F => k_asm
      case c2X => k_asm
      case c2N => k_asm
      case c2T => k_asm
      case c2e1 => k_mem
      case c2d => k_room
      case c2u => k_units
      intro v2 h2 tk2 n2 F2 N2 P2
      obtain ⟨D5, us5, k5, rfl, hm5, hus5, hsub5⟩ := P2
      have hm4 := hsub5 _ (.head _)
      replace hsub5 : ∀ q ∈ rest4, q ∈ n2 := fun q hq => hsub5 q (.tail _ hq)
      have hnb : ∀ q : Addr × Obj, DatAll (q :: n2) us4.reverse (((notesOf xs).reverse).map noteT) := fun q => by
        rw [List.map_reverse]
        refine dat_rev ?_
        unfold notesOf
        rw [List.map_map]
        exact hus4.mono fun p hp => .tail _ (hsub5 p hp)
      k_steps
      unfold Halt
      refine' Mine.Spec.use (left_s (nts := (notesOf xs).reverse) ?c3e1 (hnb _) (back_ok _ xs)) ?c3B ?c3F ?c3X ?c3N ?c3T ?c3d ?c3u ?_
      case c3B => k_asm
      case c3F => k_asm
      case c3X => k_asm
      case c3N => k_asm
      case c3T => k_asm
      case c3e1 => k_mem
      case c3d => k_room
      case c3u => k_units
      intro v3 h3 tk3 n3 F3 N3 P3
      obtain ⟨D6, us6, k6, rfl, hm6, hus6, hsub6⟩ := P3
      have hm5b := hsub6 _ (.tail _ hm5)
      have hus5b := hus5.mono fun q hq => hsub6 q (.tail _ hq)
      have hkq : ∀ ns : List Note, kqdOk 8 (Dat.list (leftD ns)) = true := fun ns => by simp [kqdOk, leftD, lowD, colD]
      k_steps
      unfold Halt
      refine dat_ne (by k_asm) (DatIn.list (by k_mem) (hus5b.mono fun q hq => .tail _ hq)) (DatIn.list (by k_mem) .nil) (hkq _) (by simp [kqdOk]) (by k_units) fun r1 hr1 => ?_
      have hr1t : r1 = true := hr1.mpr (by simp [leftD, lows])
      subst hr1t
      k_steps
      unfold Halt
      refine dat_eq (by k_asm) (DatIn.list (by k_mem) (hus5b.mono fun q hq => .tail _ hq)) (DatIn.list (by k_mem) (hus6.mono fun q hq => .tail _ hq)) (hkq _) (hkq _) (by k_units) fun r2 hr2 => ?_
      have hr2t : r2 = true := hr2.mpr (by rw [leftD_perm (List.reverse_perm (notesOf xs))])
      subst hr2t
      k_steps
end
end
end
end
end
end
end
end Mine
theorem PySem.Challenge.cw_pe0277_01_holds : PySem.Challenge.rw_pe0277_01.Holds := by
  exact Mine.main
