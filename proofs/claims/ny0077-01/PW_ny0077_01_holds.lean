import PyProof.Rows.All
import Wide.All
import OpenK.AllK
import Wide.FinOn
import PySem.Challenge.RW_ny0077_01
open PySem PySem.W PyProof.Rows
set_option Elab.async false
set_option linter.all false
namespace Mine
noncomputable section
set_option maxRecDepth 100000
namespace hd
/-- the text's statement with number i -/
def stm (i : Nat) : Stmt := PySem.Challenge.pw_ny0077_01.main.body.getD i (.Pass default)
def inC (i j : Nat) : Stmt := match stm i with
  | .ClassDef _ _ _ b .. => b.getD j (.Pass default)
  | s => s
def fArgs : Stmt → Arguments
  | .FunctionDef _ a .. => a
  | _ => default
def fBody : Stmt → FuncBody
  | .FunctionDef _ _ b .. => .stmts b
  | _ => default
def fScope : Stmt → Scope
  | .FunctionDef _ _ _ _ _ _ sc .. => sc
  | _ => default
def o_53 (P : Params) : Obj :=
{ cls := Value.type "tuple", data := Data.seq #[] }
def o_54 (P : Params) : Obj :=
{ cls := Value.none, data := Data.fields #[] }
def o_55 (P : Params) : Obj :=
{ cls := Value.type "code",
  data :=
    Data.fields
      #[Value.str (Str.ofString "<module>") 182, Value.str (Str.ofString "<module>") 183, Value.str (Str.ofString "/claim/cut.py") 184, Value.int 1 0, Value.int 0 0, Value.int 0 0,
        Value.int 0 0, Value.int 0 0, Value.ref 11, Value.bool false, Value.int 181 0, Value.ref 12, Value.none, Value.none, Value.none, Value.none, Value.int 185 0, Value.int 1 0,
        Value.str (Str.ofString "/claim/cut.py") 186] }
def o_56 (P : Params) : Obj :=
{ cls := Value.type "frame",
  slots := #[some (Value.ref 13), some (Value.ref 3), some (Value.ref 3), none, some (Value.str (Str.ofString "__main__") 164), none, some (Value.ref 0)] }
def o_59 (P : Params) : Obj :=
{ cls := Value.type "dict",
  data :=
    Data.dict
      #[{ hash := PyData.keyHash P (Str.ofString "__name__"), key := Value.str (Str.ofString "__name__") 165, val := Value.str (Str.ofString "re") 251 },
        { hash := PyData.keyHash P (Str.ofString "__doc__"), key := Value.str (Str.ofString "__doc__") 166, val := Value.none },
        { hash := PyData.keyHash P (Str.ofString "__package__"), key := Value.str (Str.ofString "__package__") 167, val := Value.none },
        { hash := PyData.keyHash P (Str.ofString "__loader__"), key := Value.str (Str.ofString "__loader__") 168, val := Value.builtin "__main__.__loader__#opaque" },
        { hash := PyData.keyHash P (Str.ofString "__spec__"), key := Value.str (Str.ofString "__spec__") 169, val := Value.none },
        { hash := PyData.keyHash P (Str.ofString "__annotations__"), key := Value.str (Str.ofString "__annotations__") 170, val := Value.ref 6 },
        { hash := PyData.keyHash P (Str.ofString "__builtins__"), key := Value.str (Str.ofString "__builtins__") 171, val := Value.ref 4 },
        { hash := PyData.keyHash P (Str.ofString "__file__"), key := Value.str (Str.ofString "__file__") 173, val := Value.str (Str.ofString "/claim/cut.py") 172 },
        { hash := PyData.keyHash P (Str.ofString "__cached__"), key := Value.str (Str.ofString "__cached__") 174, val := Value.none },
        { hash := PyData.keyHash P (Str.ofString "Entry"), key := Value.str (Str.ofString "Entry") 250, val := Value.ref 52 }]
      10 }
def o_60 (P : Params) : Obj :=
{ cls := Value.none, data := Data.fields #[Value.int 2 0, Value.int 0 0, Value.ref 20] }
def o_61 (P : Params) : Obj :=
{ cls := Value.type "tuple", data := Data.seq #[] }
def o_62 (P : Params) : Obj :=
{ cls := Value.type "builtin_function_or_method", data := Data.fields #[Value.builtin "type.__prepare__", Value.type "type"] }
def o_63 (P : Params) : Obj :=
{ cls := Value.type "dict",
  data :=
    Data.dict
      #[{ hash := PyData.keyHash P (Str.ofString "__module__"), key := Value.str (Str.ofString "__module__") 196, val := Value.str (Str.ofString "cpy313.urllib.robotparser") 187 },
        { hash := PyData.keyHash P (Str.ofString "__qualname__"), key := Value.str (Str.ofString "__qualname__") 198, val := Value.str (Str.ofString "Entry") 197 },
        { hash := PyData.keyHash P (Str.ofString "__firstlineno__"), key := Value.str (Str.ofString "__firstlineno__") 200, val := Value.int 2 199 },
        { hash := PyData.keyHash P (Str.ofString "__init__"), key := Value.str (Str.ofString "__init__") 207, val := Value.ref 28 },
        { hash := PyData.keyHash P (Str.ofString "__str__"), key := Value.str (Str.ofString "__str__") 217, val := Value.ref 35 },
        { hash := PyData.keyHash P (Str.ofString "applies_to"), key := Value.str (Str.ofString "applies_to") 226, val := Value.ref 42 },
        { hash := PyData.keyHash P (Str.ofString "allowance"), key := Value.str (Str.ofString "allowance") 238, val := Value.ref 49 },
        { hash := PyData.keyHash P (Str.ofString "__static_attributes__"), key := Value.str (Str.ofString "__static_attributes__") 243, val := Value.ref 50 }]
      8 }
def o_64 (P : Params) : Obj :=
{ cls := Value.type "tuple", data := Data.seq #[] }
def o_65 (P : Params) : Obj :=
{ cls := Value.none,
  data :=
    Data.fields
      #[Value.int 4 0, Value.int 4 0, Value.ref 27, Value.int 10 0, Value.int 4 0, Value.ref 34, Value.int 27 0, Value.int 4 0, Value.ref 41, Value.int 38 0, Value.int 4 0,
        Value.ref 48] }
def o_66 (P : Params) : Obj :=
{ cls := Value.type "code",
  data :=
    Data.fields
      #[Value.str (Str.ofString "Entry") 191, Value.str (Str.ofString "Entry") 192, Value.str (Str.ofString "/claim/cut.py") 193, Value.int 2 0, Value.int 0 0, Value.int 0 0,
        Value.int 0 0, Value.int 0 0, Value.ref 18, Value.bool false, Value.int 181 0, Value.ref 19, Value.none, Value.none, Value.none, Value.none, Value.int 194 0, Value.int 2 0,
        Value.str (Str.ofString "/claim/cut.py") 195] }
def o_67 (P : Params) : Obj :=
{ cls := Value.type "frame",
  slots := #[some (Value.ref 20), some (Value.ref 3), some (Value.ref 17), none, some (Value.str (Str.ofString "cpy313.urllib.robotparser") 187), none, some (Value.ref 0)] }
def o_68 (P : Params) : Obj :=
{ cls := Value.type "tuple", data := Data.seq #[] }
def o_69 (P : Params) : Obj :=
{ cls := Value.none, data := Data.fields #[] }
def o_70 (P : Params) : Obj :=
{ cls := Value.type "tuple", data := Data.seq #[Value.str (Str.ofString "self") 204] }
def o_71 (P : Params) : Obj :=
{ cls := Value.type "tuple", data := Data.seq #[] }
def o_72 (P : Params) : Obj :=
{ cls := Value.none,
  data :=
    Data.func
      { name := Str.ofString "__init__", qualname := Str.ofString "Entry.__init__", params := Mine.hd.fArgs (Mine.hd.inC 1 0), body := Mine.hd.fBody (Mine.hd.inC 1 0),
        scope := Mine.hd.fScope (Mine.hd.inC 1 0), globals := 0, closure := [], defaults := Value.none, kwdefaults := Value.none } }
def o_73 (P : Params) : Obj :=
{ cls := Value.type "code",
  data :=
    Data.fields
      #[Value.str (Str.ofString "__init__") 201, Value.str (Str.ofString "Entry.__init__") 202, Value.str (Str.ofString "/claim/cut.py") 203, Value.int 4 0, Value.int 1 0,
        Value.int 0 0, Value.int 0 0, Value.int 3 0, Value.ref 22, Value.bool true, Value.int 181 0, Value.ref 23, Value.none, Value.ref 24, Value.ref 25, Value.ref 26,
        Value.int 205 0, Value.int 4 0, Value.str (Str.ofString "/claim/cut.py") 206] }
def o_74 (P : Params) : Obj :=
{ cls := Value.type "function",
  data :=
    Data.func
      { name := Str.ofString "__init__", qualname := Str.ofString "Entry.__init__", params := Mine.hd.fArgs (Mine.hd.inC 1 0), body := Mine.hd.fBody (Mine.hd.inC 1 0),
        scope := Mine.hd.fScope (Mine.hd.inC 1 0), globals := 3, closure := [], defaults := Value.none, kwdefaults := Value.none,
        pyModule := Value.str (Str.ofString "cpy313.urllib.robotparser") 187, code := Value.ref 27 } }
def o_75 (P : Params) : Obj :=
{ cls := Value.type "tuple", data := Data.seq #[] }
def o_76 (P : Params) : Obj :=
{ cls := Value.none, data := Data.fields #[] }
def o_77 (P : Params) : Obj :=
{ cls := Value.type "tuple",
  data := Data.seq #[Value.str (Str.ofString "self") 211, Value.str (Str.ofString "ret") 212, Value.str (Str.ofString "agent") 213, Value.str (Str.ofString "rate") 214] }
def o_78 (P : Params) : Obj :=
{ cls := Value.type "tuple", data := Data.seq #[] }
def o_79 (P : Params) : Obj :=
{ cls := Value.none,
  data :=
    Data.func
      { name := Str.ofString "__str__", qualname := Str.ofString "Entry.__str__", params := Mine.hd.fArgs (Mine.hd.inC 1 1), body := Mine.hd.fBody (Mine.hd.inC 1 1),
        scope := Mine.hd.fScope (Mine.hd.inC 1 1), globals := 0, closure := [], defaults := Value.none, kwdefaults := Value.none } }
def o_80 (P : Params) : Obj :=
{ cls := Value.type "code",
  data :=
    Data.fields
      #[Value.str (Str.ofString "__str__") 208, Value.str (Str.ofString "Entry.__str__") 209, Value.str (Str.ofString "/claim/cut.py") 210, Value.int 10 0, Value.int 1 0,
        Value.int 0 0, Value.int 0 0, Value.int 3 0, Value.ref 29, Value.bool true, Value.int 181 0, Value.ref 30, Value.none, Value.ref 31, Value.ref 32, Value.ref 33,
        Value.int 215 0, Value.int 10 0, Value.str (Str.ofString "/claim/cut.py") 216] }
def o_81 (P : Params) : Obj :=
{ cls := Value.type "function",
  data :=
    Data.func
      { name := Str.ofString "__str__", qualname := Str.ofString "Entry.__str__", params := Mine.hd.fArgs (Mine.hd.inC 1 1), body := Mine.hd.fBody (Mine.hd.inC 1 1),
        scope := Mine.hd.fScope (Mine.hd.inC 1 1), globals := 3, closure := [], defaults := Value.none, kwdefaults := Value.none,
        pyModule := Value.str (Str.ofString "cpy313.urllib.robotparser") 187, code := Value.ref 34 } }
def o_82 (P : Params) : Obj :=
{ cls := Value.type "tuple", data := Data.seq #[] }
def o_83 (P : Params) : Obj :=
{ cls := Value.none, data := Data.fields #[] }
def o_84 (P : Params) : Obj :=
{ cls := Value.type "tuple", data := Data.seq #[Value.str (Str.ofString "self") 221, Value.str (Str.ofString "useragent") 222, Value.str (Str.ofString "agent") 223] }
def o_85 (P : Params) : Obj :=
{ cls := Value.type "tuple", data := Data.seq #[] }
def o_86 (P : Params) : Obj :=
{ cls := Value.none,
  data :=
    Data.func
      { name := Str.ofString "applies_to", qualname := Str.ofString "Entry.applies_to", params := Mine.hd.fArgs (Mine.hd.inC 1 2), body := Mine.hd.fBody (Mine.hd.inC 1 2),
        scope := Mine.hd.fScope (Mine.hd.inC 1 2), globals := 0, closure := [], defaults := Value.none, kwdefaults := Value.none } }
def o_87 (P : Params) : Obj :=
{ cls := Value.type "code",
  data :=
    Data.fields
      #[Value.str (Str.ofString "applies_to") 218, Value.str (Str.ofString "Entry.applies_to") 219, Value.str (Str.ofString "/claim/cut.py") 220, Value.int 27 0, Value.int 2 0,
        Value.int 0 0, Value.int 0 0, Value.int 3 0, Value.ref 36, Value.bool true, Value.int 181 0, Value.ref 37, Value.none, Value.ref 38, Value.ref 39, Value.ref 40,
        Value.int 224 0, Value.int 27 0, Value.str (Str.ofString "/claim/cut.py") 225] }
def o_88 (P : Params) : Obj :=
{ cls := Value.type "function",
  data :=
    Data.func
      { name := Str.ofString "applies_to", qualname := Str.ofString "Entry.applies_to", params := Mine.hd.fArgs (Mine.hd.inC 1 2), body := Mine.hd.fBody (Mine.hd.inC 1 2),
        scope := Mine.hd.fScope (Mine.hd.inC 1 2), globals := 3, closure := [], defaults := Value.none, kwdefaults := Value.none,
        pyModule := Value.str (Str.ofString "cpy313.urllib.robotparser") 187, code := Value.ref 41 } }
def o_89 (P : Params) : Obj :=
{ cls := Value.type "tuple", data := Data.seq #[] }
def o_90 (P : Params) : Obj :=
{ cls := Value.none, data := Data.fields #[] }
def o_91 (P : Params) : Obj :=
{ cls := Value.type "tuple",
  data :=
    Data.seq
      #[Value.str (Str.ofString "self") 230, Value.str (Str.ofString "filename") 231, Value.str (Str.ofString "best_match") 232, Value.str (Str.ofString "allowance") 233,
        Value.str (Str.ofString "line") 234, Value.str (Str.ofString "m") 235] }
def o_92 (P : Params) : Obj :=
{ cls := Value.type "tuple", data := Data.seq #[] }
def o_93 (P : Params) : Obj :=
{ cls := Value.none,
  data :=
    Data.func
      { name := Str.ofString "allowance", qualname := Str.ofString "Entry.allowance", params := Mine.hd.fArgs (Mine.hd.inC 1 3), body := Mine.hd.fBody (Mine.hd.inC 1 3),
        scope := Mine.hd.fScope (Mine.hd.inC 1 3), globals := 0, closure := [], defaults := Value.none, kwdefaults := Value.none } }
def o_94 (P : Params) : Obj :=
{ cls := Value.type "code",
  data :=
    Data.fields
      #[Value.str (Str.ofString "allowance") 227, Value.str (Str.ofString "Entry.allowance") 228, Value.str (Str.ofString "/claim/cut.py") 229, Value.int 38 0, Value.int 2 0,
        Value.int 0 0, Value.int 0 0, Value.int 3 0, Value.ref 43, Value.bool true, Value.int 181 0, Value.ref 44, Value.none, Value.ref 45, Value.ref 46, Value.ref 47,
        Value.int 236 0, Value.int 38 0, Value.str (Str.ofString "/claim/cut.py") 237] }
def o_95 (P : Params) : Obj :=
{ cls := Value.type "function",
  data :=
    Data.func
      { name := Str.ofString "allowance", qualname := Str.ofString "Entry.allowance", params := Mine.hd.fArgs (Mine.hd.inC 1 3), body := Mine.hd.fBody (Mine.hd.inC 1 3),
        scope := Mine.hd.fScope (Mine.hd.inC 1 3), globals := 3, closure := [], defaults := Value.none, kwdefaults := Value.none,
        pyModule := Value.str (Str.ofString "cpy313.urllib.robotparser") 187, code := Value.ref 48 } }
def o_96 (P : Params) : Obj :=
{ cls := Value.type "tuple",
  data :=
    Data.seq #[Value.str (Str.ofString "delay") 239, Value.str (Str.ofString "req_rate") 240, Value.str (Str.ofString "rulelines") 241, Value.str (Str.ofString "useragents") 242] }
def o_97 (P : Params) : Obj :=
{ cls := Value.type "dict",
  data :=
    Data.dict
      #[{ hash := PyData.keyHash P (Str.ofString "__module__"), key := Value.str (Str.ofString "__module__") 196, val := Value.str (Str.ofString "cpy313.urllib.robotparser") 187 },
        { hash := PyData.keyHash P (Str.ofString "__firstlineno__"), key := Value.str (Str.ofString "__firstlineno__") 200, val := Value.int 2 199 },
        { hash := PyData.keyHash P (Str.ofString "__init__"), key := Value.str (Str.ofString "__init__") 207, val := Value.ref 28 },
        { hash := PyData.keyHash P (Str.ofString "__str__"), key := Value.str (Str.ofString "__str__") 217, val := Value.ref 35 },
        { hash := PyData.keyHash P (Str.ofString "applies_to"), key := Value.str (Str.ofString "applies_to") 226, val := Value.ref 42 },
        { hash := PyData.keyHash P (Str.ofString "allowance"), key := Value.str (Str.ofString "allowance") 238, val := Value.ref 49 },
        { hash := PyData.keyHash P (Str.ofString "__static_attributes__"), key := Value.str (Str.ofString "__static_attributes__") 243, val := Value.ref 50 },
        { hash := PyData.keyHash P (Str.ofString "__dict__"), key := Value.str (Str.ofString "__dict__") 245, val := Value.ref 53 },
        { hash := PyData.keyHash P (Str.ofString "__weakref__"), key := Value.str (Str.ofString "__weakref__") 247, val := Value.ref 54 },
        { hash := PyData.keyHash P (Str.ofString "__doc__"), key := Value.str (Str.ofString "__doc__") 248, val := Value.none }]
      4 }
def o_98 (P : Params) : Obj :=
{ cls := Value.type "type",
  data := Data.cls { name := Str.ofString "Entry", bases := [Value.type "object"], mro := [Value.ref 52, Value.type "object"], ns := 51, qualname := Str.ofString "Entry" },
  slots := #[none, none, some (Value.str (Str.ofString "Entry") 189), some (Value.str (Str.ofString "Entry") 197), some (Value.builtin "object.__new__"), some (Value.bool true)] }
def o_99 (P : Params) : Obj :=
{ cls := Value.type "getset_descriptor",
  data := Data.fields #[Value.str (Str.ofString "__dict__") 244, Value.ref 52, Value.builtin "function.__dict__", Value.builtin "function.__dict__#set"] }
def o_100 (P : Params) : Obj :=
{ cls := Value.type "getset_descriptor", data := Data.fields #[Value.str (Str.ofString "__weakref__") 246, Value.ref 52, Value.builtin "ExceptionGroup.__weakref__", Value.none] }
def o_101 (P : Params) : Obj :=
{ cls := Value.type "super", data := Data.fields #[Value.ref 52, Value.ref 52, Value.ref 52] }
def o_102 (P : Params) : Obj :=
{ cls := Value.type "builtin_function_or_method", data := Data.fields #[Value.builtin "object.__init_subclass__", Value.ref 52] }
def o_103 (P : Params) : Obj :=
{ cls := Value.type "dict",
  data :=
    Data.dict
      #[{ hash := PyData.keyHash P (Str.ofString "__name__"), key := Value.str (Str.ofString "__name__") 165, val := Value.str (Str.ofString "re") 251 },
        { hash := PyData.keyHash P (Str.ofString "__doc__"), key := Value.str (Str.ofString "__doc__") 166, val := Value.none },
        { hash := PyData.keyHash P (Str.ofString "__package__"), key := Value.str (Str.ofString "__package__") 167, val := Value.none },
        { hash := PyData.keyHash P (Str.ofString "__loader__"), key := Value.str (Str.ofString "__loader__") 168, val := Value.builtin "__main__.__loader__#opaque" },
        { hash := PyData.keyHash P (Str.ofString "__spec__"), key := Value.str (Str.ofString "__spec__") 169, val := Value.none },
        { hash := PyData.keyHash P (Str.ofString "__annotations__"), key := Value.str (Str.ofString "__annotations__") 170, val := Value.ref 6 },
        { hash := PyData.keyHash P (Str.ofString "__builtins__"), key := Value.str (Str.ofString "__builtins__") 171, val := Value.ref 4 },
        { hash := PyData.keyHash P (Str.ofString "__file__"), key := Value.str (Str.ofString "__file__") 173, val := Value.str (Str.ofString "/claim/cut.py") 172 },
        { hash := PyData.keyHash P (Str.ofString "__cached__"), key := Value.str (Str.ofString "__cached__") 174, val := Value.none },
        { hash := PyData.keyHash P (Str.ofString "Entry"), key := Value.str (Str.ofString "Entry") 250, val := Value.ref 52 },
        { hash := PyData.keyHash P (Str.ofString "_special_chars_map"), key := Value.str (Str.ofString "_special_chars_map") 398, val := Value.ref 58 }]
      11 }
def o_104 (P : Params) : Obj :=
{ cls := Value.type "bytes_iterator", data := Data.fields #[Value.none, Value.int 24 0] }
def o_105 (P : Params) : Obj :=
{ cls := Value.type "dict",
  data :=
    Data.dict
      #[{ hash := 40, key := Value.int 40 254, val := Value.str (Str.ofString "\\(") 258 }, { hash := 41, key := Value.int 41 260, val := Value.str (Str.ofString "\\)") 264 },
        { hash := 91, key := Value.int 91 266, val := Value.str (Str.ofString "\\[") 270 }, { hash := 93, key := Value.int 93 272, val := Value.str (Str.ofString "\\]") 276 },
        { hash := 123, key := Value.int 123 278, val := Value.str (Str.ofString "\\{") 282 }, { hash := 125, key := Value.int 125 284, val := Value.str (Str.ofString "\\}") 288 },
        { hash := 63, key := Value.int 63 290, val := Value.str (Str.ofString "\\?") 294 }, { hash := 42, key := Value.int 42 296, val := Value.str (Str.ofString "\\*") 300 },
        { hash := 43, key := Value.int 43 302, val := Value.str (Str.ofString "\\+") 306 }, { hash := 45, key := Value.int 45 308, val := Value.str (Str.ofString "\\-") 312 },
        { hash := 124, key := Value.int 124 314, val := Value.str (Str.ofString "\\|") 318 }, { hash := 94, key := Value.int 94 320, val := Value.str (Str.ofString "\\^") 324 },
        { hash := 36, key := Value.int 36 326, val := Value.str (Str.ofString "\\$") 330 }, { hash := 92, key := Value.int 92 332, val := Value.str (Str.ofString "\\\\") 336 },
        { hash := 46, key := Value.int 46 338, val := Value.str (Str.ofString "\\.") 342 }, { hash := 38, key := Value.int 38 344, val := Value.str (Str.ofString "\\&") 348 },
        { hash := 126, key := Value.int 126 350, val := Value.str (Str.ofString "\\~") 354 }, { hash := 35, key := Value.int 35 356, val := Value.str (Str.ofString "\\#") 360 },
        { hash := 32, key := Value.int 32 362, val := Value.str (Str.ofString "\\ ") 366 }, { hash := 9, key := Value.int 9 368, val := Value.str (Str.ofString "\\\t") 372 },
        { hash := 10, key := Value.int 10 374, val := Value.str (Str.ofString "\\\n") 378 }, { hash := 13, key := Value.int 13 380, val := Value.str (Str.ofString "\\\x0d") 384 },
        { hash := 11, key := Value.int 11 386, val := Value.str (Str.ofString "\\\x0b") 390 },
        { hash := 12, key := Value.int 12 392, val := Value.str (Str.ofString "\\\x0c") 396 }]
      24 }
def o_106 (P : Params) : Obj :=
{ cls := Value.type "dict", data := Data.dict #[] 2 }
def o_107 (P : Params) : Obj :=
{ cls := Value.type "tuple", data := Data.seq #[] }
def o_108 (P : Params) : Obj :=
{ cls := Value.type "StopIteration", data := Data.fields #[Value.ref 60, Value.none, Value.none, Value.none, Value.bool false, Value.none] }
def o_147 (P : Params) : Obj :=
{ cls := Value.none,
  data :=
    Data.dict
      #[{ hash := PyData.keyHash P (Str.ofString "type.__subclasses__.Exception.0"), key := Value.str (Str.ofString "type.__subclasses__.Exception.0") 435, val := Value.int 85 0 },
        { hash := PyData.keyHash P (Str.ofString "type.__subclasses__.Exception.n"), key := Value.str (Str.ofString "type.__subclasses__.Exception.n") 436, val := Value.int 1 0 }]
      2 }
def o_150 (P : Params) : Obj :=
{ cls := Value.type "tuple", data := Data.seq #[] }
def o_151 (P : Params) : Obj :=
{ cls := Value.none, data := Data.fields #[] }
def o_152 (P : Params) : Obj :=
{ cls := Value.type "tuple", data := Data.seq #[Value.str (Str.ofString "pattern") 402] }
def o_153 (P : Params) : Obj :=
{ cls := Value.type "tuple", data := Data.seq #[] }
def o_154 (P : Params) : Obj :=
{ cls := Value.none,
  data :=
    Data.func
      { name := Str.ofString "escape", qualname := Str.ofString "escape", params := Mine.hd.fArgs (Mine.hd.stm 4), body := Mine.hd.fBody (Mine.hd.stm 4),
        scope := Mine.hd.fScope (Mine.hd.stm 4), globals := 0, closure := [], defaults := Value.none, kwdefaults := Value.none } }
def o_155 (P : Params) : Obj :=
{ cls := Value.type "code",
  data :=
    Data.fields
      #[Value.str (Str.ofString "escape") 399, Value.str (Str.ofString "escape") 400, Value.str (Str.ofString "/claim/cut.py") 401, Value.int 52 0, Value.int 1 0, Value.int 0 0,
        Value.int 0 0, Value.int 3 0, Value.ref 62, Value.bool true, Value.int 181 0, Value.ref 63, Value.none, Value.ref 64, Value.ref 65, Value.ref 66, Value.int 403 0,
        Value.int 52 0, Value.str (Str.ofString "/claim/cut.py") 404] }
def o_156 (P : Params) : Obj :=
{ cls := Value.type "function",
  data :=
    Data.func
      { name := Str.ofString "escape", qualname := Str.ofString "escape", params := Mine.hd.fArgs (Mine.hd.stm 4), body := Mine.hd.fBody (Mine.hd.stm 4),
        scope := Mine.hd.fScope (Mine.hd.stm 4), globals := 3, closure := [], defaults := Value.none, kwdefaults := Value.none, pyModule := Value.str (Str.ofString "re") 251,
        code := Value.ref 67 } }
def o_157 (P : Params) : Obj :=
{ cls := Value.type "tuple", data := Data.seq #[] }
def o_158 (P : Params) : Obj :=
{ cls := Value.none, data := Data.fields #[] }
def o_159 (P : Params) : Obj :=
{ cls := Value.type "tuple", data := Data.seq #[Value.str (Str.ofString "path") 411, Value.str (Str.ofString "parts") 412, Value.str (Str.ofString "i") 413] }
def o_160 (P : Params) : Obj :=
{ cls := Value.type "tuple", data := Data.seq #[] }
def o_161 (P : Params) : Obj :=
{ cls := Value.none,
  data :=
    Data.func
      { name := Str.ofString "translate_pattern", qualname := Str.ofString "translate_pattern", params := Mine.hd.fArgs (Mine.hd.stm 6), body := Mine.hd.fBody (Mine.hd.stm 6),
        scope := Mine.hd.fScope (Mine.hd.stm 6), globals := 0, closure := [], defaults := Value.none, kwdefaults := Value.none } }
def o_162 (P : Params) : Obj :=
{ cls := Value.type "code",
  data :=
    Data.fields
      #[Value.str (Str.ofString "translate_pattern") 408, Value.str (Str.ofString "translate_pattern") 409, Value.str (Str.ofString "/claim/cut.py") 410, Value.int 59 0,
        Value.int 1 0, Value.int 0 0, Value.int 0 0, Value.int 3 0, Value.ref 69, Value.bool true, Value.int 181 0, Value.ref 70, Value.none, Value.ref 71, Value.ref 72,
        Value.ref 73, Value.int 414 0, Value.int 59 0, Value.str (Str.ofString "/claim/cut.py") 415] }
def o_163 (P : Params) : Obj :=
{ cls := Value.type "function",
  data :=
    Data.func
      { name := Str.ofString "translate_pattern", qualname := Str.ofString "translate_pattern", params := Mine.hd.fArgs (Mine.hd.stm 6), body := Mine.hd.fBody (Mine.hd.stm 6),
        scope := Mine.hd.fScope (Mine.hd.stm 6), globals := 3, closure := [], defaults := Value.none, kwdefaults := Value.none,
        pyModule := Value.str (Str.ofString "cpy313.urllib.robotparser") 406, code := Value.ref 74 } }
def o_164 (P : Params) : Obj :=
{ cls := Value.type "tuple", data := Data.seq #[Value.type "Exception"] }
def o_165 (P : Params) : Obj :=
{ cls := Value.type "builtin_function_or_method", data := Data.fields #[Value.builtin "type.__prepare__", Value.type "type"] }
def o_166 (P : Params) : Obj :=
{ cls := Value.type "dict",
  data :=
    Data.dict
      #[{ hash := PyData.keyHash P (Str.ofString "__module__"), key := Value.str (Str.ofString "__module__") 426, val := Value.str (Str.ofString "cpy313.ftplib") 417 },
        { hash := PyData.keyHash P (Str.ofString "__qualname__"), key := Value.str (Str.ofString "__qualname__") 428, val := Value.str (Str.ofString "Error") 427 },
        { hash := PyData.keyHash P (Str.ofString "__firstlineno__"), key := Value.str (Str.ofString "__firstlineno__") 430, val := Value.int 66 429 },
        { hash := PyData.keyHash P (Str.ofString "__static_attributes__"), key := Value.str (Str.ofString "__static_attributes__") 431, val := Value.ref 83 }]
      4 }
def o_167 (P : Params) : Obj :=
{ cls := Value.type "tuple", data := Data.seq #[] }
def o_168 (P : Params) : Obj :=
{ cls := Value.none, data := Data.fields #[] }
def o_169 (P : Params) : Obj :=
{ cls := Value.type "code",
  data :=
    Data.fields
      #[Value.str (Str.ofString "Error") 421, Value.str (Str.ofString "Error") 422, Value.str (Str.ofString "/claim/cut.py") 423, Value.int 66 0, Value.int 0 0, Value.int 0 0,
        Value.int 0 0, Value.int 0 0, Value.ref 79, Value.bool false, Value.int 181 0, Value.ref 80, Value.none, Value.none, Value.none, Value.none, Value.int 424 0,
        Value.int 66 0, Value.str (Str.ofString "/claim/cut.py") 425] }
def o_170 (P : Params) : Obj :=
{ cls := Value.type "frame",
  slots := #[some (Value.ref 81), some (Value.ref 3), some (Value.ref 78), none, some (Value.str (Str.ofString "cpy313.ftplib") 417), none, some (Value.ref 0)] }
def o_171 (P : Params) : Obj :=
{ cls := Value.type "tuple", data := Data.seq #[] }
def o_172 (P : Params) : Obj :=
{ cls := Value.type "dict",
  data :=
    Data.dict
      #[{ hash := PyData.keyHash P (Str.ofString "__module__"), key := Value.str (Str.ofString "__module__") 426, val := Value.str (Str.ofString "cpy313.ftplib") 417 },
        { hash := PyData.keyHash P (Str.ofString "__firstlineno__"), key := Value.str (Str.ofString "__firstlineno__") 430, val := Value.int 66 429 },
        { hash := PyData.keyHash P (Str.ofString "__static_attributes__"), key := Value.str (Str.ofString "__static_attributes__") 431, val := Value.ref 83 },
        { hash := PyData.keyHash P (Str.ofString "__weakref__"), key := Value.str (Str.ofString "__weakref__") 433, val := Value.ref 86 },
        { hash := PyData.keyHash P (Str.ofString "__doc__"), key := Value.str (Str.ofString "__doc__") 434, val := Value.none }]
      3 }
def o_174 (P : Params) : Obj :=
{ cls := Value.type "getset_descriptor", data := Data.fields #[Value.str (Str.ofString "__weakref__") 432, Value.ref 85, Value.builtin "ExceptionGroup.__weakref__", Value.none] }
def o_175 (P : Params) : Obj :=
{ cls := Value.type "super", data := Data.fields #[Value.ref 85, Value.ref 85, Value.ref 85] }
def o_176 (P : Params) : Obj :=
{ cls := Value.type "builtin_function_or_method", data := Data.fields #[Value.builtin "object.__init_subclass__", Value.ref 85] }
def o_179 (P : Params) : Obj :=
{ cls := Value.type "type",
  data :=
    Data.cls
      { name := Str.ofString "Error", bases := [Value.type "Exception"], mro := [Value.ref 85, Value.type "Exception", Value.type "BaseException", Value.type "object"], ns := 84,
        qualname := Str.ofString "Error", subclasses := [Value.ref 98] },
  slots :=
    #[some (Value.ref 76), none, some (Value.str (Str.ofString "Error") 419), some (Value.str (Str.ofString "Error") 427), some (Value.builtin "Exception.__new__"),
      some (Value.bool true)] }
def o_180 (P : Params) : Obj :=
{ cls := Value.type "tuple", data := Data.seq #[Value.ref 85] }
def o_181 (P : Params) : Obj :=
{ cls := Value.type "builtin_function_or_method", data := Data.fields #[Value.builtin "type.__prepare__", Value.type "type"] }
def o_182 (P : Params) : Obj :=
{ cls := Value.type "dict",
  data :=
    Data.dict
      #[{ hash := PyData.keyHash P (Str.ofString "__module__"), key := Value.str (Str.ofString "__module__") 446, val := Value.str (Str.ofString "cpy313.ftplib") 417 },
        { hash := PyData.keyHash P (Str.ofString "__qualname__"), key := Value.str (Str.ofString "__qualname__") 448, val := Value.str (Str.ofString "error_reply") 447 },
        { hash := PyData.keyHash P (Str.ofString "__firstlineno__"), key := Value.str (Str.ofString "__firstlineno__") 450, val := Value.int 68 449 },
        { hash := PyData.keyHash P (Str.ofString "__static_attributes__"), key := Value.str (Str.ofString "__static_attributes__") 451, val := Value.ref 96 }]
      4 }
def o_183 (P : Params) : Obj :=
{ cls := Value.type "tuple", data := Data.seq #[] }
def o_184 (P : Params) : Obj :=
{ cls := Value.none, data := Data.fields #[] }
def o_185 (P : Params) : Obj :=
{ cls := Value.type "code",
  data :=
    Data.fields
      #[Value.str (Str.ofString "error_reply") 441, Value.str (Str.ofString "error_reply") 442, Value.str (Str.ofString "/claim/cut.py") 443, Value.int 68 0, Value.int 0 0,
        Value.int 0 0, Value.int 0 0, Value.int 0 0, Value.ref 92, Value.bool false, Value.int 181 0, Value.ref 93, Value.none, Value.none, Value.none, Value.none, Value.int 444 0,
        Value.int 68 0, Value.str (Str.ofString "/claim/cut.py") 445] }
def o_186 (P : Params) : Obj :=
{ cls := Value.type "frame",
  slots := #[some (Value.ref 94), some (Value.ref 3), some (Value.ref 91), none, some (Value.str (Str.ofString "cpy313.ftplib") 417), none, some (Value.ref 0)] }
def o_187 (P : Params) : Obj :=
{ cls := Value.type "tuple", data := Data.seq #[] }
def o_188 (P : Params) : Obj :=
{ cls := Value.type "dict",
  data :=
    Data.dict
      #[{ hash := PyData.keyHash P (Str.ofString "__module__"), key := Value.str (Str.ofString "__module__") 446, val := Value.str (Str.ofString "cpy313.ftplib") 417 },
        { hash := PyData.keyHash P (Str.ofString "__firstlineno__"), key := Value.str (Str.ofString "__firstlineno__") 450, val := Value.int 68 449 },
        { hash := PyData.keyHash P (Str.ofString "__static_attributes__"), key := Value.str (Str.ofString "__static_attributes__") 451, val := Value.ref 96 },
        { hash := PyData.keyHash P (Str.ofString "__doc__"), key := Value.str (Str.ofString "__doc__") 452, val := Value.none }]
      2 }
def o_189 (P : Params) : Obj :=
{ cls := Value.type "type",
  data :=
    Data.cls
      { name := Str.ofString "error_reply", bases := [Value.ref 85], mro := [Value.ref 98, Value.ref 85, Value.type "Exception", Value.type "BaseException", Value.type "object"],
        ns := 97, qualname := Str.ofString "error_reply" },
  slots :=
    #[some (Value.ref 89), none, some (Value.str (Str.ofString "error_reply") 439), some (Value.str (Str.ofString "error_reply") 447), some (Value.builtin "Exception.__new__"),
      some (Value.bool true)] }
def o_190 (P : Params) : Obj :=
{ cls := Value.type "super", data := Data.fields #[Value.ref 98, Value.ref 98, Value.ref 98] }
def o_191 (P : Params) : Obj :=
{ cls := Value.type "builtin_function_or_method", data := Data.fields #[Value.builtin "object.__init_subclass__", Value.ref 98] }
def o_192 (P : Params) : Obj :=
{ cls := Value.type "tuple", data := Data.seq #[] }
def o_193 (P : Params) : Obj :=
{ cls := Value.none, data := Data.fields #[] }
def o_194 (P : Params) : Obj :=
{ cls := Value.type "tuple",
  data :=
    Data.seq
      #[Value.str (Str.ofString "resp") 458, Value.str (Str.ofString "dirname") 459, Value.str (Str.ofString "i") 460, Value.str (Str.ofString "n") 461,
        Value.str (Str.ofString "c") 462] }
def o_195 (P : Params) : Obj :=
{ cls := Value.type "tuple", data := Data.seq #[] }
def o_196 (P : Params) : Obj :=
{ cls := Value.none,
  data :=
    Data.func
      { name := Str.ofString "parse257", qualname := Str.ofString "parse257", params := Mine.hd.fArgs (Mine.hd.stm 10), body := Mine.hd.fBody (Mine.hd.stm 10),
        scope := Mine.hd.fScope (Mine.hd.stm 10), globals := 0, closure := [], defaults := Value.none, kwdefaults := Value.none } }
def o_197 (P : Params) : Obj :=
{ cls := Value.type "code",
  data :=
    Data.fields
      #[Value.str (Str.ofString "parse257") 455, Value.str (Str.ofString "parse257") 456, Value.str (Str.ofString "/claim/cut.py") 457, Value.int 70 0, Value.int 1 0,
        Value.int 0 0, Value.int 0 0, Value.int 3 0, Value.ref 101, Value.bool true, Value.int 181 0, Value.ref 102, Value.none, Value.ref 103, Value.ref 104, Value.ref 105,
        Value.int 463 0, Value.int 70 0, Value.str (Str.ofString "/claim/cut.py") 464] }
def o_198 (P : Params) : Obj :=
{ cls := Value.type "function",
  data :=
    Data.func
      { name := Str.ofString "parse257", qualname := Str.ofString "parse257", params := Mine.hd.fArgs (Mine.hd.stm 10), body := Mine.hd.fBody (Mine.hd.stm 10),
        scope := Mine.hd.fScope (Mine.hd.stm 10), globals := 3, closure := [], defaults := Value.none, kwdefaults := Value.none,
        pyModule := Value.str (Str.ofString "cpy313.ftplib") 417, code := Value.ref 106 } }
def o_199 (P : Params) : Obj :=
{ cls := Value.type "tuple", data := Data.seq #[] }
def o_200 (P : Params) : Obj :=
{ cls := Value.none, data := Data.fields #[] }
def o_201 (P : Params) : Obj :=
{ cls := Value.type "tuple", data := Data.seq #[Value.str (Str.ofString "script") 471, Value.str (Str.ofString "numbers") 472, Value.str (Str.ofString "k") 473] }
def o_202 (P : Params) : Obj :=
{ cls := Value.type "tuple", data := Data.seq #[] }
def o_203 (P : Params) : Obj :=
{ cls := Value.none,
  data :=
    Data.func
      { name := Str.ofString "_law_numbers", qualname := Str.ofString "_law_numbers", params := Mine.hd.fArgs (Mine.hd.stm 12), body := Mine.hd.fBody (Mine.hd.stm 12),
        scope := Mine.hd.fScope (Mine.hd.stm 12), globals := 0, closure := [], defaults := Value.none, kwdefaults := Value.none } }
def o_204 (P : Params) : Obj :=
{ cls := Value.type "code",
  data :=
    Data.fields
      #[Value.str (Str.ofString "_law_numbers") 468, Value.str (Str.ofString "_law_numbers") 469, Value.str (Str.ofString "/claim/cut.py") 470, Value.int 88 0, Value.int 1 0,
        Value.int 0 0, Value.int 0 0, Value.int 3 0, Value.ref 108, Value.bool true, Value.int 181 0, Value.ref 109, Value.none, Value.ref 110, Value.ref 111, Value.ref 112,
        Value.int 474 0, Value.int 88 0, Value.str (Str.ofString "/claim/cut.py") 475] }
def o_205 (P : Params) : Obj :=
{ cls := Value.type "function",
  data :=
    Data.func
      { name := Str.ofString "_law_numbers", qualname := Str.ofString "_law_numbers", params := Mine.hd.fArgs (Mine.hd.stm 12), body := Mine.hd.fBody (Mine.hd.stm 12),
        scope := Mine.hd.fScope (Mine.hd.stm 12), globals := 3, closure := [], defaults := Value.none, kwdefaults := Value.none,
        pyModule := Value.str (Str.ofString "law_ny0077_01") 466, code := Value.ref 113 } }
def o_206 (P : Params) : Obj :=
{ cls := Value.type "tuple", data := Data.seq #[] }
def o_207 (P : Params) : Obj :=
{ cls := Value.none, data := Data.fields #[] }
def o_208 (P : Params) : Obj :=
{ cls := Value.type "tuple",
  data := Data.seq #[Value.str (Str.ofString "number") 480, Value.str (Str.ofString "size") 481, Value.str (Str.ofString "name") 482, Value.str (Str.ofString "k") 483] }
def o_209 (P : Params) : Obj :=
{ cls := Value.type "tuple", data := Data.seq #[] }
def o_210 (P : Params) : Obj :=
{ cls := Value.none,
  data :=
    Data.func
      { name := Str.ofString "_law_name", qualname := Str.ofString "_law_name", params := Mine.hd.fArgs (Mine.hd.stm 13), body := Mine.hd.fBody (Mine.hd.stm 13),
        scope := Mine.hd.fScope (Mine.hd.stm 13), globals := 0, closure := [], defaults := Value.none, kwdefaults := Value.none } }
def o_211 (P : Params) : Obj :=
{ cls := Value.type "code",
  data :=
    Data.fields
      #[Value.str (Str.ofString "_law_name") 477, Value.str (Str.ofString "_law_name") 478, Value.str (Str.ofString "/claim/cut.py") 479, Value.int 93 0, Value.int 2 0,
        Value.int 0 0, Value.int 0 0, Value.int 3 0, Value.ref 115, Value.bool true, Value.int 181 0, Value.ref 116, Value.none, Value.ref 117, Value.ref 118, Value.ref 119,
        Value.int 484 0, Value.int 93 0, Value.str (Str.ofString "/claim/cut.py") 485] }
def o_212 (P : Params) : Obj :=
{ cls := Value.type "function",
  data :=
    Data.func
      { name := Str.ofString "_law_name", qualname := Str.ofString "_law_name", params := Mine.hd.fArgs (Mine.hd.stm 13), body := Mine.hd.fBody (Mine.hd.stm 13),
        scope := Mine.hd.fScope (Mine.hd.stm 13), globals := 3, closure := [], defaults := Value.none, kwdefaults := Value.none,
        pyModule := Value.str (Str.ofString "law_ny0077_01") 466, code := Value.ref 120 } }
def o_213 (P : Params) : Obj :=
{ cls := Value.type "tuple", data := Data.seq #[] }
def o_214 (P : Params) : Obj :=
{ cls := Value.none, data := Data.fields #[] }
def o_215 (P : Params) : Obj :=
{ cls := Value.type "tuple", data := Data.seq #[Value.str (Str.ofString "name") 490] }
def o_216 (P : Params) : Obj :=
{ cls := Value.type "tuple", data := Data.seq #[] }
def o_217 (P : Params) : Obj :=
{ cls := Value.none,
  data :=
    Data.func
      { name := Str.ofString "_law_doubled", qualname := Str.ofString "_law_doubled", params := Mine.hd.fArgs (Mine.hd.stm 14), body := Mine.hd.fBody (Mine.hd.stm 14),
        scope := Mine.hd.fScope (Mine.hd.stm 14), globals := 0, closure := [], defaults := Value.none, kwdefaults := Value.none } }
def o_218 (P : Params) : Obj :=
{ cls := Value.type "code",
  data :=
    Data.fields
      #[Value.str (Str.ofString "_law_doubled") 487, Value.str (Str.ofString "_law_doubled") 488, Value.str (Str.ofString "/claim/cut.py") 489, Value.int 99 0, Value.int 1 0,
        Value.int 0 0, Value.int 0 0, Value.int 3 0, Value.ref 122, Value.bool true, Value.int 181 0, Value.ref 123, Value.none, Value.ref 124, Value.ref 125, Value.ref 126,
        Value.int 491 0, Value.int 99 0, Value.str (Str.ofString "/claim/cut.py") 492] }
def o_219 (P : Params) : Obj :=
{ cls := Value.type "function",
  data :=
    Data.func
      { name := Str.ofString "_law_doubled", qualname := Str.ofString "_law_doubled", params := Mine.hd.fArgs (Mine.hd.stm 14), body := Mine.hd.fBody (Mine.hd.stm 14),
        scope := Mine.hd.fScope (Mine.hd.stm 14), globals := 3, closure := [], defaults := Value.none, kwdefaults := Value.none,
        pyModule := Value.str (Str.ofString "law_ny0077_01") 466, code := Value.ref 127 } }
def o_220 (P : Params) : Obj :=
{ cls := Value.type "tuple", data := Data.seq #[] }
def o_221 (P : Params) : Obj :=
{ cls := Value.none, data := Data.fields #[] }
def o_222 (P : Params) : Obj :=
{ cls := Value.type "tuple", data := Data.seq #[Value.str (Str.ofString "name") 497] }
def o_223 (P : Params) : Obj :=
{ cls := Value.type "tuple", data := Data.seq #[] }
def o_224 (P : Params) : Obj :=
{ cls := Value.none,
  data :=
    Data.func
      { name := Str.ofString "_law_pattern", qualname := Str.ofString "_law_pattern", params := Mine.hd.fArgs (Mine.hd.stm 15), body := Mine.hd.fBody (Mine.hd.stm 15),
        scope := Mine.hd.fScope (Mine.hd.stm 15), globals := 0, closure := [], defaults := Value.none, kwdefaults := Value.none } }
def o_225 (P : Params) : Obj :=
{ cls := Value.type "code",
  data :=
    Data.fields
      #[Value.str (Str.ofString "_law_pattern") 494, Value.str (Str.ofString "_law_pattern") 495, Value.str (Str.ofString "/claim/cut.py") 496, Value.int 101 0, Value.int 1 0,
        Value.int 0 0, Value.int 0 0, Value.int 3 0, Value.ref 129, Value.bool true, Value.int 181 0, Value.ref 130, Value.none, Value.ref 131, Value.ref 132, Value.ref 133,
        Value.int 498 0, Value.int 101 0, Value.str (Str.ofString "/claim/cut.py") 499] }
def o_226 (P : Params) : Obj :=
{ cls := Value.type "function",
  data :=
    Data.func
      { name := Str.ofString "_law_pattern", qualname := Str.ofString "_law_pattern", params := Mine.hd.fArgs (Mine.hd.stm 15), body := Mine.hd.fBody (Mine.hd.stm 15),
        scope := Mine.hd.fScope (Mine.hd.stm 15), globals := 3, closure := [], defaults := Value.none, kwdefaults := Value.none,
        pyModule := Value.str (Str.ofString "law_ny0077_01") 466, code := Value.ref 134 } }
def o_227 (P : Params) : Obj :=
{ cls := Value.type "dict",
  data :=
    Data.dict
      #[{ hash := PyData.keyHash P (Str.ofString "__name__"), key := Value.str (Str.ofString "__name__") 165, val := Value.str (Str.ofString "law_ny0077_01") 466 },
        { hash := PyData.keyHash P (Str.ofString "__doc__"), key := Value.str (Str.ofString "__doc__") 166, val := Value.none },
        { hash := PyData.keyHash P (Str.ofString "__package__"), key := Value.str (Str.ofString "__package__") 167, val := Value.none },
        { hash := PyData.keyHash P (Str.ofString "__loader__"), key := Value.str (Str.ofString "__loader__") 168, val := Value.builtin "__main__.__loader__#opaque" },
        { hash := PyData.keyHash P (Str.ofString "__spec__"), key := Value.str (Str.ofString "__spec__") 169, val := Value.none },
        { hash := PyData.keyHash P (Str.ofString "__annotations__"), key := Value.str (Str.ofString "__annotations__") 170, val := Value.ref 6 },
        { hash := PyData.keyHash P (Str.ofString "__builtins__"), key := Value.str (Str.ofString "__builtins__") 171, val := Value.ref 4 },
        { hash := PyData.keyHash P (Str.ofString "__file__"), key := Value.str (Str.ofString "__file__") 173, val := Value.str (Str.ofString "/claim/cut.py") 172 },
        { hash := PyData.keyHash P (Str.ofString "__cached__"), key := Value.str (Str.ofString "__cached__") 174, val := Value.none },
        { hash := PyData.keyHash P (Str.ofString "Entry"), key := Value.str (Str.ofString "Entry") 250, val := Value.ref 52 },
        { hash := PyData.keyHash P (Str.ofString "_special_chars_map"), key := Value.str (Str.ofString "_special_chars_map") 398, val := Value.ref 58 },
        { hash := PyData.keyHash P (Str.ofString "escape"), key := Value.str (Str.ofString "escape") 405, val := Value.ref 68 },
        { hash := PyData.keyHash P (Str.ofString "translate_pattern"), key := Value.str (Str.ofString "translate_pattern") 416, val := Value.ref 75 },
        { hash := PyData.keyHash P (Str.ofString "Error"), key := Value.str (Str.ofString "Error") 438, val := Value.ref 85 },
        { hash := PyData.keyHash P (Str.ofString "error_reply"), key := Value.str (Str.ofString "error_reply") 454, val := Value.ref 98 },
        { hash := PyData.keyHash P (Str.ofString "parse257"), key := Value.str (Str.ofString "parse257") 465, val := Value.ref 107 },
        { hash := PyData.keyHash P (Str.ofString "_law_numbers"), key := Value.str (Str.ofString "_law_numbers") 476, val := Value.ref 114 },
        { hash := PyData.keyHash P (Str.ofString "_law_name"), key := Value.str (Str.ofString "_law_name") 486, val := Value.ref 121 },
        { hash := PyData.keyHash P (Str.ofString "_law_doubled"), key := Value.str (Str.ofString "_law_doubled") 493, val := Value.ref 128 },
        { hash := PyData.keyHash P (Str.ofString "_law_pattern"), key := Value.str (Str.ofString "_law_pattern") 500, val := Value.ref 135 },
        { hash := PyData.keyHash P (Str.ofString "_law_rule"), key := Value.str (Str.ofString "_law_rule") 510, val := Value.ref 142 },
        { hash := PyData.keyHash P (Str.ofString "_law_record"), key := Value.str (Str.ofString "_law_record") 520, val := Value.ref 149 },
        { hash := PyData.keyHash P (Str.ofString "_law_come"), key := Value.str (Str.ofString "_law_come") 530, val := Value.ref 156 },
        { hash := PyData.keyHash P (Str.ofString "_law_due"), key := Value.str (Str.ofString "_law_due") 536, val := Value.ref 161 },
        { hash := PyData.keyHash P (Str.ofString "law"), key := Value.str (Str.ofString "law") 542, val := Value.ref 166 }]
      25 }
def o_228 (P : Params) : Obj :=
{ cls := Value.none,
  data :=
    Data.fields
      #[Value.int 2 0, Value.int 0 0, Value.ref 20, Value.int 52 0, Value.int 0 0, Value.ref 67, Value.int 59 0, Value.int 0 0, Value.ref 74, Value.int 66 0, Value.int 0 0,
        Value.ref 81, Value.int 68 0, Value.int 0 0, Value.ref 94, Value.int 70 0, Value.int 0 0, Value.ref 106, Value.int 88 0, Value.int 0 0, Value.ref 113, Value.int 93 0,
        Value.int 0 0, Value.ref 120, Value.int 99 0, Value.int 0 0, Value.ref 127, Value.int 101 0, Value.int 0 0, Value.ref 134, Value.int 103 0, Value.int 0 0, Value.ref 141,
        Value.int 108 0, Value.int 0 0, Value.ref 148, Value.int 114 0, Value.int 0 0, Value.ref 155, Value.int 122 0, Value.int 0 0, Value.ref 160, Value.int 137 0, Value.int 0 0,
        Value.ref 165] }
def o_229 (P : Params) : Obj :=
{ cls := Value.type "tuple", data := Data.seq #[] }
def o_230 (P : Params) : Obj :=
{ cls := Value.none, data := Data.fields #[] }
def o_231 (P : Params) : Obj :=
{ cls := Value.type "tuple", data := Data.seq #[Value.str (Str.ofString "path") 504, Value.str (Str.ofString "verdict") 505, Value.str (Str.ofString "rule") 506] }
def o_232 (P : Params) : Obj :=
{ cls := Value.type "tuple", data := Data.seq #[Value.str (Str.ofString "path") 507] }
def o_233 (P : Params) : Obj :=
{ cls := Value.none,
  data :=
    Data.func
      { name := Str.ofString "_law_rule", qualname := Str.ofString "_law_rule", params := Mine.hd.fArgs (Mine.hd.stm 16), body := Mine.hd.fBody (Mine.hd.stm 16),
        scope := Mine.hd.fScope (Mine.hd.stm 16), globals := 0, closure := [], defaults := Value.none, kwdefaults := Value.none } }
def o_234 (P : Params) : Obj :=
{ cls := Value.type "code",
  data :=
    Data.fields
      #[Value.str (Str.ofString "_law_rule") 501, Value.str (Str.ofString "_law_rule") 502, Value.str (Str.ofString "/claim/cut.py") 503, Value.int 103 0, Value.int 2 0,
        Value.int 0 0, Value.int 0 0, Value.int 3 0, Value.ref 136, Value.bool true, Value.int 181 0, Value.ref 137, Value.none, Value.ref 138, Value.ref 139, Value.ref 140,
        Value.int 508 0, Value.int 103 0, Value.str (Str.ofString "/claim/cut.py") 509] }
def o_235 (P : Params) : Obj :=
{ cls := Value.type "function",
  data :=
    Data.func
      { name := Str.ofString "_law_rule", qualname := Str.ofString "_law_rule", params := Mine.hd.fArgs (Mine.hd.stm 16), body := Mine.hd.fBody (Mine.hd.stm 16),
        scope := Mine.hd.fScope (Mine.hd.stm 16), globals := 3, closure := [], defaults := Value.none, kwdefaults := Value.none,
        pyModule := Value.str (Str.ofString "law_ny0077_01") 466, code := Value.ref 141 } }
def o_236 (P : Params) : Obj :=
{ cls := Value.type "tuple", data := Data.seq #[] }
def o_237 (P : Params) : Obj :=
{ cls := Value.none, data := Data.fields #[] }
def o_238 (P : Params) : Obj :=
{ cls := Value.type "tuple",
  data := Data.seq #[Value.str (Str.ofString "names") 514, Value.str (Str.ofString "verdicts") 515, Value.str (Str.ofString "record") 516, Value.str (Str.ofString "k") 517] }
def o_239 (P : Params) : Obj :=
{ cls := Value.type "tuple", data := Data.seq #[] }
def o_240 (P : Params) : Obj :=
{ cls := Value.none,
  data :=
    Data.func
      { name := Str.ofString "_law_record", qualname := Str.ofString "_law_record", params := Mine.hd.fArgs (Mine.hd.stm 17), body := Mine.hd.fBody (Mine.hd.stm 17),
        scope := Mine.hd.fScope (Mine.hd.stm 17), globals := 0, closure := [], defaults := Value.none, kwdefaults := Value.none } }
def o_241 (P : Params) : Obj :=
{ cls := Value.type "code",
  data :=
    Data.fields
      #[Value.str (Str.ofString "_law_record") 511, Value.str (Str.ofString "_law_record") 512, Value.str (Str.ofString "/claim/cut.py") 513, Value.int 108 0, Value.int 2 0,
        Value.int 0 0, Value.int 0 0, Value.int 3 0, Value.ref 143, Value.bool true, Value.int 181 0, Value.ref 144, Value.none, Value.ref 145, Value.ref 146, Value.ref 147,
        Value.int 518 0, Value.int 108 0, Value.str (Str.ofString "/claim/cut.py") 519] }
def o_242 (P : Params) : Obj :=
{ cls := Value.type "function",
  data :=
    Data.func
      { name := Str.ofString "_law_record", qualname := Str.ofString "_law_record", params := Mine.hd.fArgs (Mine.hd.stm 17), body := Mine.hd.fBody (Mine.hd.stm 17),
        scope := Mine.hd.fScope (Mine.hd.stm 17), globals := 3, closure := [], defaults := Value.none, kwdefaults := Value.none,
        pyModule := Value.str (Str.ofString "law_ny0077_01") 466, code := Value.ref 148 } }
def o_243 (P : Params) : Obj :=
{ cls := Value.type "tuple", data := Data.seq #[] }
def o_244 (P : Params) : Obj :=
{ cls := Value.none, data := Data.fields #[] }
def o_245 (P : Params) : Obj :=
{ cls := Value.type "tuple",
  data := Data.seq #[Value.str (Str.ofString "name") 524, Value.str (Str.ofString "size") 525, Value.str (Str.ofString "whole") 526, Value.str (Str.ofString "sign") 527] }
def o_246 (P : Params) : Obj :=
{ cls := Value.type "tuple", data := Data.seq #[] }
def o_247 (P : Params) : Obj :=
{ cls := Value.none,
  data :=
    Data.func
      { name := Str.ofString "_law_come", qualname := Str.ofString "_law_come", params := Mine.hd.fArgs (Mine.hd.stm 18), body := Mine.hd.fBody (Mine.hd.stm 18),
        scope := Mine.hd.fScope (Mine.hd.stm 18), globals := 0, closure := [], defaults := Value.none, kwdefaults := Value.none } }
def o_248 (P : Params) : Obj :=
{ cls := Value.type "code",
  data :=
    Data.fields
      #[Value.str (Str.ofString "_law_come") 521, Value.str (Str.ofString "_law_come") 522, Value.str (Str.ofString "/claim/cut.py") 523, Value.int 114 0, Value.int 2 0,
        Value.int 0 0, Value.int 0 0, Value.int 3 0, Value.ref 150, Value.bool true, Value.int 181 0, Value.ref 151, Value.none, Value.ref 152, Value.ref 153, Value.ref 154,
        Value.int 528 0, Value.int 114 0, Value.str (Str.ofString "/claim/cut.py") 529] }
def o_249 (P : Params) : Obj :=
{ cls := Value.type "function",
  data :=
    Data.func
      { name := Str.ofString "_law_come", qualname := Str.ofString "_law_come", params := Mine.hd.fArgs (Mine.hd.stm 18), body := Mine.hd.fBody (Mine.hd.stm 18),
        scope := Mine.hd.fScope (Mine.hd.stm 18), globals := 3, closure := [], defaults := Value.none, kwdefaults := Value.none,
        pyModule := Value.str (Str.ofString "law_ny0077_01") 466, code := Value.ref 155 } }
def o_250 (P : Params) : Obj :=
{ cls := Value.type "tuple", data := Data.seq #[] }
def o_251 (P : Params) : Obj :=
{ cls := Value.none, data := Data.fields #[] }
def o_252 (P : Params) : Obj :=
{ cls := Value.none,
  data :=
    Data.func
      { name := Str.ofString "_law_due", qualname := Str.ofString "_law_due", params := Mine.hd.fArgs (Mine.hd.stm 19), body := Mine.hd.fBody (Mine.hd.stm 19),
        scope := Mine.hd.fScope (Mine.hd.stm 19), globals := 0, closure := [], defaults := Value.none, kwdefaults := Value.none } }
def o_253 (P : Params) : Obj :=
{ cls := Value.type "code",
  data :=
    Data.fields
      #[Value.str (Str.ofString "_law_due") 531, Value.str (Str.ofString "_law_due") 532, Value.str (Str.ofString "/claim/cut.py") 533, Value.int 122 0, Value.int 3 0,
        Value.int 0 0, Value.int 0 0, Value.int 3 0, Value.ref 157, Value.bool true, Value.int 181 0, Value.ref 158, Value.none, Value.none, Value.none, Value.ref 159,
        Value.int 534 0, Value.int 122 0, Value.str (Str.ofString "/claim/cut.py") 535] }
def o_254 (P : Params) : Obj :=
{ cls := Value.type "function",
  data :=
    Data.func
      { name := Str.ofString "_law_due", qualname := Str.ofString "_law_due", params := Mine.hd.fArgs (Mine.hd.stm 19), body := Mine.hd.fBody (Mine.hd.stm 19),
        scope := Mine.hd.fScope (Mine.hd.stm 19), globals := 3, closure := [], defaults := Value.none, kwdefaults := Value.none,
        pyModule := Value.str (Str.ofString "law_ny0077_01") 466, code := Value.ref 160 } }
def o_255 (P : Params) : Obj :=
{ cls := Value.type "tuple", data := Data.seq #[] }
def o_256 (P : Params) : Obj :=
{ cls := Value.none, data := Data.fields #[] }
def o_257 (P : Params) : Obj :=
{ cls := Value.none,
  data :=
    Data.func
      { name := Str.ofString "law", qualname := Str.ofString "law", params := Mine.hd.fArgs (Mine.hd.stm 20), body := Mine.hd.fBody (Mine.hd.stm 20),
        scope := Mine.hd.fScope (Mine.hd.stm 20), globals := 0, closure := [], defaults := Value.none, kwdefaults := Value.none } }
def o_258 (P : Params) : Obj :=
{ cls := Value.type "code",
  data :=
    Data.fields
      #[Value.str (Str.ofString "law") 537, Value.str (Str.ofString "law") 538, Value.str (Str.ofString "/claim/cut.py") 539, Value.int 137 0, Value.int 1 0, Value.int 0 0,
        Value.int 0 0, Value.int 3 0, Value.ref 162, Value.bool true, Value.int 181 0, Value.ref 163, Value.none, Value.none, Value.none, Value.ref 164, Value.int 540 0,
        Value.int 137 0, Value.str (Str.ofString "/claim/cut.py") 541] }
def o_259 (P : Params) : Obj :=
{ cls := Value.type "function",
  data :=
    Data.func
      { name := Str.ofString "law", qualname := Str.ofString "law", params := Mine.hd.fArgs (Mine.hd.stm 20), body := Mine.hd.fBody (Mine.hd.stm 20),
        scope := Mine.hd.fScope (Mine.hd.stm 20), globals := 3, closure := [], defaults := Value.none, kwdefaults := Value.none,
        pyModule := Value.str (Str.ofString "law_ny0077_01") 466, code := Value.ref 165 } }
def heap_56 (P : Params) : Heap :=
{
  objs :=
    {
      toList :=
        [boot_o_0 P, boot_o_1 P, boot_o_2 P, boot_o_3 P, boot_o_4 P, boot_o_5 P, boot_o_6 P, boot_o_7 P, boot_o_8 P, boot_o_9 P, boot_o_10 P, Mine.hd.o_53 P, Mine.hd.o_54 P,
          Mine.hd.o_55 P, Mine.hd.o_56 P] } }
def tree_57 (P : Params) : BT :=
BT.node (boot_o_0 P)
  (BT.node (boot_o_1 P) (BT.node (boot_o_3 P) (BT.node (boot_o_7 P) BT.nil BT.nil) (BT.node (Mine.hd.o_53 P) BT.nil BT.nil))
    (BT.node (boot_o_5 P) (BT.node (boot_o_9 P) BT.nil BT.nil) (BT.node (Mine.hd.o_55 P) BT.nil BT.nil)))
  (BT.node (boot_o_2 P) (BT.node (boot_o_4 P) (BT.node (boot_o_8 P) BT.nil BT.nil) (BT.node (Mine.hd.o_54 P) BT.nil BT.nil))
    (BT.node (boot_o_6 P) (BT.node (boot_o_10 P) BT.nil BT.nil) (BT.node (Mine.hd.o_56 P) BT.nil BT.nil)))
def tree_102 (P : Params) : BT :=
BT.node (boot_o_0 P)
  (BT.node (boot_o_1 P)
    (BT.node (Mine.hd.o_59 P)
      (BT.node (boot_o_7 P) (BT.node (Mine.hd.o_61 P) (BT.node (Mine.hd.o_77 P) BT.nil BT.nil) (BT.node (Mine.hd.o_93 P) BT.nil BT.nil))
        (BT.node (Mine.hd.o_69 P) (BT.node (Mine.hd.o_85 P) BT.nil BT.nil) (BT.node (Mine.hd.o_101 P) BT.nil BT.nil)))
      (BT.node (Mine.hd.o_53 P) (BT.node (Mine.hd.o_65 P) (BT.node (Mine.hd.o_81 P) BT.nil BT.nil) (BT.node (Mine.hd.o_97 P) BT.nil BT.nil))
        (BT.node (Mine.hd.o_73 P) (BT.node (Mine.hd.o_89 P) BT.nil BT.nil) BT.nil)))
    (BT.node (boot_o_5 P)
      (BT.node (boot_o_9 P) (BT.node (Mine.hd.o_63 P) (BT.node (Mine.hd.o_79 P) BT.nil BT.nil) (BT.node (Mine.hd.o_95 P) BT.nil BT.nil))
        (BT.node (Mine.hd.o_71 P) (BT.node (Mine.hd.o_87 P) BT.nil BT.nil) BT.nil))
      (BT.node (Mine.hd.o_55 P) (BT.node (Mine.hd.o_67 P) (BT.node (Mine.hd.o_83 P) BT.nil BT.nil) (BT.node (Mine.hd.o_99 P) BT.nil BT.nil))
        (BT.node (Mine.hd.o_75 P) (BT.node (Mine.hd.o_91 P) BT.nil BT.nil) BT.nil))))
  (BT.node (boot_o_2 P)
    (BT.node (boot_o_4 P)
      (BT.node (boot_o_8 P) (BT.node (Mine.hd.o_62 P) (BT.node (Mine.hd.o_78 P) BT.nil BT.nil) (BT.node (Mine.hd.o_94 P) BT.nil BT.nil))
        (BT.node (Mine.hd.o_70 P) (BT.node (Mine.hd.o_86 P) BT.nil BT.nil) (BT.node (Mine.hd.o_102 P) BT.nil BT.nil)))
      (BT.node (Mine.hd.o_60 P) (BT.node (Mine.hd.o_66 P) (BT.node (Mine.hd.o_82 P) BT.nil BT.nil) (BT.node (Mine.hd.o_98 P) BT.nil BT.nil))
        (BT.node (Mine.hd.o_74 P) (BT.node (Mine.hd.o_90 P) BT.nil BT.nil) BT.nil)))
    (BT.node (boot_o_6 P)
      (BT.node (boot_o_10 P) (BT.node (Mine.hd.o_64 P) (BT.node (Mine.hd.o_80 P) BT.nil BT.nil) (BT.node (Mine.hd.o_96 P) BT.nil BT.nil))
        (BT.node (Mine.hd.o_72 P) (BT.node (Mine.hd.o_88 P) BT.nil BT.nil) BT.nil))
      (BT.node (Mine.hd.o_56 P) (BT.node (Mine.hd.o_68 P) (BT.node (Mine.hd.o_84 P) BT.nil BT.nil) (BT.node (Mine.hd.o_100 P) BT.nil BT.nil))
        (BT.node (Mine.hd.o_76 P) (BT.node (Mine.hd.o_92 P) BT.nil BT.nil) BT.nil))))
def tree_108 (P : Params) : BT :=
BT.node (boot_o_0 P)
  (BT.node (boot_o_1 P)
    (BT.node (Mine.hd.o_103 P)
      (BT.node (boot_o_7 P) (BT.node (Mine.hd.o_61 P) (BT.node (Mine.hd.o_77 P) BT.nil BT.nil) (BT.node (Mine.hd.o_93 P) BT.nil BT.nil))
        (BT.node (Mine.hd.o_69 P) (BT.node (Mine.hd.o_85 P) BT.nil BT.nil) (BT.node (Mine.hd.o_101 P) BT.nil BT.nil)))
      (BT.node (Mine.hd.o_53 P) (BT.node (Mine.hd.o_65 P) (BT.node (Mine.hd.o_81 P) BT.nil BT.nil) (BT.node (Mine.hd.o_97 P) BT.nil BT.nil))
        (BT.node (Mine.hd.o_73 P) (BT.node (Mine.hd.o_89 P) BT.nil BT.nil) (BT.node (Mine.hd.o_106 P) BT.nil BT.nil))))
    (BT.node (boot_o_5 P)
      (BT.node (boot_o_9 P) (BT.node (Mine.hd.o_63 P) (BT.node (Mine.hd.o_79 P) BT.nil BT.nil) (BT.node (Mine.hd.o_95 P) BT.nil BT.nil))
        (BT.node (Mine.hd.o_71 P) (BT.node (Mine.hd.o_87 P) BT.nil BT.nil) (BT.node (Mine.hd.o_104 P) BT.nil BT.nil)))
      (BT.node (Mine.hd.o_55 P) (BT.node (Mine.hd.o_67 P) (BT.node (Mine.hd.o_83 P) BT.nil BT.nil) (BT.node (Mine.hd.o_99 P) BT.nil BT.nil))
        (BT.node (Mine.hd.o_75 P) (BT.node (Mine.hd.o_91 P) BT.nil BT.nil) (BT.node (Mine.hd.o_108 P) BT.nil BT.nil)))))
  (BT.node (boot_o_2 P)
    (BT.node (boot_o_4 P)
      (BT.node (boot_o_8 P) (BT.node (Mine.hd.o_62 P) (BT.node (Mine.hd.o_78 P) BT.nil BT.nil) (BT.node (Mine.hd.o_94 P) BT.nil BT.nil))
        (BT.node (Mine.hd.o_70 P) (BT.node (Mine.hd.o_86 P) BT.nil BT.nil) (BT.node (Mine.hd.o_102 P) BT.nil BT.nil)))
      (BT.node (Mine.hd.o_60 P) (BT.node (Mine.hd.o_66 P) (BT.node (Mine.hd.o_82 P) BT.nil BT.nil) (BT.node (Mine.hd.o_98 P) BT.nil BT.nil))
        (BT.node (Mine.hd.o_74 P) (BT.node (Mine.hd.o_90 P) BT.nil BT.nil) (BT.node (Mine.hd.o_107 P) BT.nil BT.nil))))
    (BT.node (boot_o_6 P)
      (BT.node (boot_o_10 P) (BT.node (Mine.hd.o_64 P) (BT.node (Mine.hd.o_80 P) BT.nil BT.nil) (BT.node (Mine.hd.o_96 P) BT.nil BT.nil))
        (BT.node (Mine.hd.o_72 P) (BT.node (Mine.hd.o_88 P) BT.nil BT.nil) (BT.node (Mine.hd.o_105 P) BT.nil BT.nil)))
      (BT.node (Mine.hd.o_56 P) (BT.node (Mine.hd.o_68 P) (BT.node (Mine.hd.o_84 P) BT.nil BT.nil) (BT.node (Mine.hd.o_100 P) BT.nil BT.nil))
        (BT.node (Mine.hd.o_76 P) (BT.node (Mine.hd.o_92 P) BT.nil BT.nil) BT.nil))))
def tree_259 (P : Params) : BT :=
BT.node (boot_o_0 P)
  (BT.node (boot_o_1 P)
    (BT.node (Mine.hd.o_227 P)
      (BT.node (boot_o_7 P)
        (BT.node (Mine.hd.o_61 P)
          (BT.node (Mine.hd.o_77 P) (BT.node (Mine.hd.o_151 P) (BT.node (Mine.hd.o_218 P) BT.nil BT.nil) BT.nil)
            (BT.node (Mine.hd.o_186 P) (BT.node (Mine.hd.o_252 P) BT.nil BT.nil) BT.nil))
          (BT.node (Mine.hd.o_93 P) (BT.node (Mine.hd.o_167 P) (BT.node (Mine.hd.o_236 P) BT.nil BT.nil) BT.nil) (BT.node (Mine.hd.o_202 P) BT.nil BT.nil)))
        (BT.node (Mine.hd.o_69 P) (BT.node (Mine.hd.o_85 P) (BT.node (Mine.hd.o_159 P) (BT.node (Mine.hd.o_226 P) BT.nil BT.nil) BT.nil) (BT.node (Mine.hd.o_194 P) BT.nil BT.nil))
          (BT.node (Mine.hd.o_101 P) (BT.node (Mine.hd.o_175 P) (BT.node (Mine.hd.o_244 P) BT.nil BT.nil) BT.nil) (BT.node (Mine.hd.o_210 P) BT.nil BT.nil))))
      (BT.node (Mine.hd.o_53 P)
        (BT.node (Mine.hd.o_65 P)
          (BT.node (Mine.hd.o_81 P) (BT.node (Mine.hd.o_155 P) (BT.node (Mine.hd.o_222 P) BT.nil BT.nil) BT.nil)
            (BT.node (Mine.hd.o_190 P) (BT.node (Mine.hd.o_256 P) BT.nil BT.nil) BT.nil))
          (BT.node (Mine.hd.o_97 P) (BT.node (Mine.hd.o_171 P) (BT.node (Mine.hd.o_240 P) BT.nil BT.nil) BT.nil) (BT.node (Mine.hd.o_206 P) BT.nil BT.nil)))
        (BT.node (Mine.hd.o_73 P) (BT.node (Mine.hd.o_89 P) (BT.node (Mine.hd.o_163 P) (BT.node (Mine.hd.o_232 P) BT.nil BT.nil) BT.nil) (BT.node (Mine.hd.o_198 P) BT.nil BT.nil))
          (BT.node (Mine.hd.o_106 P) (BT.node (Mine.hd.o_182 P) (BT.node (Mine.hd.o_248 P) BT.nil BT.nil) BT.nil) (BT.node (Mine.hd.o_214 P) BT.nil BT.nil)))))
    (BT.node (boot_o_5 P)
      (BT.node (boot_o_9 P)
        (BT.node (Mine.hd.o_63 P)
          (BT.node (Mine.hd.o_79 P) (BT.node (Mine.hd.o_153 P) (BT.node (Mine.hd.o_220 P) BT.nil BT.nil) BT.nil)
            (BT.node (Mine.hd.o_188 P) (BT.node (Mine.hd.o_254 P) BT.nil BT.nil) BT.nil))
          (BT.node (Mine.hd.o_95 P) (BT.node (Mine.hd.o_169 P) (BT.node (Mine.hd.o_238 P) BT.nil BT.nil) BT.nil) (BT.node (Mine.hd.o_204 P) BT.nil BT.nil)))
        (BT.node (Mine.hd.o_71 P) (BT.node (Mine.hd.o_87 P) (BT.node (Mine.hd.o_161 P) (BT.node (Mine.hd.o_230 P) BT.nil BT.nil) BT.nil) (BT.node (Mine.hd.o_196 P) BT.nil BT.nil))
          (BT.node (Mine.hd.o_104 P) (BT.node (Mine.hd.o_180 P) (BT.node (Mine.hd.o_246 P) BT.nil BT.nil) BT.nil) (BT.node (Mine.hd.o_212 P) BT.nil BT.nil))))
      (BT.node (Mine.hd.o_55 P)
        (BT.node (Mine.hd.o_67 P)
          (BT.node (Mine.hd.o_83 P) (BT.node (Mine.hd.o_157 P) (BT.node (Mine.hd.o_224 P) BT.nil BT.nil) BT.nil)
            (BT.node (Mine.hd.o_192 P) (BT.node (Mine.hd.o_258 P) BT.nil BT.nil) BT.nil))
          (BT.node (Mine.hd.o_99 P) (BT.node (Mine.hd.o_179 P) (BT.node (Mine.hd.o_242 P) BT.nil BT.nil) BT.nil) (BT.node (Mine.hd.o_208 P) BT.nil BT.nil)))
        (BT.node (Mine.hd.o_75 P) (BT.node (Mine.hd.o_91 P) (BT.node (Mine.hd.o_165 P) (BT.node (Mine.hd.o_234 P) BT.nil BT.nil) BT.nil) (BT.node (Mine.hd.o_200 P) BT.nil BT.nil))
          (BT.node (Mine.hd.o_108 P) (BT.node (Mine.hd.o_184 P) (BT.node (Mine.hd.o_250 P) BT.nil BT.nil) BT.nil) (BT.node (Mine.hd.o_216 P) BT.nil BT.nil))))))
  (BT.node (Mine.hd.o_147 P)
    (BT.node (boot_o_4 P)
      (BT.node (boot_o_8 P)
        (BT.node (Mine.hd.o_62 P)
          (BT.node (Mine.hd.o_78 P) (BT.node (Mine.hd.o_152 P) (BT.node (Mine.hd.o_219 P) BT.nil BT.nil) BT.nil)
            (BT.node (Mine.hd.o_187 P) (BT.node (Mine.hd.o_253 P) BT.nil BT.nil) BT.nil))
          (BT.node (Mine.hd.o_94 P) (BT.node (Mine.hd.o_168 P) (BT.node (Mine.hd.o_237 P) BT.nil BT.nil) BT.nil) (BT.node (Mine.hd.o_203 P) BT.nil BT.nil)))
        (BT.node (Mine.hd.o_70 P) (BT.node (Mine.hd.o_86 P) (BT.node (Mine.hd.o_160 P) (BT.node (Mine.hd.o_229 P) BT.nil BT.nil) BT.nil) (BT.node (Mine.hd.o_195 P) BT.nil BT.nil))
          (BT.node (Mine.hd.o_102 P) (BT.node (Mine.hd.o_176 P) (BT.node (Mine.hd.o_245 P) BT.nil BT.nil) BT.nil) (BT.node (Mine.hd.o_211 P) BT.nil BT.nil))))
      (BT.node (Mine.hd.o_228 P)
        (BT.node (Mine.hd.o_66 P)
          (BT.node (Mine.hd.o_82 P) (BT.node (Mine.hd.o_156 P) (BT.node (Mine.hd.o_223 P) BT.nil BT.nil) BT.nil)
            (BT.node (Mine.hd.o_191 P) (BT.node (Mine.hd.o_257 P) BT.nil BT.nil) BT.nil))
          (BT.node (Mine.hd.o_98 P) (BT.node (Mine.hd.o_172 P) (BT.node (Mine.hd.o_241 P) BT.nil BT.nil) BT.nil) (BT.node (Mine.hd.o_207 P) BT.nil BT.nil)))
        (BT.node (Mine.hd.o_74 P) (BT.node (Mine.hd.o_90 P) (BT.node (Mine.hd.o_164 P) (BT.node (Mine.hd.o_233 P) BT.nil BT.nil) BT.nil) (BT.node (Mine.hd.o_199 P) BT.nil BT.nil))
          (BT.node (Mine.hd.o_107 P) (BT.node (Mine.hd.o_183 P) (BT.node (Mine.hd.o_249 P) BT.nil BT.nil) BT.nil) (BT.node (Mine.hd.o_215 P) BT.nil BT.nil)))))
    (BT.node (boot_o_6 P)
      (BT.node (boot_o_10 P)
        (BT.node (Mine.hd.o_64 P)
          (BT.node (Mine.hd.o_80 P) (BT.node (Mine.hd.o_154 P) (BT.node (Mine.hd.o_221 P) BT.nil BT.nil) BT.nil)
            (BT.node (Mine.hd.o_189 P) (BT.node (Mine.hd.o_255 P) BT.nil BT.nil) BT.nil))
          (BT.node (Mine.hd.o_96 P) (BT.node (Mine.hd.o_170 P) (BT.node (Mine.hd.o_239 P) BT.nil BT.nil) BT.nil) (BT.node (Mine.hd.o_205 P) BT.nil BT.nil)))
        (BT.node (Mine.hd.o_72 P) (BT.node (Mine.hd.o_88 P) (BT.node (Mine.hd.o_162 P) (BT.node (Mine.hd.o_231 P) BT.nil BT.nil) BT.nil) (BT.node (Mine.hd.o_197 P) BT.nil BT.nil))
          (BT.node (Mine.hd.o_105 P) (BT.node (Mine.hd.o_181 P) (BT.node (Mine.hd.o_247 P) BT.nil BT.nil) BT.nil) (BT.node (Mine.hd.o_213 P) BT.nil BT.nil))))
      (BT.node (Mine.hd.o_56 P)
        (BT.node (Mine.hd.o_68 P)
          (BT.node (Mine.hd.o_84 P) (BT.node (Mine.hd.o_158 P) (BT.node (Mine.hd.o_225 P) BT.nil BT.nil) BT.nil)
            (BT.node (Mine.hd.o_193 P) (BT.node (Mine.hd.o_259 P) BT.nil BT.nil) BT.nil))
          (BT.node (Mine.hd.o_100 P) (BT.node (Mine.hd.o_174 P) (BT.node (Mine.hd.o_243 P) BT.nil BT.nil) BT.nil) (BT.node (Mine.hd.o_209 P) BT.nil BT.nil)))
        (BT.node (Mine.hd.o_76 P) (BT.node (Mine.hd.o_92 P) (BT.node (Mine.hd.o_166 P) (BT.node (Mine.hd.o_235 P) BT.nil BT.nil) BT.nil) (BT.node (Mine.hd.o_201 P) BT.nil BT.nil))
          (BT.node (Mine.hd.o_150 P) (BT.node (Mine.hd.o_185 P) (BT.node (Mine.hd.o_251 P) BT.nil BT.nil) BT.nil) (BT.node (Mine.hd.o_217 P) BT.nil BT.nil))))))
def heap_260 (P : Params) : Heap :=
{
  objs :=
    {
      toList :=
        [boot_o_0 P, boot_o_1 P, Mine.hd.o_147 P, Mine.hd.o_227 P, boot_o_4 P, boot_o_5 P, boot_o_6 P, boot_o_7 P, boot_o_8 P, boot_o_9 P, boot_o_10 P, Mine.hd.o_53 P,
          Mine.hd.o_228 P, Mine.hd.o_55 P, Mine.hd.o_56 P, Mine.hd.o_61 P, Mine.hd.o_62 P, Mine.hd.o_63 P, Mine.hd.o_64 P, Mine.hd.o_65 P, Mine.hd.o_66 P, Mine.hd.o_67 P,
          Mine.hd.o_68 P, Mine.hd.o_69 P, Mine.hd.o_70 P, Mine.hd.o_71 P, Mine.hd.o_72 P, Mine.hd.o_73 P, Mine.hd.o_74 P, Mine.hd.o_75 P, Mine.hd.o_76 P, Mine.hd.o_77 P,
          Mine.hd.o_78 P, Mine.hd.o_79 P, Mine.hd.o_80 P, Mine.hd.o_81 P, Mine.hd.o_82 P, Mine.hd.o_83 P, Mine.hd.o_84 P, Mine.hd.o_85 P, Mine.hd.o_86 P, Mine.hd.o_87 P,
          Mine.hd.o_88 P, Mine.hd.o_89 P, Mine.hd.o_90 P, Mine.hd.o_91 P, Mine.hd.o_92 P, Mine.hd.o_93 P, Mine.hd.o_94 P, Mine.hd.o_95 P, Mine.hd.o_96 P, Mine.hd.o_97 P,
          Mine.hd.o_98 P, Mine.hd.o_99 P, Mine.hd.o_100 P, Mine.hd.o_101 P, Mine.hd.o_102 P, Mine.hd.o_104 P, Mine.hd.o_105 P, Mine.hd.o_106 P, Mine.hd.o_107 P, Mine.hd.o_108 P,
          Mine.hd.o_150 P, Mine.hd.o_151 P, Mine.hd.o_152 P, Mine.hd.o_153 P, Mine.hd.o_154 P, Mine.hd.o_155 P, Mine.hd.o_156 P, Mine.hd.o_157 P, Mine.hd.o_158 P, Mine.hd.o_159 P,
          Mine.hd.o_160 P, Mine.hd.o_161 P, Mine.hd.o_162 P, Mine.hd.o_163 P, Mine.hd.o_164 P, Mine.hd.o_165 P, Mine.hd.o_166 P, Mine.hd.o_167 P, Mine.hd.o_168 P, Mine.hd.o_169 P,
          Mine.hd.o_170 P, Mine.hd.o_171 P, Mine.hd.o_172 P, Mine.hd.o_179 P, Mine.hd.o_174 P, Mine.hd.o_175 P, Mine.hd.o_176 P, Mine.hd.o_180 P, Mine.hd.o_181 P, Mine.hd.o_182 P,
          Mine.hd.o_183 P, Mine.hd.o_184 P, Mine.hd.o_185 P, Mine.hd.o_186 P, Mine.hd.o_187 P, Mine.hd.o_188 P, Mine.hd.o_189 P, Mine.hd.o_190 P, Mine.hd.o_191 P, Mine.hd.o_192 P,
          Mine.hd.o_193 P, Mine.hd.o_194 P, Mine.hd.o_195 P, Mine.hd.o_196 P, Mine.hd.o_197 P, Mine.hd.o_198 P, Mine.hd.o_199 P, Mine.hd.o_200 P, Mine.hd.o_201 P, Mine.hd.o_202 P,
          Mine.hd.o_203 P, Mine.hd.o_204 P, Mine.hd.o_205 P, Mine.hd.o_206 P, Mine.hd.o_207 P, Mine.hd.o_208 P, Mine.hd.o_209 P, Mine.hd.o_210 P, Mine.hd.o_211 P, Mine.hd.o_212 P,
          Mine.hd.o_213 P, Mine.hd.o_214 P, Mine.hd.o_215 P, Mine.hd.o_216 P, Mine.hd.o_217 P, Mine.hd.o_218 P, Mine.hd.o_219 P, Mine.hd.o_220 P, Mine.hd.o_221 P, Mine.hd.o_222 P,
          Mine.hd.o_223 P, Mine.hd.o_224 P, Mine.hd.o_225 P, Mine.hd.o_226 P, Mine.hd.o_229 P, Mine.hd.o_230 P, Mine.hd.o_231 P, Mine.hd.o_232 P, Mine.hd.o_233 P, Mine.hd.o_234 P,
          Mine.hd.o_235 P, Mine.hd.o_236 P, Mine.hd.o_237 P, Mine.hd.o_238 P, Mine.hd.o_239 P, Mine.hd.o_240 P, Mine.hd.o_241 P, Mine.hd.o_242 P, Mine.hd.o_243 P, Mine.hd.o_244 P,
          Mine.hd.o_245 P, Mine.hd.o_246 P, Mine.hd.o_247 P, Mine.hd.o_248 P, Mine.hd.o_249 P, Mine.hd.o_250 P, Mine.hd.o_251 P, Mine.hd.o_252 P, Mine.hd.o_253 P, Mine.hd.o_254 P,
          Mine.hd.o_255 P, Mine.hd.o_256 P, Mine.hd.o_257 P, Mine.hd.o_258 P, Mine.hd.o_259 P] } }
def heap_39 : Params → Frag := fun P =>
  ((nat_lit 2),
{ cls := Value.none,
  data :=
    Data.dict
      #[{ hash := PyData.keyHash P (Str.ofString "type.__subclasses__.Exception.0"), key := Value.str (Str.ofString "type.__subclasses__.Exception.0") 435, val := Value.int 85 0 },
        { hash := PyData.keyHash P (Str.ofString "type.__subclasses__.Exception.n"), key := Value.str (Str.ofString "type.__subclasses__.Exception.n") 436, val := Value.int 1 0 }]
      2 }) ::
  ((nat_lit 3),
{ cls := Value.type "dict",
  data :=
    Data.dict
      #[{ hash := PyData.keyHash P (Str.ofString "__name__"), key := Value.str (Str.ofString "__name__") 165, val := Value.str (Str.ofString "law_ny0077_01") 466 },
        { hash := PyData.keyHash P (Str.ofString "__doc__"), key := Value.str (Str.ofString "__doc__") 166, val := Value.none },
        { hash := PyData.keyHash P (Str.ofString "__package__"), key := Value.str (Str.ofString "__package__") 167, val := Value.none },
        { hash := PyData.keyHash P (Str.ofString "__loader__"), key := Value.str (Str.ofString "__loader__") 168, val := Value.builtin "__main__.__loader__#opaque" },
        { hash := PyData.keyHash P (Str.ofString "__spec__"), key := Value.str (Str.ofString "__spec__") 169, val := Value.none },
        { hash := PyData.keyHash P (Str.ofString "__annotations__"), key := Value.str (Str.ofString "__annotations__") 170, val := Value.ref 6 },
        { hash := PyData.keyHash P (Str.ofString "__builtins__"), key := Value.str (Str.ofString "__builtins__") 171, val := Value.ref 4 },
        { hash := PyData.keyHash P (Str.ofString "__file__"), key := Value.str (Str.ofString "__file__") 173, val := Value.str (Str.ofString "/claim/cut.py") 172 },
        { hash := PyData.keyHash P (Str.ofString "__cached__"), key := Value.str (Str.ofString "__cached__") 174, val := Value.none },
        { hash := PyData.keyHash P (Str.ofString "Entry"), key := Value.str (Str.ofString "Entry") 250, val := Value.ref 52 },
        { hash := PyData.keyHash P (Str.ofString "_special_chars_map"), key := Value.str (Str.ofString "_special_chars_map") 398, val := Value.ref 58 },
        { hash := PyData.keyHash P (Str.ofString "escape"), key := Value.str (Str.ofString "escape") 405, val := Value.ref 68 },
        { hash := PyData.keyHash P (Str.ofString "translate_pattern"), key := Value.str (Str.ofString "translate_pattern") 416, val := Value.ref 75 },
        { hash := PyData.keyHash P (Str.ofString "Error"), key := Value.str (Str.ofString "Error") 438, val := Value.ref 85 },
        { hash := PyData.keyHash P (Str.ofString "error_reply"), key := Value.str (Str.ofString "error_reply") 454, val := Value.ref 98 },
        { hash := PyData.keyHash P (Str.ofString "parse257"), key := Value.str (Str.ofString "parse257") 465, val := Value.ref 107 },
        { hash := PyData.keyHash P (Str.ofString "_law_numbers"), key := Value.str (Str.ofString "_law_numbers") 476, val := Value.ref 114 },
        { hash := PyData.keyHash P (Str.ofString "_law_name"), key := Value.str (Str.ofString "_law_name") 486, val := Value.ref 121 },
        { hash := PyData.keyHash P (Str.ofString "_law_doubled"), key := Value.str (Str.ofString "_law_doubled") 493, val := Value.ref 128 },
        { hash := PyData.keyHash P (Str.ofString "_law_pattern"), key := Value.str (Str.ofString "_law_pattern") 500, val := Value.ref 135 },
        { hash := PyData.keyHash P (Str.ofString "_law_rule"), key := Value.str (Str.ofString "_law_rule") 510, val := Value.ref 142 },
        { hash := PyData.keyHash P (Str.ofString "_law_record"), key := Value.str (Str.ofString "_law_record") 520, val := Value.ref 149 },
        { hash := PyData.keyHash P (Str.ofString "_law_come"), key := Value.str (Str.ofString "_law_come") 530, val := Value.ref 156 },
        { hash := PyData.keyHash P (Str.ofString "_law_due"), key := Value.str (Str.ofString "_law_due") 536, val := Value.ref 161 },
        { hash := PyData.keyHash P (Str.ofString "law"), key := Value.str (Str.ofString "law") 542, val := Value.ref 166 }]
      25 }) ::
  ((nat_lit 22),
{ cls := Value.type "tuple", data := Data.seq #[] }) ::
  ((nat_lit 24),
{ cls := Value.type "tuple", data := Data.seq #[Value.str (Str.ofString "self") 204] }) ::
  ((nat_lit 25),
{ cls := Value.type "tuple", data := Data.seq #[] }) ::
  ((nat_lit 27),
{ cls := Value.type "code",
  data :=
    Data.fields
      #[Value.str (Str.ofString "__init__") 201, Value.str (Str.ofString "Entry.__init__") 202, Value.str (Str.ofString "/claim/cut.py") 203, Value.int 4 0, Value.int 1 0,
        Value.int 0 0, Value.int 0 0, Value.int 3 0, Value.ref 22, Value.bool true, Value.int 181 0, Value.ref 23, Value.none, Value.ref 24, Value.ref 25, Value.ref 26,
        Value.int 205 0, Value.int 4 0, Value.str (Str.ofString "/claim/cut.py") 206] }) ::
  ((nat_lit 28),
{ cls := Value.type "function",
  data :=
    Data.func
      { name := Str.ofString "__init__", qualname := Str.ofString "Entry.__init__", params := Mine.hd.fArgs (Mine.hd.inC 1 0), body := Mine.hd.fBody (Mine.hd.inC 1 0),
        scope := Mine.hd.fScope (Mine.hd.inC 1 0), globals := 3, closure := [], defaults := Value.none, kwdefaults := Value.none,
        pyModule := Value.str (Str.ofString "cpy313.urllib.robotparser") 187, code := Value.ref 27 } }) ::
  ((nat_lit 29),
{ cls := Value.type "tuple", data := Data.seq #[] }) ::
  ((nat_lit 31),
{ cls := Value.type "tuple",
  data := Data.seq #[Value.str (Str.ofString "self") 211, Value.str (Str.ofString "ret") 212, Value.str (Str.ofString "agent") 213, Value.str (Str.ofString "rate") 214] }) ::
  ((nat_lit 32),
{ cls := Value.type "tuple", data := Data.seq #[] }) ::
  ((nat_lit 34),
{ cls := Value.type "code",
  data :=
    Data.fields
      #[Value.str (Str.ofString "__str__") 208, Value.str (Str.ofString "Entry.__str__") 209, Value.str (Str.ofString "/claim/cut.py") 210, Value.int 10 0, Value.int 1 0,
        Value.int 0 0, Value.int 0 0, Value.int 3 0, Value.ref 29, Value.bool true, Value.int 181 0, Value.ref 30, Value.none, Value.ref 31, Value.ref 32, Value.ref 33,
        Value.int 215 0, Value.int 10 0, Value.str (Str.ofString "/claim/cut.py") 216] }) ::
  ((nat_lit 35),
{ cls := Value.type "function",
  data :=
    Data.func
      { name := Str.ofString "__str__", qualname := Str.ofString "Entry.__str__", params := Mine.hd.fArgs (Mine.hd.inC 1 1), body := Mine.hd.fBody (Mine.hd.inC 1 1),
        scope := Mine.hd.fScope (Mine.hd.inC 1 1), globals := 3, closure := [], defaults := Value.none, kwdefaults := Value.none,
        pyModule := Value.str (Str.ofString "cpy313.urllib.robotparser") 187, code := Value.ref 34 } }) ::
  ((nat_lit 36),
{ cls := Value.type "tuple", data := Data.seq #[] }) ::
  ((nat_lit 38),
{ cls := Value.type "tuple", data := Data.seq #[Value.str (Str.ofString "self") 221, Value.str (Str.ofString "useragent") 222, Value.str (Str.ofString "agent") 223] }) ::
  ((nat_lit 39),
{ cls := Value.type "tuple", data := Data.seq #[] }) ::
  ((nat_lit 41),
{ cls := Value.type "code",
  data :=
    Data.fields
      #[Value.str (Str.ofString "applies_to") 218, Value.str (Str.ofString "Entry.applies_to") 219, Value.str (Str.ofString "/claim/cut.py") 220, Value.int 27 0, Value.int 2 0,
        Value.int 0 0, Value.int 0 0, Value.int 3 0, Value.ref 36, Value.bool true, Value.int 181 0, Value.ref 37, Value.none, Value.ref 38, Value.ref 39, Value.ref 40,
        Value.int 224 0, Value.int 27 0, Value.str (Str.ofString "/claim/cut.py") 225] }) ::
  ((nat_lit 42),
{ cls := Value.type "function",
  data :=
    Data.func
      { name := Str.ofString "applies_to", qualname := Str.ofString "Entry.applies_to", params := Mine.hd.fArgs (Mine.hd.inC 1 2), body := Mine.hd.fBody (Mine.hd.inC 1 2),
        scope := Mine.hd.fScope (Mine.hd.inC 1 2), globals := 3, closure := [], defaults := Value.none, kwdefaults := Value.none,
        pyModule := Value.str (Str.ofString "cpy313.urllib.robotparser") 187, code := Value.ref 41 } }) ::
  ((nat_lit 43),
{ cls := Value.type "tuple", data := Data.seq #[] }) ::
  ((nat_lit 45),
{ cls := Value.type "tuple",
  data :=
    Data.seq
      #[Value.str (Str.ofString "self") 230, Value.str (Str.ofString "filename") 231, Value.str (Str.ofString "best_match") 232, Value.str (Str.ofString "allowance") 233,
        Value.str (Str.ofString "line") 234, Value.str (Str.ofString "m") 235] }) ::
  ((nat_lit 46),
{ cls := Value.type "tuple", data := Data.seq #[] }) ::
  ((nat_lit 48),
{ cls := Value.type "code",
  data :=
    Data.fields
      #[Value.str (Str.ofString "allowance") 227, Value.str (Str.ofString "Entry.allowance") 228, Value.str (Str.ofString "/claim/cut.py") 229, Value.int 38 0, Value.int 2 0,
        Value.int 0 0, Value.int 0 0, Value.int 3 0, Value.ref 43, Value.bool true, Value.int 181 0, Value.ref 44, Value.none, Value.ref 45, Value.ref 46, Value.ref 47,
        Value.int 236 0, Value.int 38 0, Value.str (Str.ofString "/claim/cut.py") 237] }) ::
  ((nat_lit 49),
{ cls := Value.type "function",
  data :=
    Data.func
      { name := Str.ofString "allowance", qualname := Str.ofString "Entry.allowance", params := Mine.hd.fArgs (Mine.hd.inC 1 3), body := Mine.hd.fBody (Mine.hd.inC 1 3),
        scope := Mine.hd.fScope (Mine.hd.inC 1 3), globals := 3, closure := [], defaults := Value.none, kwdefaults := Value.none,
        pyModule := Value.str (Str.ofString "cpy313.urllib.robotparser") 187, code := Value.ref 48 } }) ::
  ((nat_lit 50),
{ cls := Value.type "tuple",
  data :=
    Data.seq #[Value.str (Str.ofString "delay") 239, Value.str (Str.ofString "req_rate") 240, Value.str (Str.ofString "rulelines") 241, Value.str (Str.ofString "useragents") 242] }) ::
  ((nat_lit 51),
{ cls := Value.type "dict",
  data :=
    Data.dict
      #[{ hash := PyData.keyHash P (Str.ofString "__module__"), key := Value.str (Str.ofString "__module__") 196, val := Value.str (Str.ofString "cpy313.urllib.robotparser") 187 },
        { hash := PyData.keyHash P (Str.ofString "__firstlineno__"), key := Value.str (Str.ofString "__firstlineno__") 200, val := Value.int 2 199 },
        { hash := PyData.keyHash P (Str.ofString "__init__"), key := Value.str (Str.ofString "__init__") 207, val := Value.ref 28 },
        { hash := PyData.keyHash P (Str.ofString "__str__"), key := Value.str (Str.ofString "__str__") 217, val := Value.ref 35 },
        { hash := PyData.keyHash P (Str.ofString "applies_to"), key := Value.str (Str.ofString "applies_to") 226, val := Value.ref 42 },
        { hash := PyData.keyHash P (Str.ofString "allowance"), key := Value.str (Str.ofString "allowance") 238, val := Value.ref 49 },
        { hash := PyData.keyHash P (Str.ofString "__static_attributes__"), key := Value.str (Str.ofString "__static_attributes__") 243, val := Value.ref 50 },
        { hash := PyData.keyHash P (Str.ofString "__dict__"), key := Value.str (Str.ofString "__dict__") 245, val := Value.ref 53 },
        { hash := PyData.keyHash P (Str.ofString "__weakref__"), key := Value.str (Str.ofString "__weakref__") 247, val := Value.ref 54 },
        { hash := PyData.keyHash P (Str.ofString "__doc__"), key := Value.str (Str.ofString "__doc__") 248, val := Value.none }]
      4 }) ::
  ((nat_lit 52),
{ cls := Value.type "type",
  data := Data.cls { name := Str.ofString "Entry", bases := [Value.type "object"], mro := [Value.ref 52, Value.type "object"], ns := 51, qualname := Str.ofString "Entry" },
  slots := #[none, none, some (Value.str (Str.ofString "Entry") 189), some (Value.str (Str.ofString "Entry") 197), some (Value.builtin "object.__new__"), some (Value.bool true)] }) ::
  ((nat_lit 53),
{ cls := Value.type "getset_descriptor",
  data := Data.fields #[Value.str (Str.ofString "__dict__") 244, Value.ref 52, Value.builtin "function.__dict__", Value.builtin "function.__dict__#set"] }) ::
  ((nat_lit 54),
{ cls := Value.type "getset_descriptor", data := Data.fields #[Value.str (Str.ofString "__weakref__") 246, Value.ref 52, Value.builtin "ExceptionGroup.__weakref__", Value.none] }) ::
  ((nat_lit 58),
{ cls := Value.type "dict",
  data :=
    Data.dict
      #[{ hash := 40, key := Value.int 40 254, val := Value.str (Str.ofString "\\(") 258 }, { hash := 41, key := Value.int 41 260, val := Value.str (Str.ofString "\\)") 264 },
        { hash := 91, key := Value.int 91 266, val := Value.str (Str.ofString "\\[") 270 }, { hash := 93, key := Value.int 93 272, val := Value.str (Str.ofString "\\]") 276 },
        { hash := 123, key := Value.int 123 278, val := Value.str (Str.ofString "\\{") 282 }, { hash := 125, key := Value.int 125 284, val := Value.str (Str.ofString "\\}") 288 },
        { hash := 63, key := Value.int 63 290, val := Value.str (Str.ofString "\\?") 294 }, { hash := 42, key := Value.int 42 296, val := Value.str (Str.ofString "\\*") 300 },
        { hash := 43, key := Value.int 43 302, val := Value.str (Str.ofString "\\+") 306 }, { hash := 45, key := Value.int 45 308, val := Value.str (Str.ofString "\\-") 312 },
        { hash := 124, key := Value.int 124 314, val := Value.str (Str.ofString "\\|") 318 }, { hash := 94, key := Value.int 94 320, val := Value.str (Str.ofString "\\^") 324 },
        { hash := 36, key := Value.int 36 326, val := Value.str (Str.ofString "\\$") 330 }, { hash := 92, key := Value.int 92 332, val := Value.str (Str.ofString "\\\\") 336 },
        { hash := 46, key := Value.int 46 338, val := Value.str (Str.ofString "\\.") 342 }, { hash := 38, key := Value.int 38 344, val := Value.str (Str.ofString "\\&") 348 },
        { hash := 126, key := Value.int 126 350, val := Value.str (Str.ofString "\\~") 354 }, { hash := 35, key := Value.int 35 356, val := Value.str (Str.ofString "\\#") 360 },
        { hash := 32, key := Value.int 32 362, val := Value.str (Str.ofString "\\ ") 366 }, { hash := 9, key := Value.int 9 368, val := Value.str (Str.ofString "\\\t") 372 },
        { hash := 10, key := Value.int 10 374, val := Value.str (Str.ofString "\\\n") 378 }, { hash := 13, key := Value.int 13 380, val := Value.str (Str.ofString "\\\x0d") 384 },
        { hash := 11, key := Value.int 11 386, val := Value.str (Str.ofString "\\\x0b") 390 },
        { hash := 12, key := Value.int 12 392, val := Value.str (Str.ofString "\\\x0c") 396 }]
      24 }) ::
  ((nat_lit 62),
{ cls := Value.type "tuple", data := Data.seq #[] }) ::
  ((nat_lit 64),
{ cls := Value.type "tuple", data := Data.seq #[Value.str (Str.ofString "pattern") 402] }) ::
  ((nat_lit 65),
{ cls := Value.type "tuple", data := Data.seq #[] }) ::
  ((nat_lit 67),
{ cls := Value.type "code",
  data :=
    Data.fields
      #[Value.str (Str.ofString "escape") 399, Value.str (Str.ofString "escape") 400, Value.str (Str.ofString "/claim/cut.py") 401, Value.int 52 0, Value.int 1 0, Value.int 0 0,
        Value.int 0 0, Value.int 3 0, Value.ref 62, Value.bool true, Value.int 181 0, Value.ref 63, Value.none, Value.ref 64, Value.ref 65, Value.ref 66, Value.int 403 0,
        Value.int 52 0, Value.str (Str.ofString "/claim/cut.py") 404] }) ::
  ((nat_lit 68),
{ cls := Value.type "function",
  data :=
    Data.func
      { name := Str.ofString "escape", qualname := Str.ofString "escape", params := Mine.hd.fArgs (Mine.hd.stm 4), body := Mine.hd.fBody (Mine.hd.stm 4),
        scope := Mine.hd.fScope (Mine.hd.stm 4), globals := 3, closure := [], defaults := Value.none, kwdefaults := Value.none, pyModule := Value.str (Str.ofString "re") 251,
        code := Value.ref 67 } }) ::
  ((nat_lit 69),
{ cls := Value.type "tuple", data := Data.seq #[] }) ::
  ((nat_lit 71),
{ cls := Value.type "tuple", data := Data.seq #[Value.str (Str.ofString "path") 411, Value.str (Str.ofString "parts") 412, Value.str (Str.ofString "i") 413] }) ::
  ((nat_lit 72),
{ cls := Value.type "tuple", data := Data.seq #[] }) ::
  ((nat_lit 74),
{ cls := Value.type "code",
  data :=
    Data.fields
      #[Value.str (Str.ofString "translate_pattern") 408, Value.str (Str.ofString "translate_pattern") 409, Value.str (Str.ofString "/claim/cut.py") 410, Value.int 59 0,
        Value.int 1 0, Value.int 0 0, Value.int 0 0, Value.int 3 0, Value.ref 69, Value.bool true, Value.int 181 0, Value.ref 70, Value.none, Value.ref 71, Value.ref 72,
        Value.ref 73, Value.int 414 0, Value.int 59 0, Value.str (Str.ofString "/claim/cut.py") 415] }) ::
  ((nat_lit 75),
{ cls := Value.type "function",
  data :=
    Data.func
      { name := Str.ofString "translate_pattern", qualname := Str.ofString "translate_pattern", params := Mine.hd.fArgs (Mine.hd.stm 6), body := Mine.hd.fBody (Mine.hd.stm 6),
        scope := Mine.hd.fScope (Mine.hd.stm 6), globals := 3, closure := [], defaults := Value.none, kwdefaults := Value.none,
        pyModule := Value.str (Str.ofString "cpy313.urllib.robotparser") 406, code := Value.ref 74 } }) ::
  ((nat_lit 76),
{ cls := Value.type "tuple", data := Data.seq #[Value.type "Exception"] }) ::
  ((nat_lit 83),
{ cls := Value.type "tuple", data := Data.seq #[] }) ::
  ((nat_lit 84),
{ cls := Value.type "dict",
  data :=
    Data.dict
      #[{ hash := PyData.keyHash P (Str.ofString "__module__"), key := Value.str (Str.ofString "__module__") 426, val := Value.str (Str.ofString "cpy313.ftplib") 417 },
        { hash := PyData.keyHash P (Str.ofString "__firstlineno__"), key := Value.str (Str.ofString "__firstlineno__") 430, val := Value.int 66 429 },
        { hash := PyData.keyHash P (Str.ofString "__static_attributes__"), key := Value.str (Str.ofString "__static_attributes__") 431, val := Value.ref 83 },
        { hash := PyData.keyHash P (Str.ofString "__weakref__"), key := Value.str (Str.ofString "__weakref__") 433, val := Value.ref 86 },
        { hash := PyData.keyHash P (Str.ofString "__doc__"), key := Value.str (Str.ofString "__doc__") 434, val := Value.none }]
      3 }) ::
  ((nat_lit 85),
{ cls := Value.type "type",
  data :=
    Data.cls
      { name := Str.ofString "Error", bases := [Value.type "Exception"], mro := [Value.ref 85, Value.type "Exception", Value.type "BaseException", Value.type "object"], ns := 84,
        qualname := Str.ofString "Error", subclasses := [Value.ref 98] },
  slots :=
    #[some (Value.ref 76), none, some (Value.str (Str.ofString "Error") 419), some (Value.str (Str.ofString "Error") 427), some (Value.builtin "Exception.__new__"),
      some (Value.bool true)] }) ::
  ((nat_lit 86),
{ cls := Value.type "getset_descriptor", data := Data.fields #[Value.str (Str.ofString "__weakref__") 432, Value.ref 85, Value.builtin "ExceptionGroup.__weakref__", Value.none] }) ::
  ((nat_lit 89),
{ cls := Value.type "tuple", data := Data.seq #[Value.ref 85] }) ::
  ((nat_lit 96),
{ cls := Value.type "tuple", data := Data.seq #[] }) ::
  ((nat_lit 97),
{ cls := Value.type "dict",
  data :=
    Data.dict
      #[{ hash := PyData.keyHash P (Str.ofString "__module__"), key := Value.str (Str.ofString "__module__") 446, val := Value.str (Str.ofString "cpy313.ftplib") 417 },
        { hash := PyData.keyHash P (Str.ofString "__firstlineno__"), key := Value.str (Str.ofString "__firstlineno__") 450, val := Value.int 68 449 },
        { hash := PyData.keyHash P (Str.ofString "__static_attributes__"), key := Value.str (Str.ofString "__static_attributes__") 451, val := Value.ref 96 },
        { hash := PyData.keyHash P (Str.ofString "__doc__"), key := Value.str (Str.ofString "__doc__") 452, val := Value.none }]
      2 }) ::
  ((nat_lit 98),
{ cls := Value.type "type",
  data :=
    Data.cls
      { name := Str.ofString "error_reply", bases := [Value.ref 85], mro := [Value.ref 98, Value.ref 85, Value.type "Exception", Value.type "BaseException", Value.type "object"],
        ns := 97, qualname := Str.ofString "error_reply" },
  slots :=
    #[some (Value.ref 89), none, some (Value.str (Str.ofString "error_reply") 439), some (Value.str (Str.ofString "error_reply") 447), some (Value.builtin "Exception.__new__"),
      some (Value.bool true)] }) ::
  ((nat_lit 101),
{ cls := Value.type "tuple", data := Data.seq #[] }) ::
  ((nat_lit 103),
{ cls := Value.type "tuple",
  data :=
    Data.seq
      #[Value.str (Str.ofString "resp") 458, Value.str (Str.ofString "dirname") 459, Value.str (Str.ofString "i") 460, Value.str (Str.ofString "n") 461,
        Value.str (Str.ofString "c") 462] }) ::
  ((nat_lit 104),
{ cls := Value.type "tuple", data := Data.seq #[] }) ::
  ((nat_lit 106),
{ cls := Value.type "code",
  data :=
    Data.fields
      #[Value.str (Str.ofString "parse257") 455, Value.str (Str.ofString "parse257") 456, Value.str (Str.ofString "/claim/cut.py") 457, Value.int 70 0, Value.int 1 0,
        Value.int 0 0, Value.int 0 0, Value.int 3 0, Value.ref 101, Value.bool true, Value.int 181 0, Value.ref 102, Value.none, Value.ref 103, Value.ref 104, Value.ref 105,
        Value.int 463 0, Value.int 70 0, Value.str (Str.ofString "/claim/cut.py") 464] }) ::
  ((nat_lit 107),
{ cls := Value.type "function",
  data :=
    Data.func
      { name := Str.ofString "parse257", qualname := Str.ofString "parse257", params := Mine.hd.fArgs (Mine.hd.stm 10), body := Mine.hd.fBody (Mine.hd.stm 10),
        scope := Mine.hd.fScope (Mine.hd.stm 10), globals := 3, closure := [], defaults := Value.none, kwdefaults := Value.none,
        pyModule := Value.str (Str.ofString "cpy313.ftplib") 417, code := Value.ref 106 } }) ::
  ((nat_lit 108),
{ cls := Value.type "tuple", data := Data.seq #[] }) ::
  ((nat_lit 110),
{ cls := Value.type "tuple", data := Data.seq #[Value.str (Str.ofString "script") 471, Value.str (Str.ofString "numbers") 472, Value.str (Str.ofString "k") 473] }) ::
  ((nat_lit 111),
{ cls := Value.type "tuple", data := Data.seq #[] }) ::
  ((nat_lit 113),
{ cls := Value.type "code",
  data :=
    Data.fields
      #[Value.str (Str.ofString "_law_numbers") 468, Value.str (Str.ofString "_law_numbers") 469, Value.str (Str.ofString "/claim/cut.py") 470, Value.int 88 0, Value.int 1 0,
        Value.int 0 0, Value.int 0 0, Value.int 3 0, Value.ref 108, Value.bool true, Value.int 181 0, Value.ref 109, Value.none, Value.ref 110, Value.ref 111, Value.ref 112,
        Value.int 474 0, Value.int 88 0, Value.str (Str.ofString "/claim/cut.py") 475] }) ::
  ((nat_lit 114),
{ cls := Value.type "function",
  data :=
    Data.func
      { name := Str.ofString "_law_numbers", qualname := Str.ofString "_law_numbers", params := Mine.hd.fArgs (Mine.hd.stm 12), body := Mine.hd.fBody (Mine.hd.stm 12),
        scope := Mine.hd.fScope (Mine.hd.stm 12), globals := 3, closure := [], defaults := Value.none, kwdefaults := Value.none,
        pyModule := Value.str (Str.ofString "law_ny0077_01") 466, code := Value.ref 113 } }) ::
  ((nat_lit 115),
{ cls := Value.type "tuple", data := Data.seq #[] }) ::
  ((nat_lit 117),
{ cls := Value.type "tuple",
  data := Data.seq #[Value.str (Str.ofString "number") 480, Value.str (Str.ofString "size") 481, Value.str (Str.ofString "name") 482, Value.str (Str.ofString "k") 483] }) ::
  ((nat_lit 118),
{ cls := Value.type "tuple", data := Data.seq #[] }) ::
  ((nat_lit 120),
{ cls := Value.type "code",
  data :=
    Data.fields
      #[Value.str (Str.ofString "_law_name") 477, Value.str (Str.ofString "_law_name") 478, Value.str (Str.ofString "/claim/cut.py") 479, Value.int 93 0, Value.int 2 0,
        Value.int 0 0, Value.int 0 0, Value.int 3 0, Value.ref 115, Value.bool true, Value.int 181 0, Value.ref 116, Value.none, Value.ref 117, Value.ref 118, Value.ref 119,
        Value.int 484 0, Value.int 93 0, Value.str (Str.ofString "/claim/cut.py") 485] }) ::
  ((nat_lit 121),
{ cls := Value.type "function",
  data :=
    Data.func
      { name := Str.ofString "_law_name", qualname := Str.ofString "_law_name", params := Mine.hd.fArgs (Mine.hd.stm 13), body := Mine.hd.fBody (Mine.hd.stm 13),
        scope := Mine.hd.fScope (Mine.hd.stm 13), globals := 3, closure := [], defaults := Value.none, kwdefaults := Value.none,
        pyModule := Value.str (Str.ofString "law_ny0077_01") 466, code := Value.ref 120 } }) ::
  ((nat_lit 122),
{ cls := Value.type "tuple", data := Data.seq #[] }) ::
  ((nat_lit 124),
{ cls := Value.type "tuple", data := Data.seq #[Value.str (Str.ofString "name") 490] }) ::
  ((nat_lit 125),
{ cls := Value.type "tuple", data := Data.seq #[] }) ::
  ((nat_lit 127),
{ cls := Value.type "code",
  data :=
    Data.fields
      #[Value.str (Str.ofString "_law_doubled") 487, Value.str (Str.ofString "_law_doubled") 488, Value.str (Str.ofString "/claim/cut.py") 489, Value.int 99 0, Value.int 1 0,
        Value.int 0 0, Value.int 0 0, Value.int 3 0, Value.ref 122, Value.bool true, Value.int 181 0, Value.ref 123, Value.none, Value.ref 124, Value.ref 125, Value.ref 126,
        Value.int 491 0, Value.int 99 0, Value.str (Str.ofString "/claim/cut.py") 492] }) ::
  ((nat_lit 128),
{ cls := Value.type "function",
  data :=
    Data.func
      { name := Str.ofString "_law_doubled", qualname := Str.ofString "_law_doubled", params := Mine.hd.fArgs (Mine.hd.stm 14), body := Mine.hd.fBody (Mine.hd.stm 14),
        scope := Mine.hd.fScope (Mine.hd.stm 14), globals := 3, closure := [], defaults := Value.none, kwdefaults := Value.none,
        pyModule := Value.str (Str.ofString "law_ny0077_01") 466, code := Value.ref 127 } }) ::
  ((nat_lit 129),
{ cls := Value.type "tuple", data := Data.seq #[] }) ::
  ((nat_lit 131),
{ cls := Value.type "tuple", data := Data.seq #[Value.str (Str.ofString "name") 497] }) ::
  ((nat_lit 132),
{ cls := Value.type "tuple", data := Data.seq #[] }) ::
  ((nat_lit 134),
{ cls := Value.type "code",
  data :=
    Data.fields
      #[Value.str (Str.ofString "_law_pattern") 494, Value.str (Str.ofString "_law_pattern") 495, Value.str (Str.ofString "/claim/cut.py") 496, Value.int 101 0, Value.int 1 0,
        Value.int 0 0, Value.int 0 0, Value.int 3 0, Value.ref 129, Value.bool true, Value.int 181 0, Value.ref 130, Value.none, Value.ref 131, Value.ref 132, Value.ref 133,
        Value.int 498 0, Value.int 101 0, Value.str (Str.ofString "/claim/cut.py") 499] }) ::
  ((nat_lit 135),
{ cls := Value.type "function",
  data :=
    Data.func
      { name := Str.ofString "_law_pattern", qualname := Str.ofString "_law_pattern", params := Mine.hd.fArgs (Mine.hd.stm 15), body := Mine.hd.fBody (Mine.hd.stm 15),
        scope := Mine.hd.fScope (Mine.hd.stm 15), globals := 3, closure := [], defaults := Value.none, kwdefaults := Value.none,
        pyModule := Value.str (Str.ofString "law_ny0077_01") 466, code := Value.ref 134 } }) ::
  ((nat_lit 136),
{ cls := Value.type "tuple", data := Data.seq #[] }) ::
  ((nat_lit 138),
{ cls := Value.type "tuple", data := Data.seq #[Value.str (Str.ofString "path") 504, Value.str (Str.ofString "verdict") 505, Value.str (Str.ofString "rule") 506] }) ::
  ((nat_lit 139),
{ cls := Value.type "tuple", data := Data.seq #[Value.str (Str.ofString "path") 507] }) ::
  ((nat_lit 141),
{ cls := Value.type "code",
  data :=
    Data.fields
      #[Value.str (Str.ofString "_law_rule") 501, Value.str (Str.ofString "_law_rule") 502, Value.str (Str.ofString "/claim/cut.py") 503, Value.int 103 0, Value.int 2 0,
        Value.int 0 0, Value.int 0 0, Value.int 3 0, Value.ref 136, Value.bool true, Value.int 181 0, Value.ref 137, Value.none, Value.ref 138, Value.ref 139, Value.ref 140,
        Value.int 508 0, Value.int 103 0, Value.str (Str.ofString "/claim/cut.py") 509] }) ::
  ((nat_lit 142),
{ cls := Value.type "function",
  data :=
    Data.func
      { name := Str.ofString "_law_rule", qualname := Str.ofString "_law_rule", params := Mine.hd.fArgs (Mine.hd.stm 16), body := Mine.hd.fBody (Mine.hd.stm 16),
        scope := Mine.hd.fScope (Mine.hd.stm 16), globals := 3, closure := [], defaults := Value.none, kwdefaults := Value.none,
        pyModule := Value.str (Str.ofString "law_ny0077_01") 466, code := Value.ref 141 } }) ::
  ((nat_lit 143),
{ cls := Value.type "tuple", data := Data.seq #[] }) ::
  ((nat_lit 145),
{ cls := Value.type "tuple",
  data := Data.seq #[Value.str (Str.ofString "names") 514, Value.str (Str.ofString "verdicts") 515, Value.str (Str.ofString "record") 516, Value.str (Str.ofString "k") 517] }) ::
  ((nat_lit 146),
{ cls := Value.type "tuple", data := Data.seq #[] }) ::
  ((nat_lit 148),
{ cls := Value.type "code",
  data :=
    Data.fields
      #[Value.str (Str.ofString "_law_record") 511, Value.str (Str.ofString "_law_record") 512, Value.str (Str.ofString "/claim/cut.py") 513, Value.int 108 0, Value.int 2 0,
        Value.int 0 0, Value.int 0 0, Value.int 3 0, Value.ref 143, Value.bool true, Value.int 181 0, Value.ref 144, Value.none, Value.ref 145, Value.ref 146, Value.ref 147,
        Value.int 518 0, Value.int 108 0, Value.str (Str.ofString "/claim/cut.py") 519] }) ::
  ((nat_lit 149),
{ cls := Value.type "function",
  data :=
    Data.func
      { name := Str.ofString "_law_record", qualname := Str.ofString "_law_record", params := Mine.hd.fArgs (Mine.hd.stm 17), body := Mine.hd.fBody (Mine.hd.stm 17),
        scope := Mine.hd.fScope (Mine.hd.stm 17), globals := 3, closure := [], defaults := Value.none, kwdefaults := Value.none,
        pyModule := Value.str (Str.ofString "law_ny0077_01") 466, code := Value.ref 148 } }) ::
  ((nat_lit 150),
{ cls := Value.type "tuple", data := Data.seq #[] }) ::
  ((nat_lit 152),
{ cls := Value.type "tuple",
  data := Data.seq #[Value.str (Str.ofString "name") 524, Value.str (Str.ofString "size") 525, Value.str (Str.ofString "whole") 526, Value.str (Str.ofString "sign") 527] }) ::
  ((nat_lit 153),
{ cls := Value.type "tuple", data := Data.seq #[] }) ::
  ((nat_lit 155),
{ cls := Value.type "code",
  data :=
    Data.fields
      #[Value.str (Str.ofString "_law_come") 521, Value.str (Str.ofString "_law_come") 522, Value.str (Str.ofString "/claim/cut.py") 523, Value.int 114 0, Value.int 2 0,
        Value.int 0 0, Value.int 0 0, Value.int 3 0, Value.ref 150, Value.bool true, Value.int 181 0, Value.ref 151, Value.none, Value.ref 152, Value.ref 153, Value.ref 154,
        Value.int 528 0, Value.int 114 0, Value.str (Str.ofString "/claim/cut.py") 529] }) ::
  ((nat_lit 156),
{ cls := Value.type "function",
  data :=
    Data.func
      { name := Str.ofString "_law_come", qualname := Str.ofString "_law_come", params := Mine.hd.fArgs (Mine.hd.stm 18), body := Mine.hd.fBody (Mine.hd.stm 18),
        scope := Mine.hd.fScope (Mine.hd.stm 18), globals := 3, closure := [], defaults := Value.none, kwdefaults := Value.none,
        pyModule := Value.str (Str.ofString "law_ny0077_01") 466, code := Value.ref 155 } }) ::
  ((nat_lit 157),
{ cls := Value.type "tuple", data := Data.seq #[] }) ::
  ((nat_lit 160),
{ cls := Value.type "code",
  data :=
    Data.fields
      #[Value.str (Str.ofString "_law_due") 531, Value.str (Str.ofString "_law_due") 532, Value.str (Str.ofString "/claim/cut.py") 533, Value.int 122 0, Value.int 3 0,
        Value.int 0 0, Value.int 0 0, Value.int 3 0, Value.ref 157, Value.bool true, Value.int 181 0, Value.ref 158, Value.none, Value.none, Value.none, Value.ref 159,
        Value.int 534 0, Value.int 122 0, Value.str (Str.ofString "/claim/cut.py") 535] }) ::
  ((nat_lit 161),
{ cls := Value.type "function",
  data :=
    Data.func
      { name := Str.ofString "_law_due", qualname := Str.ofString "_law_due", params := Mine.hd.fArgs (Mine.hd.stm 19), body := Mine.hd.fBody (Mine.hd.stm 19),
        scope := Mine.hd.fScope (Mine.hd.stm 19), globals := 3, closure := [], defaults := Value.none, kwdefaults := Value.none,
        pyModule := Value.str (Str.ofString "law_ny0077_01") 466, code := Value.ref 160 } }) ::
  ((nat_lit 162),
{ cls := Value.type "tuple", data := Data.seq #[] }) ::
  ((nat_lit 165),
{ cls := Value.type "code",
  data :=
    Data.fields
      #[Value.str (Str.ofString "law") 537, Value.str (Str.ofString "law") 538, Value.str (Str.ofString "/claim/cut.py") 539, Value.int 137 0, Value.int 1 0, Value.int 0 0,
        Value.int 0 0, Value.int 3 0, Value.ref 162, Value.bool true, Value.int 181 0, Value.ref 163, Value.none, Value.none, Value.none, Value.ref 164, Value.int 540 0,
        Value.int 137 0, Value.str (Str.ofString "/claim/cut.py") 541] }) ::
  ((nat_lit 166),
{ cls := Value.type "function",
  data :=
    Data.func
      { name := Str.ofString "law", qualname := Str.ofString "law", params := Mine.hd.fArgs (Mine.hd.stm 20), body := Mine.hd.fBody (Mine.hd.stm 20),
        scope := Mine.hd.fScope (Mine.hd.stm 20), globals := 3, closure := [], defaults := Value.none, kwdefaults := Value.none,
        pyModule := Value.str (Str.ofString "law_ny0077_01") 466, code := Value.ref 165 } }) ::
  []

def env_41 : Env := { scope := PySem.Challenge.pw_ny0077_01.main.scope, locals := mainNs, globals := mainNs, cells := [], code := Value.ref 13, frame := some 14 }
def bod : List Stmt := behindTheImports PySem.Challenge.pw_ny0077_01
def cE : Code := Code.body (behindTheImports PySem.Challenge.pw_ny0077_01) env_41
def p0 : Pos := ⟨0, 0, 0, 0⟩
def g1 : List Stmt := [stm 0, stm 1, stm 2]
def g2 : List Stmt := [stm 3]
def g3 : List Stmt := (behindTheImports PySem.Challenge.pw_ny0077_01).drop 4
def T0 (w : World) (os : OsState) : SharedT := ⟨tree_57 w.params, 15, {}, #[], {}, 187, os⟩
def T1 (w : World) (os : OsState) : SharedT := ⟨tree_102 w.params, 57, {}, #[], {}, 253, os⟩
def T2 (w : World) (os : OsState) : SharedT := ⟨tree_108 w.params, 62, {}, #[], {}, 399, os⟩
def T3 (w : World) (os : OsState) : SharedT := ⟨tree_259 w.params, 167, {}, #[], {}, 543, os⟩
theorem open_ : ∀ w : World, (fencedOpening treeTable PySem.Challenge.pw_ny0077_01 w 5000).map (fun s => (s.heap, s.gens, s.drawn, s.toks)) = some (boot_heap w.params, #[], boot_drawn, boot_toks) := fun w => by kernel_rfl
theorem size_ : ∀ w : World, ((boot_heap w.params).isNs mainGlobals && (#[] : Array GenState).size == 0, (boot_heap w.params).objs.size, (boot_heap w.params).nsMap mainGlobals "__annotations__") = (true, 11, some (Value.ref 6)) := fun w => by kernel_rfl
theorem pre_ : ∀ (w : World) (os : OsState), topGo treeTable PySem.Challenge.pw_ny0077_01 w 11 (some (Value.ref 6)) 12 ⟨boot_heap w.params, #[], boot_drawn, boot_toks, os⟩ (topStub PySem.Challenge.pw_ny0077_01) =
    some (⟨heap_56 w.params, #[], {}, 187, os⟩, ⟨denote treeTable cE, cE, p0, [topFrame p0]⟩) := fun w os => by kernel_rfl
theorem blk_ : ∀ (w : World) (os : OsState), segRun treeTable PySem.Challenge.pw_ny0077_01 w 11 (some (Value.ref 6)) 1 1 ⟨heap_56 w.params, #[], {}, 187, os⟩ (blockOf (behindTheImports PySem.Challenge.pw_ny0077_01) env_41 cE p0 [topFrame p0]) =
    some (Flow.next, (T0 w os).abs, cE, p0) := fun w os => by kernel_rfl
theorem split_ : behindTheImports PySem.Challenge.pw_ny0077_01 = g1 ++ (g2 ++ (g3 ++ [])) := by kernel_rfl
theorem p1_ : ∀ (w : World) (os : OsState), segRunT treeTable PySem.Challenge.pw_ny0077_01 w 11 (some (Value.ref 6)) 1 346 (T0 w os) (piecesOf g1 env_41 cE p0 [topFrame p0]) =
    some (Flow.next, T1 w os, cE, ⟨50, 0, 50, 8⟩) := fun w os => by
  first
  | (rw [show segRunT treeTable = PySem.W.Fast.tw10110043849684766642 PySem.W.Fast.tw14364793385576792824 from congr PySem.W.Fast.te10110043849684766642 PySem.W.Fast.te14364793385576792824]; kernel_rfl)
  | kernel_rfl
def lhs2 (w : World) (os : OsState) : Option (Flow × SharedT × Code × Pos) := segRunT treeTable PySem.Challenge.pw_ny0077_01 w 11 (some (Value.ref 6)) 1 1253 (T1 w os) (piecesOf g2 env_41 cE ⟨50, 0, 50, 8⟩ [topFrame p0])
def rhs2 (w : World) (os : OsState) : Option (Flow × SharedT × Code × Pos) := some (Flow.next, T2 w os, cE, ⟨51, 0, 51, 18⟩)
theorem p2ff (w : World) (os : OsState) : lhs2 ((w.withFollow "comprehension-iter-twice" false).withFollow "special-get-raises" false) os = rhs2 ((w.withFollow "comprehension-iter-twice" false).withFollow "special-get-raises" false) os := by
  unfold lhs2
  first
  | (rw [show segRunT treeTable = PySem.W.Fast.tw10110043849684766642 PySem.W.Fast.tw14364793385576792824 from congr PySem.W.Fast.te10110043849684766642 PySem.W.Fast.te14364793385576792824]; kernel_rfl)
  | kernel_rfl
theorem p2ft (w : World) (os : OsState) : lhs2 ((w.withFollow "comprehension-iter-twice" true).withFollow "special-get-raises" false) os = rhs2 ((w.withFollow "comprehension-iter-twice" true).withFollow "special-get-raises" false) os := by
  unfold lhs2
  first
  | (rw [show segRunT treeTable = PySem.W.Fast.tw10110043849684766642 PySem.W.Fast.tw14364793385576792824 from congr PySem.W.Fast.te10110043849684766642 PySem.W.Fast.te14364793385576792824]; kernel_rfl)
  | kernel_rfl
theorem p2tf (w : World) (os : OsState) : lhs2 ((w.withFollow "comprehension-iter-twice" false).withFollow "special-get-raises" true) os = rhs2 ((w.withFollow "comprehension-iter-twice" false).withFollow "special-get-raises" true) os := by
  unfold lhs2
  first
  | (rw [show segRunT treeTable = PySem.W.Fast.tw10110043849684766642 PySem.W.Fast.tw14364793385576792824 from congr PySem.W.Fast.te10110043849684766642 PySem.W.Fast.te14364793385576792824]; kernel_rfl)
  | kernel_rfl
theorem p2tt (w : World) (os : OsState) : lhs2 ((w.withFollow "comprehension-iter-twice" true).withFollow "special-get-raises" true) os = rhs2 ((w.withFollow "comprehension-iter-twice" true).withFollow "special-get-raises" true) os := by
  unfold lhs2
  first
  | (rw [show segRunT treeTable = PySem.W.Fast.tw10110043849684766642 PySem.W.Fast.tw14364793385576792824 from congr PySem.W.Fast.te10110043849684766642 PySem.W.Fast.te14364793385576792824]; kernel_rfl)
  | kernel_rfl
theorem p2_ (w : World) : ∀ os : OsState, lhs2 w os = rhs2 w os :=
  byRow2 (P := fun w => ∀ os, lhs2 w os = rhs2 w os) "special-get-raises"
    (fun w => byRow2 (P := fun w => ∀ os, lhs2 (w.withFollow "special-get-raises" false) os = rhs2 (w.withFollow "special-get-raises" false) os) "comprehension-iter-twice" (fun w os => p2ff w os) (fun w os => p2ft w os) w)
    (fun w => byRow2 (P := fun w => ∀ os, lhs2 (w.withFollow "special-get-raises" true) os = rhs2 (w.withFollow "special-get-raises" true) os) "comprehension-iter-twice" (fun w os => p2tf w os) (fun w os => p2tt w os) w) w
theorem p3_ : ∀ (w : World) (os : OsState), segRunT treeTable PySem.Challenge.pw_ny0077_01 w 11 (some (Value.ref 6)) 1 1000 (T2 w os) (piecesOf g3 env_41 cE ⟨51, 0, 51, 18⟩ [topFrame p0]) =
    some (Flow.next, T3 w os, cE, ⟨137, 0, 160, 15⟩) := fun w os => by
  first
  | (rw [show segRunT treeTable = PySem.W.Fast.tw10110043849684766642 PySem.W.Fast.tw14364793385576792824 from congr PySem.W.Fast.te10110043849684766642 PySem.W.Fast.te14364793385576792824]; kernel_rfl)
  | kernel_rfl
theorem fin_ : ∀ (w : World) (os : OsState), topRun treeTable PySem.Challenge.pw_ny0077_01 w 11 (some (Value.ref 6)) 2 (T3 w os).abs ⟨doneF Flow.next, cE, ⟨137, 0, 160, 15⟩, [topFrame p0]⟩ =
    some ⟨heap_260 w.params, #[], {}, 543, os⟩ := fun w os => by kernel_rfl
def view_39 : Program := { PySem.Challenge.pw_ny0077_01 with main := { PySem.Challenge.pw_ny0077_01.main with body := [stm 1, stm 3, stm 4, stm 6, stm 8, stm 9, stm 10, stm 12, stm 13, stm 14, stm 15, stm 16, stm 17, stm 18, stm 19, stm 20] } }
def roots : List Addr := [2, 3, 22, 24, 25, 27, 28, 29, 31, 32, 34, 35, 36, 38, 39, 41, 42, 43, 45, 46, 48, 49, 50, 51, 52, 53, 54, 58, 62, 64, 65, 67, 68, 69, 71, 72, 74, 75, 76, 83, 84, 85, 86, 89, 96, 97, 98, 101, 103, 104, 106, 107, 108, 110, 111, 113, 114, 115, 117, 118, 120, 121, 122, 124, 125, 127, 128, 129, 131, 132, 134, 135, 136, 138, 139, 141, 142, 143, 145, 146, 148, 149, 150, 152, 153, 155, 156, 157, 160, 161, 162, 165, 166]
theorem rootsOf (P : Params) : [2, 3, 22, 24, 25, 27, 28, 29, 31, 32, 34, 35, 36, 38, 39, 41, 42, 43, 45, 46, 48, 49, 50, 51, 52, 53, 54, 58, 62, 64, 65, 67, 68, 69, 71, 72, 74, 75, 76, 83, 84, 85, 86, 89, 96, 97, 98, 101, 103, 104, 106, 107, 108, 110, 111, 113, 114, 115, 117, 118, 120, 121, 122, 124, 125, 127, 128, 129, 131, 132, 134, 135, 136, 138, 139, 141, 142, 143, 145, 146, 148, 149, 150, 152, 153, 155, 156, 157, 160, 161, 162, 165, 166] = (heap_39 P).map (·.1) := by kernel_rfl
def sF (w : World) (os : OsState) : Shared := ⟨heap_260 w.params, #[], {}, 543, os⟩
abbrev lo : List Str := [Str.ofString "_special_chars_map"]
abbrev hook : Hook := kmHook heap_39 [2, 3, 22, 24, 25, 27, 28, 29, 31, 32, 34, 35, 36, 38, 39, 41, 42, 43, 45, 46, 48, 49, 50, 51, 52, 53, 54, 58, 62, 64, 65, 67, 68, 69, 71, 72, 74, 75, 76, 83, 84, 85, 86, 89, 96, 97, 98, 101, 103, 104, 106, 107, 108, 110, 111, 113, 114, 115, 117, 118, 120, 121, 122, 124, 125, 127, 128, 129, 131, 132, 134, 135, 136, 138, 139, 141, 142, 143, 145, 146, 148, 149, 150, 152, 153, 155, 156, 157, 160, 161, 162, 165, 166] rootsOf [137]
def seenAt (w : World) (os : OsState) := openSeen view_39 lo (importedModules PySem.Challenge.pw_ny0077_01.main.body) (fun s => xlAt view_39 [] s && recOk PySem.Challenge.rw_ny0077_01.row.toRowW.records s) true (sF w os)
theorem lk0 (w : World) (os : OsState) : (staticsOk (importedModules PySem.Challenge.pw_ny0077_01.main.body) (boot_heap w.params) (heap_260 w.params) && namesBound PySem.Challenge.pw_ny0077_01 (heap_260 w.params) && gensDone (sF w os) && laidKept (boot_heap w.params) (heap_260 w.params)) = true := by kernel_rfl
theorem lkA (w : World) (os : OsState) : hook.obs (sF w os) = hook.val w := by kernel_rfl
theorem seen_ (w : World) (os : OsState) : seenAt w os = openGood view_39 lo := by kernel_rfl
theorem run_ (w : World) (os : OsState) : topRun treeTable PySem.Challenge.pw_ny0077_01 w 11 (some (Value.ref 6)) (12 + (1 + (346 + (1253 + (1000 + 2))))) ⟨boot_heap w.params, #[], boot_drawn, boot_toks, os⟩ (topStub PySem.Challenge.pw_ny0077_01) =
    some ⟨heap_260 w.params, #[], {}, 543, os⟩ := by
  refine go_top (pre_ w os) ?_
  refine piece_block (blk_ w os) ?_
  rw [split_]
  refine piece_app (segRun_of (p1_ w os)) ?_
  refine piece_app (segRun_of (p2_ w os)) ?_
  refine piece_app (segRun_of (p3_ w os)) ?_
  exact piece_nil (fin_ w os)
theorem left_ : LeftO PySem.Challenge.pw_ny0077_01 view_39 lo (fun s => xlAt view_39 [] s && recOk PySem.Challenge.rw_ny0077_01.row.toRowW.records s) hook.obs hook.val 5000 :=
  LeftO.of_pieces (H₀ := boot_heap) (H₁ := heap_260) open_ size_ run_ (by rfl) (fun w => funext fun os => looks_pair (lk0 w os) (looks_pair (seen_ w os) (lkA w os)))
theorem said_ : PySem.Challenge.rw_ny0077_01.wellSaid = true := by
  first
  | (rw [show OpenLaw.wellSaid = PySem.W.Fast.tw9446332074065402090 from PySem.W.Fast.te9446332074065402090]; kernel_rfl)
  | kernel_rfl
theorem wit_ : PySem.Challenge.rw_ny0077_01.row.toRowW.promised := by w_witness2
theorem head {d : DefRec} {kwd : List (Str × Expr)} (hdef : defOf view_39 PySem.Challenge.rw_ny0077_01.row.name = some (d, kwd)) (hp : PySem.Challenge.rw_ny0077_01.row.prog.theDef PySem.Challenge.rw_ny0077_01.row.name = some (d.params, d.body, d.scope))
    (hk : kwWritten? d.params.kwonlyargs d.params.kw_defaults = some kwd)
    (call : WalkO view_39 [Str.ofString "_special_chars_map"] (XL view_39 []) (kmHook heap_39 [2, 3, 22, 24, 25, 27, 28, 29, 31, 32, 34, 35, 36, 38, 39, 41, 42, 43, 45, 46, 48, 49, 50, 51, 52, 53, 54, 58, 62, 64, 65, 67, 68, 69, 71, 72, 74, 75, 76, 83, 84, 85, 86, 89, 96, 97, 98, 101, 103, 104, 106, 107, 108, 110, 111, 113, 114, 115, 117, 118, 120, 121, 122, 124, 125, 127, 128, 129, 131, 132, 134, 135, 136, 138, 139, 141, 142, 143, 145, 146, 148, 149, 150, 152, 153, 155, 156, 157, 160, 161, 162, 165, 166] rootsOf [137]).says PySem.Challenge.rw_ny0077_01.row.toRowW d kwd fun f vs => PySem.call f vs) : PySem.Challenge.rw_ny0077_01.Holds := by
  refine holds_law said_ (fun said => ?_)
  exact holds_open left_ (Hook.of hook) (Hook.keeps hook) (fun s e => xl_of s (Bool.and_eq_true_iff.mp e).1) XL.keeps hdef hp hk (fun s e => recFacts_of (Bool.and_eq_true_iff.mp e).2) (by rfl) said (by decide +kernel) ⟨rfl, rfl, rfl, rfl, rfl, by decide +kernel⟩ wit_ call
end hd
end
/-! ### texts as lists of signs -/
@[irreducible] def S (l : List Nat) : Str := ⟨l.toArray⟩
theorem S_cps (l : List Nat) : (S l).cps.toList = l := by unfold S; rfl
theorem S_mk (l : List Nat) : S l = ⟨l.toArray⟩ := by unfold S; rfl
theorem S_eta (x : Str) : S x.cps.toList = x := by unfold S; rfl
theorem S_app (a b : List Nat) : S a ++ S b = S (a ++ b) := by
  rw [S_mk, S_mk, S_mk]
  apply congrArg Str.mk
  apply Array.toList_inj.mp
  simp
theorem S_len (l : List Nat) : (S l).length = l.length := by simp [S_mk, Str.length]
theorem S_inj {a b : List Nat} (h : S a = S b) : a = b := by
  have := congrArg (fun s : Str => s.cps.toList) h
  simpa [S_cps] using this
theorem S_beq (a b : List Nat) : (S a == S b) = decide (a = b) := by
  by_cases h : a = b
  · subst h; simp
  · rw [decide_eq_false h]
    exact beq_eq_false_iff_ne.mpr fun e => h (S_inj e)

def dqL : List Nat → List Nat
  | [] => []
  | c :: r => if c = 34 then 34 :: 34 :: dqL r else c :: dqL r
def escL : List Nat → List Nat
  | [] => []
  | c :: r => if c = 92 ∨ c = 46 then 92 :: c :: escL r else c :: escL r
def parseL : List Nat → List Nat
  | [] => []
  | [c] => if c = 34 then [] else [c]
  | c :: d :: r => if c = 34 then (if d = 34 then 34 :: parseL r else []) else c :: parseL (d :: r)
def comeL : List Nat → Int → List Nat
  | [], _ => []
  | c :: r, n => if n - (if c = 34 then 2 else 1) < 0 then [] else c :: comeL r (n - (if c = 34 then 2 else 1))
def Ok (l : List Nat) : Prop := ∀ c ∈ l, c = 34 ∨ c = 97 ∨ c = 92 ∨ c = 46 ∨ c = 65 ∨ c = 47

/-- one sign for a text -/
def subL (c : Nat) (z : List Nat) : List Nat → List Nat
  | [] => []
  | k :: r => if k = c then z ++ subL c z r else k :: subL c z r
theorem subL_app (c : Nat) (z : List Nat) : ∀ a b : List Nat, subL c z (a ++ b) = subL c z a ++ subL c z b
  | [], _ => rfl
  | k :: r, b => by
    have ih := subL_app c z r b
    by_cases h : k = c <;> simp [subL, h, ih]
theorem subL_free (c : Nat) (z : List Nat) : ∀ l : List Nat, c ∉ l → subL c z l = l
  | [], _ => rfl
  | k :: r, h => by
    have h1 : ¬ k = c := fun e => h (e ▸ List.mem_cons_self ..)
    have h2 : c ∉ r := fun m => h (List.mem_cons_of_mem _ m)
    simp [subL, h1, subL_free c z r h2]
theorem subL_join (c : Nat) (z : List Nat) : ∀ parts : List Str, (∀ p ∈ parts, c ∉ p.cps.toList) → subL c z (Str.join ⟨#[c]⟩ parts).cps.toList = (Str.join (S z) parts).cps.toList
  | [], _ => rfl
  | [p], h => subL_free c z _ (h p (List.mem_singleton.mpr rfl))
  | p :: q :: r, h => by
    have ih := subL_join c z (q :: r) fun a ha => h a (List.mem_cons_of_mem _ ha)
    show subL c z (p ++ ⟨#[c]⟩ ++ Str.join ⟨#[c]⟩ (q :: r)).cps.toList = (p ++ S z ++ Str.join (S z) (q :: r)).cps.toList
    simp only [Str.cps_append, Array.toList_append]
    rw [subL_app, subL_app, ih, subL_free c z _ (h p (List.mem_cons_self ..))]
    simp [subL, S_cps]
theorem replace_sub (l z : List Nat) (c : Nat) : Txt.replace (S l) (S [c]) (S z) = S (subL c z l) := by
  have e : (Txt.replace (S l) (S [c]) (S z)).cps.toList = subL c z l := by
    rw [S_mk [c]]
    show (Txt.replace (S l) ⟨#[c]⟩ (S z)).cps.toList = subL c z l
    rw [StrLaws.replace_one, ← subL_join c z _ (StrLaws.split_free (S l) c), StrLaws.join_split, S_cps]
  rw [← S_eta (Txt.replace (S l) (S [c]) (S z)), e]
theorem sub_dq : ∀ l : List Nat, subL 34 [34, 34] l = dqL l
  | [] => rfl
  | c :: r => by
    by_cases h : c = 34 <;> simp [subL, dqL, h, sub_dq r]
theorem sub_esc : ∀ l : List Nat, subL 46 [92, 46] (subL 92 [92, 92] l) = escL l
  | [] => rfl
  | c :: r => by
    have ih := sub_esc r
    by_cases h : c = 92
    · subst h; simp [subL, escL, ih]
    · by_cases h2 : c = 46
      · subst h2; simp [subL, escL, ih]
      · simp [subL, escL, h, h2, ih]
theorem dqL_len : ∀ l : List Nat, (dqL l).length ≤ 2 * l.length
  | [] => Nat.le_refl _
  | c :: r => by
    have := dqL_len r
    by_cases h : c = 34 <;> simp [dqL, h] <;> omega
theorem escL_len : ∀ l : List Nat, (escL l).length ≤ 2 * l.length
  | [] => Nat.le_refl _
  | c :: r => by
    have := escL_len r
    by_cases h : c = 92 ∨ c = 46 <;> simp [escL, h] <;> omega
theorem subL_len (c : Nat) (z : List Nat) (hz : z.length ≤ 2) : ∀ l : List Nat, (subL c z l).length ≤ 2 * l.length
  | [] => Nat.le_refl _
  | k :: r => by
    have := subL_len c z hz r
    by_cases h : k = c <;> simp [subL, h] <;> omega

/-! ### str.replace, with what becomes of the counter of tokens -/
section
open Builtin Builtin.Str
variable {prog : Program} {w : World} {A : Around} {E : Value → Shared → Prop} {s : Shared} {x y z : Str} {t u v : Tok} {Q : Value → Shared → Prop}
theorem replaceT (hu : u ≠ 0) (hv : v ≠ 0) (huv : u ≠ v) (hyz : (y == z) = false) (hb : x.length + (x.length + 1) * z.length ≤ 16777216)
    (hq : ∀ t' k, s.toks ≤ k → Q (.str (Txt.replace x y z) t') { s with toks := k }) : wpAny (model prog w) A (call (.builtin "str.replace") [.str x t, .str y u, .str z v]) Q E s := by
  have hl : tooLong (x.length + (occurrences x y 0 x.length (x.length + 1)).length * z.length) = false := by
    have h1 := StrLaws.occ_length_le x y 0 x.length (x.length + 1)
    have h2 : (occurrences x y 0 x.length (x.length + 1)).length * z.length ≤ (x.length + 1) * z.length := Nat.mul_le_mul_right _ h1
    unfold tooLong sizeLine
    exact decide_eq_false (by omega)
  refine call_gives F.slot_str_replace (typeIs_str _ _ _) F.entry_str_replace (F.args_str_replace_3 _ _ _)
    (gives_str_replace x y z t u v fun _ => ⟨by simp [hu, hv], by simp [huv], hyz, hl⟩) ?_
  have hq' := hq
  unfold Txt.replace at hq'
  cases hc : ((occurrences x y 0 x.length (x.length + 1)).isEmpty || (y.length == 0 && z.length == 0))
  · rw [hc] at hq'
    simp only [Bool.false_eq_true, if_false] at hq' ⊢
    exact ⟨fits_replaced y hb, hq' _ _ (Nat.le_succ _)⟩
  · rw [hc] at hq'
    simp only [if_true] at hq' ⊢
    exact hq' t s.toks (Nat.le_refl _)
end
theorem gen_toks {α : Type} {M : Model} {A : Around} {t : Sem α} {Q : α → Shared → Prop} {E : Value → Shared → Prop} {s : Shared} (h0 : 0 < s.toks) (h : ∀ tk, 0 < tk → wpAny M A t Q E { s with toks := tk }) : wpAny M A t Q E s := h s.toks h0
section
variable {w : World} {p : Program} {loose : List Str} {mean : ExcName → Option Value} {mg mb : Str → Option Value}
theorem replaceS {prog : Program} {w : World} {A : Around} {E : Value → Shared → Prop} {s : Shared} {l : List Nat} {y z : Str} {t u v : Tok} {Q : Value → Shared → Prop} (c : Nat) (zs : List Nat) (hy : y = S [c]) (hz : z = S zs) (hne : zs.length = 2) (hl : l.length ≤ 100000)
    (h0 : 0 < s.toks) (hu : @Eq Nat u (s.toks - 2)) (hv : @Eq Nat v (s.toks - 1)) (h2 : 2 < s.toks)
    (hq : ∀ t' k, 0 < k → Q (.str (S (subL c zs l)) t') { s with toks := k }) : wpAny (model prog w) A (call (.builtin "str.replace") [.str (S l) t, .str y u, .str z v]) Q E s := by
  subst hy hz
  have e1 : @Ne Nat u 0 := by omega
  have e2 : @Ne Nat v 0 := by omega
  have e3 : @Ne Nat u v := by omega
  refine replaceT e1 e2 e3 ?_ ?_ fun t' k hk => ?_
  · rw [S_beq]; exact decide_eq_false fun e => by rw [← e] at hne; simp at hne
  · rw [S_len, S_len, hne]; omega
  · rw [replace_sub]; exact hq t' k (by omega)
theorem replaceS1 {prog : Program} {w : World} {A : Around} {E : Value → Shared → Prop} {s : Shared} {l : List Nat} {y z : Str} {t u v : Tok} {Q : Value → Shared → Prop} (c d : Nat) (hy : y = S [c]) (hz : z = S [d]) (hne : c ≠ d) (hl : l.length ≤ 100000)
    (h0 : 0 < s.toks) (hu : @Eq Nat u (s.toks - 2)) (hv : @Eq Nat v (s.toks - 1)) (h2 : 2 < s.toks)
    (hq : ∀ t' k, 0 < k → Q (.str (S (subL c [d] l)) t') { s with toks := k }) : wpAny (model prog w) A (call (.builtin "str.replace") [.str (S l) t, .str y u, .str z v]) Q E s := by
  subst hy hz
  have e1 : @Ne Nat u 0 := by omega
  have e2 : @Ne Nat v 0 := by omega
  have e3 : @Ne Nat u v := by omega
  refine replaceT e1 e2 e3 ?_ ?_ fun t' k hk => ?_
  · rw [S_beq]; exact decide_eq_false fun e => hne (by simpa using e)
  · simp only [S_len, List.length_cons, List.length_nil]; omega
  · rw [replace_sub]; exact hq t' k (by omega)
theorem addS {prog : Program} {w : World} {A : Around} {E : Value → Shared → Prop} {s : Shared} {x y : Str} {t u : Tok} {Q : Value → Shared → Prop} (a b : List Nat) (hx : x = S a) (hy : y = S b) (hl : a.length + b.length ≤ 100000)
    (hq : ∀ t' k, Q (.str (S (a ++ b)) t') { s with toks := k }) : wpAny (model prog w) A (binaryOp .Add (.str x t) (.str y u)) Q E s := by
  subst hx hy
  refine KOpn.add (by rw [S_len, S_len]; omega) fun t' k _ => ?_
  rw [S_app]; exact hq t' k
local macro_rules | `(tactic| walk_at "binaryOp Add str str") => `(tactic| (k_here; (first | with_reducible refine addS _ _ rfl rfl ?a1 ?_ | refine addS [46, 42] _ (by decide +kernel) (by with_reducible rfl) ?a1 ?_ | refine addS [50, 53, 55, 32, 34] _ (by decide +kernel) (by with_reducible rfl) ?a1 ?_ | refine addS _ [34, 32, 34] (by with_reducible rfl) (by decide +kernel) ?a1 ?_ | refine addS _ [34] (by with_reducible rfl) (by decide +kernel) ?a1 ?_); (case a1 => ((try simp only [List.length_append, List.length_cons, List.length_nil]); omega)); intro t9' k9'))
local macro_rules | `(tactic| walk_at "call builtin:str.replace") => `(tactic| (k_here; (first | refine replaceS 34 [34, 34] (by decide +kernel) (by decide +kernel) (by decide +kernel) ?a1 ?a2 ?a3 ?a4 ?a5 ?_ | refine replaceS 92 [92, 92] (by decide +kernel) (by decide +kernel) (by decide +kernel) ?a1 ?a2 ?a3 ?a4 ?a5 ?_ | refine replaceS 46 [92, 46] (by decide +kernel) (by decide +kernel) (by decide +kernel) ?a1 ?a2 ?a3 ?a4 ?a5 ?_); (case a1 => first | omega | ((try simp only [subL_len]); omega)); (case a2 => (dsimp only; omega)); (case a3 => (dsimp only; omega)); (case a4 => (dsimp only; omega)); (case a5 => (dsimp only; omega)); intro t9' k9' hk9'))
set_option maxRecDepth 100000 in
set_option maxHeartbeats 8000000 in
theorem doubled_ok (news : List (Addr × Obj)) (l : List Nat) (t : Tok) :
  CbClaim PySem.Challenge.rw_ny0077_01.row.prog w (hd.heap_39 w.params) p loose mean mg mb 128 news [] (l.length ≤ 1000) [.str (S l) t] (fun t => .str (S (dqL l)) t) := by
  w_on
  k_fill
  dsimp only [CbClaim, CbLists, CbRet]
  intros; rename_i hlen _ _ hret
  refine wpAny_call ?_
  w_strict (k_dflt cell_enter)
  refine gen_toks (Nat.succ_pos _) ?_
  intro tk0 htk0
  dsimp only
  refine wpAny_execs_cons ?_; try dsimp only
  k_steps
  rw [sub_dq]
  cb_end hret
set_option maxRecDepth 100000 in
set_option maxHeartbeats 8000000 in
theorem pattern_ok (news : List (Addr × Obj)) (l : List Nat) (t : Tok) :
  CbClaim PySem.Challenge.rw_ny0077_01.row.prog w (hd.heap_39 w.params) p loose mean mg mb 135 news [] (l.length ≤ 1000) [.str (S l) t] (fun t => .str (S (46 :: 42 :: escL l)) t) := by
  w_on
  k_fill
  dsimp only [CbClaim, CbLists, CbRet]
  intros; rename_i hlen _ _ hret
  have hlen2 := subL_len 92 [92, 92] (by decide +kernel) l
  have hlen3 := subL_len 46 [92, 46] (by decide +kernel) (subL 92 [92, 92] l)
  refine wpAny_call ?_
  w_strict (k_dflt cell_enter)
  refine gen_toks (Nat.succ_pos _) ?_
  intro tk0 htk0
  dsimp only
  refine wpAny_execs_cons ?_; try dsimp only
  k_steps
  rw [sub_esc]
  cb_end hret
end
def StopAt (P : Prop) : Prop := P
theorem stopAt {P : Prop} (h : StopAt P) : P := h
theorem StopAt.out {P : Prop} (h : P) : StopAt P := h
section
variable {M : Model} {A : Around} {E : Value → Shared → Prop} {env : Env} {k : Nat} {pos : Pos} {Q : Value → Shared → Prop} {h : Heap} {g : Array GenState} {d : Drawn} {t : Nat} {os : OsState}
theorem constStr {x : Str} (hq : Q (.str x t) ⟨h, g, d, t + 1, os⟩) : wpAny M A (eval (.Constant (.str x) k pos) env) Q E ⟨h, g, d, t, os⟩ := Calls.Constant_str hq
theorem constInt {i : Int} (hq : Q (.int i t) ⟨h, g, d, t + 1, os⟩) : wpAny M A (eval (.Constant (.int i) k pos) env) Q E ⟨h, g, d, t, os⟩ := wpAny_Constant_int hq
end
/-! ### texts: slices, signs, comparisons -/
section
open PySem.Builtin PySem.Builtin.Str
theorem slice_ss (l : List Nat) (a b : Nat) (h : a ≤ b) : Txt.slice (S l) (some (a : Int)) (some (b : Int)) = S ((l.drop a).take (b - a)) := by
  have e1 : strSliceIndices (some (a : Int)) (some (b : Int)) 1 (S l).length = strSliceIndices (some ((min a (S l).length : Nat) : Int)) (some ((min b (S l).length : Nat) : Int)) 1 (S l).length := by
    have a1 : ¬ ((a : Int) < 0) := by omega
    have a2 : ¬ ((b : Int) < 0) := by omega
    have a3 : ¬ (((min a (S l).length : Nat) : Int) < 0) := by omega
    have a4 : ¬ (((min b (S l).length : Nat) : Int) < 0) := by omega
    have e1 : max (0 : Int) (min (a : Int) ((S l).length : Int)) = max 0 (min ((min a (S l).length : Nat) : Int) ((S l).length : Int)) := by omega
    have e2 : max (0 : Int) (min (b : Int) ((S l).length : Int)) = max 0 (min ((min b (S l).length : Nat) : Int) ((S l).length : Int)) := by omega
    simp only [strSliceIndices, a1, a2, a3, a4, if_false, show (1 : Int) > 0 by decide, if_true, e1, e2]
  have e2 : Txt.slice (S l) (some (a : Int)) (some (b : Int)) = StrLaws.sliceText (S l) (some ((min a (S l).length : Nat) : Int)) (some ((min b (S l).length : Nat) : Int)) := by
    unfold Txt.slice StrLaws.sliceText
    rw [e1]
  rw [e2, StrLaws.sliceText_nat (S l) (by omega) (by omega), S_cps, ← S_mk, S_len]
  congr 1
  by_cases hal : a ≤ l.length
  · rw [Nat.min_eq_left hal]
    by_cases hbl : b ≤ l.length
    · rw [Nat.min_eq_left hbl]
    · rw [Nat.min_eq_right (by omega), List.take_of_length_le (by simp), List.take_of_length_le (by simp; omega)]
  · rw [Nat.min_eq_right (by omega), List.drop_of_length_le (by omega), List.drop_of_length_le (by omega)]
    simp
theorem slice_ns (l : List Nat) (b : Nat) : Txt.slice (S l) none (some (b : Int)) = S (l.take b) := by
  have e : Txt.slice (S l) none (some (b : Int)) = Txt.slice (S l) (some ((0 : Nat) : Int)) (some (b : Int)) := by
    unfold Txt.slice
    rw [StrLaws.sliceIdx_none_lo]; rfl
  rw [e, slice_ss _ _ _ (Nat.zero_le _)]
  simp
theorem slice_sn (l : List Nat) (a : Nat) (h : a ≤ l.length) : Txt.slice (S l) (some (a : Int)) none = S (l.drop a) := by
  have e : Txt.slice (S l) (some (a : Int)) none = Txt.slice (S l) (some (a : Int)) (some ((l.length : Nat) : Int)) := by
    unfold Txt.slice
    rw [StrLaws.sliceIdx_none_hi, S_len]
  rw [e, slice_ss _ _ _ h]
  congr 1
  exact List.take_of_length_le (by simp)
end
section
variable {prog : Program} {w : World} {A : Around} {E : Value → Shared → Prop} {s : Shared} {value slice : Expr} {l : List Nat} {t : Tok} {h₀ : Heap} {L : Addr} {m : Str → Option Value} {news : List (Addr × Obj)} {Q : Value → Shared → Prop}
theorem sl_ns {j : Int} {uj : Tok} (hF : Fr h₀ L s.heap m) (hN : News h₀ L s.heap news) (hl : l.length ≤ 100000) (hj : 0 ≤ j) (h : ∀ h' t' k, Fr h₀ L h' m → News h₀ L h' news → Q (.str (S (l.take j.toNat)) t') { s with heap := h', toks := k })
    (hs : subscripted slice false (.str (S l) t) (.ref s.heap.objs.size) = operate [.ref s.heap.objs.size, .str (S l) t] (getItem (.str (S l) t) (.ref s.heap.objs.size)) := by with_unfolding_all rfl)
    (ht : ∀ r, letTemporaryGo value (.str (S l) t) r = pure () := by intro _; with_unfolding_all rfl) :
    wpAny (model prog w) A (subscriptTail value slice (.str (S l) t) (.ref s.heap.objs.size)) Q E { s with heap := s.heap.push { cls := .type "slice", data := .fields #[.none, .int j uj, .none] } } := by
  refine slice_strN_ns hF hN (fun h' t' k F N => ?_) hs ht (by rw [S_len, sizeLine_eq]; omega)
  obtain ⟨b, rfl⟩ := Int.eq_ofNat_of_zero_le hj
  rw [slice_ns]; exact h h' t' k F N
theorem sl_sn {i : Int} {ui : Tok} (hF : Fr h₀ L s.heap m) (hN : News h₀ L s.heap news) (hl : l.length ≤ 100000) (hj : 0 ≤ i) (hj2 : i.toNat ≤ l.length) (h : ∀ h' t' k, Fr h₀ L h' m → News h₀ L h' news → Q (.str (S (l.drop i.toNat)) t') { s with heap := h', toks := k })
    (hs : subscripted slice false (.str (S l) t) (.ref s.heap.objs.size) = operate [.ref s.heap.objs.size, .str (S l) t] (getItem (.str (S l) t) (.ref s.heap.objs.size)) := by with_unfolding_all rfl)
    (ht : ∀ r, letTemporaryGo value (.str (S l) t) r = pure () := by intro _; with_unfolding_all rfl) :
    wpAny (model prog w) A (subscriptTail value slice (.str (S l) t) (.ref s.heap.objs.size)) Q E { s with heap := s.heap.push { cls := .type "slice", data := .fields #[.int i ui, .none, .none] } } := by
  refine slice_strN_sn hF hN (fun h' t' k F N => ?_) hs ht (by rw [S_len, sizeLine_eq]; omega)
  obtain ⟨b, rfl⟩ := Int.eq_ofNat_of_zero_le hj
  rw [slice_sn _ _ (by simpa using hj2)]; exact h h' t' k F N
theorem sl_ss {i j : Int} {ui uj : Tok} (hF : Fr h₀ L s.heap m) (hN : News h₀ L s.heap news) (hl : l.length ≤ 100000) (hi : 0 ≤ i) (hij : i ≤ j) (h : ∀ h' t' k, Fr h₀ L h' m → News h₀ L h' news → Q (.str (S ((l.drop i.toNat).take (j.toNat - i.toNat))) t') { s with heap := h', toks := k })
    (hs : subscripted slice false (.str (S l) t) (.ref s.heap.objs.size) = operate [.ref s.heap.objs.size, .str (S l) t] (getItem (.str (S l) t) (.ref s.heap.objs.size)) := by with_unfolding_all rfl)
    (ht : ∀ r, letTemporaryGo value (.str (S l) t) r = pure () := by intro _; with_unfolding_all rfl) :
    wpAny (model prog w) A (subscriptTail value slice (.str (S l) t) (.ref s.heap.objs.size)) Q E { s with heap := s.heap.push { cls := .type "slice", data := .fields #[.int i ui, .int j uj, .none] } } := by
  refine slice_strN_ss hF hN (fun h' t' k F N => ?_) hs ht (by rw [S_len, sizeLine_eq]; omega)
  obtain ⟨a, rfl⟩ := Int.eq_ofNat_of_zero_le hi
  obtain ⟨b, rfl⟩ := Int.eq_ofNat_of_zero_le (Int.le_trans hi hij)
  rw [slice_ss _ _ _ (by omega)]; exact h h' t' k F N
theorem itemS {i : Int} {u : Tok} (h0 : 0 ≤ i) (h1 : i < l.length) (hl : l.length ≤ 100000) (h : Q (.str (S [l.getD i.toNat 0]) s.toks) { s with toks := s.toks + 1 })
    (hs : subscripted slice false (.str (S l) t) (.int i u) = operate [.str (S l) t, .int i u] (getItem (.str (S l) t) (.int i u)) := by with_unfolding_all rfl)
    (ht : ∀ r, letTemporaryGo value (.str (S l) t) r = pure () := by intro _; with_unfolding_all rfl) :
    wpAny (model prog w) A (subscriptTail value slice (.str (S l) t) (.int i u)) Q E s := by
  refine item_str (fitsSsize_of (N := 9223372036854775808) (by omega) (by omega) (Int.le_refl _)) (by rw [S_len]; omega) (by rw [S_len]; omega) (fun _ => ?_) hs ht
  rw [item_meets ⟨h0, by rw [S_len]; exact h1⟩]
  have e : (⟨#[(S l).cps.getD i.toNat 0]⟩ : Str) = S [l.getD i.toNat 0] := by
    rw [S_mk, S_mk]
    simp
  rw [e]; exact h
theorem lenS {u : Tok} (hl : l.length ≤ 100000) (h : Q (.int l.length (s.toks + 1)) { s with toks := s.toks + 1 + 1 }) : wpAny (model prog w) A (call (.builtin "len") [.str (S l) u]) Q E s := by
  refine PyProof.Rows.len_str (by rw [S_len]; omega) ?_
  rw [S_len]; exact h
theorem eqS {x y : Str} {t u : Tok} (a b : List Nat) (hx : x = S a) (hy : y = S b) (h : Q (.bool (decide (a = b))) s) : wpAny (model prog w) A (compareOp .Eq (.str x t) (.str y u)) Q E s := by
  subst hx hy
  refine PyProof.Rows.eq_str ?_
  rw [S_beq]; exact h
theorem neS {x y : Str} {t u : Tok} (a b : List Nat) (hx : x = S a) (hy : y = S b) (h : Q (.bool (!decide (a = b))) s) : wpAny (model prog w) A (compareOp .NotEq (.str x t) (.str y u)) Q E s := by
  subst hx hy
  refine PyProof.Rows.ne_str ?_
  unfold bne
  rw [S_beq]; exact h
/-- lies in -/
def inL (a l : List Nat) : Prop := ∃ i, i + a.length ≤ l.length ∧ (l.drop i).take a.length = a
theorem inS {a l : List Nat} {t u : Tok} (h : ∀ b : Bool, (b = true ↔ inL a l) → Q (.bool b) s) : wpAny (model prog w) A (compareOp .In (.str (S a) u) (.str (S l) t)) Q E s := by
  refine PyProof.Rows.in_str (h _ ?_)
  rw [StrLaws.found_iff]
  unfold inL
  simp only [StrLaws.subAt_eq, S_len, S_cps, beq_iff_eq]
theorem startsS {a l : List Nat} {t u : Tok} (h : ∀ b : Bool, (b = true ↔ a <+: l) → Q (.bool b) s) : wpAny (model prog w) A (call (.builtin "str.startswith") [.str (S l) t, .str (S a) u]) Q E s := by
  refine SC.startswith (h _ ?_)
  unfold Txt.startswith
  simp only [StrLaws.subAt_eq, S_len, S_cps, beq_iff_eq, Bool.and_eq_true, decide_eq_true_eq, List.drop_zero]
  constructor
  · rintro ⟨_, e⟩; rw [← e]; exact List.take_prefix _ _
  · intro e; refine ⟨by have := e.length_le; omega, (List.prefix_iff_eq_take.mp e).symm⟩
end
/-! ### a loop over a text's signs -/
def PJ {σ : Type} (P : List Nat → σ → Prop) (q' : List Int) (c : σ) : Prop := ∃ q : List Nat, q' = q.map (fun (n : Nat) => (n : Int)) ∧ P q c
section
variable {prog : Program} {w : World} {A : Around} {E : Value → Shared → Prop} {s : Shared} {env : Env} {h₀ : Heap} {x : Str} {body : List Stmt} {Q : Flow → Shared → Prop}
theorem codes_S (l : List Nat) : KStt.codes (S l) = l.map (fun (n : Nat) => (n : Int)) := by
  unfold KStt.codes
  rw [S_cps]
theorem map_cast_inj : ∀ {a b : List Nat}, a.map (fun (n : Nat) => (n : Int)) = b.map (fun (n : Nat) => (n : Int)) → a = b
  | [], [], _ => rfl
  | [], _ :: _, h => by simp at h
  | _ :: _, [], h => by simp at h
  | x :: a, y :: b, h => by
    simp only [List.map_cons, List.cons.injEq] at h
    rw [map_cast_inj h.2, Int.ofNat.inj h.1]
theorem loopText {σ : Type} {l : List Nat} {tx : Tok} {m₀ : Str → Option Value} (news : List (Addr × Obj)) (ps : σ → List (Str × Value)) (stored : List Str) (P : List Nat → σ → Prop) (c₀ : σ)
    (hh : A.handled = none) (F : Fr h₀ env.locals s.heap m₀) (N : News h₀ env.locals s.heap news) (hk : ∀ p ∈ ps c₀, m₀ p.1 = some p.2) (hp : P [] c₀)
    (turn : ∀ (c : σ) (pre post : List Nat) (n : Nat) t (u : Str → Option Value) h tk own, l = pre ++ n :: post → OwnOff own (news.map (·.1)) → P pre c →
      Fr h₀ env.locals h (fun y => if y = x then some (.str (S [n]) t) else kstB (fun z => if stored.contains z then u z else m₀ z) (ps c) y) → News h₀ env.locals h (news ++ own) →
      wpAny (model prog w) A (execs body env) (InvPostN h₀ env.locals (KstS (fun _ => news) ps (fun _ => True) x stored m₀ (PJ P) ((pre ++ [n]).map (fun (n : Nat) => (n : Int)))) own (news.map (·.1)) { s with heap := h, toks := tk } Q) E { s with heap := h, toks := tk })
    (done : ∀ (c : σ) (u : Str → Option Value) h tk, P l c → Fr h₀ env.locals h (fun y => if y = x then u y else kstB (fun z => if stored.contains z then u z else m₀ z) (ps c) y) → News h₀ env.locals h news → Q .next { s with heap := h, toks := tk }) :
    wpAny (model prog w) A (pyIter (.str (S l) tx)) (fun it s₂ => LoopAtV prog w A h₀ env x body Q E it s₂) E s := by
  refine KStt.kst_text (fun _ => news) ps (fun _ => True) stored (PJ P) c₀ hh F N trivial hk ⟨[], rfl, hp⟩ ?_ ?_
  · rintro c pre post n t u h tk own he hoff - ⟨q, rfl, hq⟩ F1 N1
    rw [codes_S] at he
    obtain ⟨a, b, rfl, ha, hb⟩ := List.map_eq_append_iff.mp he
    obtain ⟨k, b', rfl, hk', hb'⟩ := List.map_eq_cons_iff.mp hb
    have e1 : a = q := map_cast_inj ha
    have e2 : k = n := Int.ofNat.inj hk'
    subst e1 e2
    have e3 : List.map (fun (n : Nat) => (n : Int)) a ++ [(k : Int)] = (a ++ [k]).map (fun (n : Nat) => (n : Int)) := by simp
    rw [e3]
    have e4 : (⟨#[k]⟩ : Str) = S [k] := (S_mk [k]).symm
    rw [e4] at F1
    exact turn c a b' k t u h tk own rfl hoff hq F1 N1
  · rintro c u h tk - ⟨q, hq1, hq⟩ F1 N1
    rw [codes_S] at hq1
    rw [← map_cast_inj hq1] at hq
    exact done c u h tk hq F1 N1
theorem loopText_end {σ : Type} {news : List (Addr × Obj)} {ps : σ → List (Str × Value)} {stored : List Str} {m₀ : Str → Option Value} {P : List Nat → σ → Prop} {pre : List Nat} (c : σ) {L : Addr} {m' : Str → Option Value} {own news' : List (Addr × Obj)} {s₁ : Shared} {h' : Heap} {tk : Nat}
    (F : Fr h₀ L h' m') (N : News h₀ L h' news') (hn : ∀ p ∈ news, p ∈ news') (ho : ∀ p ∈ own, p ∈ news') (hk : ∀ p ∈ ps c, m' p.1 = some p.2) (hr : ∀ z, z ≠ x → (∀ p ∈ ps c, z ≠ p.1) → stored.contains z = false → m' z = m₀ z) (hp : P pre c) :
    InvEndN h₀ L (KstS (fun _ => news) ps (fun _ => True) x stored m₀ (PJ P) (pre.map (fun (n : Nat) => (n : Int)))) own (news.map (·.1)) s₁ { s₁ with heap := h', toks := tk } :=
  kst_end c F N hn ho rfl trivial hk hr ⟨pre, rfl, hp⟩
end
/-! ### a loop over a range -/
def PN {σ : Type} (P : Nat → σ → Prop) (q : List Int) (c : σ) : Prop := P q.length c
section
variable {prog : Program} {w : World} {A : Around} {E : Value → Shared → Prop} {s : Shared} {env : Env} {h₀ : Heap} {x : Str} {body : List Stmt} {Q : Flow → Shared → Prop}
theorem loopRange {σ : Type} {r : Addr} {a₀ b₀ : Int} {t₀ u₀ v₀ : Tok} {m₀ : Str → Option Value} (news : List (Addr × Obj)) (ps : σ → List (Str × Value)) (stored : List Str) (P : Nat → σ → Prop) (c₀ : σ)
    (hh : A.handled = none) (hr : IsRange s.heap r a₀ b₀ 1 t₀ u₀ v₀) (h1 : -1000000 ≤ a₀) (h2 : a₀ ≤ 1000000) (h3 : -1000000 ≤ b₀) (h4 : b₀ ≤ 1000000) (F : Fr h₀ env.locals s.heap m₀) (N : News h₀ env.locals s.heap news) (hk : ∀ p ∈ ps c₀, m₀ p.1 = some p.2) (hp : P 0 c₀)
    (turn : ∀ (c : σ) (i : Nat) (k : Int) t (u : Str → Option Value) h tk own, k = a₀ + (i : Int) → i < (b₀ - a₀).toNat → OwnOff own (news.map (·.1)) → P i c →
      Fr h₀ env.locals h (fun y => if y = x then some (.int k t) else kstB (fun z => if stored.contains z then u z else m₀ z) (ps c) y) → News h₀ env.locals h (news ++ own) →
      ∀ q : List Int, q.length = i + 1 → wpAny (model prog w) A (execs body env) (InvPostN h₀ env.locals (KstS (fun _ => news) ps (fun _ => True) x stored m₀ (PN P) q) own (news.map (·.1)) { s with heap := h, toks := tk } Q) E { s with heap := h, toks := tk })
    (done : ∀ (c : σ) (u : Str → Option Value) h tk, P (b₀ - a₀).toNat c → Fr h₀ env.locals h (fun y => if y = x then u y else kstB (fun z => if stored.contains z then u z else m₀ z) (ps c) y) → News h₀ env.locals h news → Q .next { s with heap := h, toks := tk }) :
    wpAny (model prog w) A (pyIter (.ref r)) (fun it s₂ => LoopAtV prog w A h₀ env x body Q E it s₂) E s := by
  refine kst_range (n := (b₀ - a₀).toNat) (fun _ => news) ps (fun _ => True) stored (PN P) c₀ hh hr (small_one (by omega) (by omega) (by omega) (by omega)) (rangeSize_nat _ _) F N trivial hk hp ?_ ?_
  · rintro c pre k t u h tk own hk1 hlt hoff - hP F1 N1
    exact turn c pre.length k t u h tk own hk1 hlt hoff hP F1 N1 _ (by simp)
  · rintro c u h tk - hP F1 N1
    unfold PN at hP
    rw [rangeKs_length] at hP
    exact done c u h tk hP F1 N1
theorem loopRange_end {σ : Type} {news : List (Addr × Obj)} {ps : σ → List (Str × Value)} {stored : List Str} {m₀ : Str → Option Value} {P : Nat → σ → Prop} {q : List Int} {i : Nat} (c : σ) {L : Addr} {m' : Str → Option Value} {own news' : List (Addr × Obj)} {s₁ : Shared} {h' : Heap} {tk : Nat}
    (F : Fr h₀ L h' m') (N : News h₀ L h' news') (hn : ∀ p ∈ news, p ∈ news') (ho : ∀ p ∈ own, p ∈ news') (hk : ∀ p ∈ ps c, m' p.1 = some p.2) (hr : ∀ z, z ≠ x → (∀ p ∈ ps c, z ≠ p.1) → stored.contains z = false → m' z = m₀ z) (hq : q.length = i) (hp : P i c) :
    InvEndN h₀ L (KstS (fun _ => news) ps (fun _ => True) x stored m₀ (PN P) q) own (news.map (·.1)) s₁ { s₁ with heap := h', toks := tk } :=
  kst_end c F N hn ho rfl trivial hk hr (by unfold PN; rw [hq]; exact hp)
end
/-! ### str.translate by a dict of ints -/
section
open PySem.Builtin PySem.Builtin.Str
variable {prog : Program} {w : World} {A : Around} {E : Value → Shared → Prop} {s : Shared} {d : Addr} {f : Int → Option Value}
theorem tl_text {c : Nat} {x : Str} {tx : Tok} {Q : Mapped → Shared → Prop} (hm : s.heap.MapOf (intKind prog w) d f) (hv : f (c : Int) = some (.str x tx)) (h : ∀ k, Q (.text x) { s with toks := k }) :
    wpAny (model prog w) A (tableLookup (.ref d) c) Q E s := by
  unfold tableLookup
  refine wpAny_bind (wpAny_attempt (wpAny_bind (wpAny_mkInt (wpAny_getItem_of (s := { s with toks := s.toks + 1 }) (intKind_is prog w c _) hm hv ?_))))
  dsimp only
  rw [show asInt? (.str x tx) = pure none from rfl, show asStr? (.str x tx) = pure (some x) from rfl]
  exact wpAny_bind (wpAny_pure (wpAny_bind (wpAny_pure (wpAny_pure (h _)))))
theorem sub_key : isSubtype (.type "KeyError") (.type "LookupError") = pure true := by rw [isSubtype_type]; kernel_rfl
theorem tl_keep {c : Nat} {Q : Mapped → Shared → Prop} (hh : A.handled = none) (hd : (d == sysModules) = false) (hm : s.heap.MapOf (intKind prog w) d f) (hv : f (c : Int) = none) (h : ∀ h' k, (∀ b o, s.heap.get? b = some o → h'.get? b = some o) → Q .keep { s with heap := h', toks := k }) :
    wpAny (model prog w) A (tableLookup (.ref d) c) Q E s := by
  unfold tableLookup
  refine wpAny_bind (wpAny_attempt (wpAny_bind (wpAny_mkInt (wpAny_getItem_missing_of (s := { s with toks := s.toks + 1 }) (intKind_is prog w c _) hd hh hm hv fun h' e X => ?_))))
  obtain ⟨ob, t, he, hc, hdt⟩ := X.there
  dsimp only
  have t1 : Looks (model prog w) h' (isInstance (.ref e) (.type "LookupError")) true := by
    unfold isInstance
    have t2 : Looks (model prog w) h' (typeOf (.ref e)) (.type "KeyError") := (Looks.ld he).andThen (by rw [hc]; exact .now)
    exact t2.andThen (Looks.of_pure sub_key)
  refine wpAny_bind (t1.here ?_)
  exact wpAny_bind (wpAny_rule (wpAny_pure (h _ _ X.keeps)))

/-- what the walk of str.translate keeps: the pieces tell the escaped signs -/
def trPieces (ps : List Str) : List Nat := (ps.reverse.map fun p => p.cps.toList).flatten
theorem trPieces_cons (p : Str) (ps : List Str) : trPieces (p :: ps) = trPieces ps ++ p.cps.toList := by simp [trPieces]
theorem foldl_cps (ps : List Str) : ∀ a : Array Nat, (ps.foldl (fun acc p => acc ++ p.cps) a).toList = a.toList ++ (ps.map fun p => p.cps.toList).flatten := by
  induction ps with
  | nil => intro a; simp
  | cons p r ih => intro a; rw [List.foldl_cons, ih]; simp
theorem flat_len (G : Nat → List Nat) : ∀ l : List Nat, (∀ c ∈ l, (G c).length ≤ 2) → (l.flatMap G).length ≤ 2 * l.length
  | [], _ => Nat.le_refl _
  | c :: r, h => by
    have h1 := h c (List.mem_cons_self ..)
    have h2 := flat_len G r fun x hx => h x (List.mem_cons_of_mem _ hx)
    simp only [List.flatMap_cons, List.length_append, List.length_cons]
    omega
theorem translate_ok {h₀ : Heap} {L : Addr} {m : Str → Option Value} {news : List (Addr × Obj)} {l : List Nat} {t : Tok} {Q : Value → Shared → Prop} (hl : l.length ≤ 1000) (h128 : ∀ c ∈ l, c < 128)
    (hh : A.handled = none) (hd : (d == sysModules) = false) (hF : Fr h₀ L s.heap m) (hN : News h₀ L s.heap news) (hm : s.heap.MapOf (intKind prog w) d f) (hmk : ∀ h' : Heap, (∀ b o, s.heap.get? b = some o → h'.get? b = some o) → h'.MapOf (intKind prog w) d f)
    (g : Nat → Option (List Nat)) (hg : ∀ c ∈ l, match g c with | some z => z.length = 2 ∧ ∃ tx, f (c : Int) = some (.str (S z) tx) | none => f (c : Int) = none)
    (hq : ∀ h' t' k, Fr h₀ L h' m → News h₀ L h' news → Q (.str (S (l.flatMap fun c => (g c).getD [c])) t') { s with heap := h', toks := k }) :
    wpAny (model prog w) A (call (.builtin "str.translate") [.str (S l) t, .ref d]) Q E s := by
  refine wpAny_call_entry PySem.F.slot_str_translate (typeIs_str s (S l) t) PySem.F.entry_str_translate ?_ (PySem.F.args_str_translate_2 _ _)
  unfold Builtin.«str.translate»
  refine wpAny_bind (wpAny_pure ?_)
  dsimp only
  by_cases h0 : l = []
  · subst h0
    rw [if_pos (by rw [S_len]; rfl)]
    refine wpAny_bind (wpAny_rule (wpAny_bind (wpAny_pure (wpAny_pure ⟨_, rfl, ?_⟩))))
    exact hq _ _ _ hF hN
  rw [if_neg (by rw [S_len]; simpa using h0)]
  have hrec : S l = ⟨l.toArray⟩ := S_mk l
  have hG : ∀ c, g c = none → (g c).getD [c] = [c] := fun c e => by rw [e]; rfl
  refine wpAny_bind (PyProof.Rows.forIn_array_ _ (fun rest st s' => ∃ pre, l = pre ++ rest ∧ trPieces st.1 = (pre.flatMap fun c => (g c).getD [c]) ∧ st.2.1 ≤ 2 * pre.length ∧ (∀ x a, st.2.2.2.1.lookup x = some a → a = some x ∧ g x = none) ∧ st.2.2.2.2 = false ∧
      ∃ h' k, s' = { s with heap := h', toks := k } ∧ Fr h₀ L h' m ∧ News h₀ L h' news ∧ (∀ b o, s.heap.get? b = some o → h'.get? b = some o)) _ ?turn ?fin _ _ ?start)
  case start =>
    refine ⟨[], ?_, rfl, Nat.le_refl _, (fun x a e => by cases e), rfl, s.heap, s.toks, rfl, hF, hN, fun _ _ e => e⟩
    rw [S_cps]; rfl
  case fin =>
    rintro ⟨ps, tot, fast, known, drp⟩ s' ⟨pre, he, hp, ht, hk, hdp, h', k, rfl, F1, N1, K1⟩
    rw [List.append_nil] at he
    subst he
    dsimp only at *
    rw [if_neg (by unfold tooLong sizeLine; rw [decide_eq_true_eq]; have e : (2 : Nat) ^ 24 = 16777216 := by decide
                   omega)]
    have e1 : (⟨ps.reverse.foldl (fun acc p => acc ++ p.cps) #[]⟩ : Str) = S (l.flatMap fun c => (g c).getD [c]) := by
      rw [← hp, S_mk]
      apply congrArg Str.mk
      apply Array.toList_inj.mp
      rw [foldl_cps]
      simp [trPieces]
    rw [e1]
    refine wpAny_bind (wpAny_mkStr (wpAny_pure ⟨_, rfl, hq _ _ _ F1 N1⟩) ?_)
    rw [S_len, sizeLine_eq]
    have := flat_len (fun c => (g c).getD [c]) l fun c hc => by
      have q := hg c hc
      cases hgz : g c with
      | none => exact Nat.le_succ 1
      | some z => rw [hgz] at q; exact Nat.le_of_eq q.1
    omega
  case turn =>
    rintro c rest ⟨ps, tot, fast, known, drp⟩ s' ⟨pre, he, hp, ht, hk, hdp, h', k, rfl, F1, N1, K1⟩
    dsimp only at *
    subst hdp
    have hlen : pre.length + 1 ≤ l.length := by rw [he]; simp
    have hc : c ∈ l := by rw [he]; simp
    have hgc := hg c hc
    rw [if_neg (by unfold tooLong sizeLine; rw [decide_eq_true_eq]; have e : (2 : Nat) ^ 24 = 16777216 := by decide
                   omega)]
    have hm1 := hmk _ K1
    have he2 : l = (pre ++ [c]) ++ rest := by rw [he]; simp
    have stepF : ∀ h2 : Heap, (∀ b o, h'.get? b = some o → h2.get? b = some o) → Fr h₀ L h2 m ∧ News h₀ L h2 news ∧ (∀ b o, s.heap.get? b = some o → h2.get? b = some o) := fun h2 kk =>
      ⟨⟨F1.ns.keeps kk, fun b o e => kk b o (F1.keep b o e), F1.above⟩, fun q hq => ⟨kk _ _ (N1 q hq).1, (N1 q hq).2⟩, fun b o e => kk b o (K1 b o e)⟩
    have hpk : g c = none → trPieces (⟨#[c]⟩ :: ps) = ((pre ++ [c]).flatMap fun c => (g c).getD [c]) := fun e => by
      rw [trPieces_cons, hp, List.flatMap_append]; simp [e]
    have hpt : ∀ z, g c = some z → trPieces (S z :: ps) = ((pre ++ [c]).flatMap fun c => (g c).getD [c]) := fun z e => by
      rw [trPieces_cons, hp, List.flatMap_append, S_cps]; simp [e]
    have hl1 : ∀ n, n ≤ 2 → tot + n ≤ 2 * (pre ++ [c]).length := fun n hn => by rw [List.length_append]; simp only [List.length_cons, List.length_nil]; omega
    cases fast with
    | false =>
      rw [if_neg Bool.false_ne_true, if_neg Bool.false_ne_true]
      cases hgz : g c with
      | none =>
        rw [hgz] at hgc
        refine wpAny_bind (tl_keep (s := { s with heap := h', toks := k }) (by exact hh) hd hm1 hgc fun h2 k2 kk => ?_)
        obtain ⟨F2, N2, K2⟩ := stepF h2 kk
        exact wpAny_pure ⟨pre ++ [c], he2, hpk hgz, hl1 1 (by decide), hk, rfl, h2, k2, rfl, F2, N2, K2⟩
      | some z =>
        rw [hgz] at hgc
        obtain ⟨hz2, tx, hfz⟩ := hgc
        refine wpAny_bind (tl_text (s := { s with heap := h', toks := k }) hm1 hfz fun k2 => ?_)
        refine wpAny_pure ⟨pre ++ [c], he2, hpt z hgz, ?_, hk, rfl, h', k2, rfl, F1, N1, K1⟩
        dsimp only
        rw [S_len, hz2]; exact hl1 2 (by decide)
    | true =>
      rw [if_pos rfl]
      cases hkl : known.lookup c with
      | some a =>
        obtain ⟨rfl, hgn⟩ := hk c a hkl
        exact wpAny_bind (wpAny_pure (wpAny_pure ⟨pre ++ [c], he2, hpk hgn, hl1 1 (by decide), hk, rfl, h', k, rfl, F1, N1, K1⟩))
      | none =>
        cases hgz : g c with
        | none =>
          rw [hgz] at hgc
          refine wpAny_bind (tl_keep (s := { s with heap := h', toks := k }) (by exact hh) hd hm1 hgc fun h2 k2 kk => ?_)
          obtain ⟨F2, N2, K2⟩ := stepF h2 kk
          refine wpAny_bind (wpAny_pure (wpAny_pure ⟨pre ++ [c], he2, hpk hgz, hl1 1 (by decide), ?_, rfl, h2, k2, rfl, F2, N2, K2⟩))
          intro x a hx
          dsimp only at hx
          rw [List.lookup_cons] at hx
          split at hx
          · rename_i hxc
            have : x = c := by simpa using hxc
            subst this
            cases hx
            exact ⟨rfl, hgz⟩
          · exact hk x a hx
        | some z =>
          rw [hgz] at hgc
          obtain ⟨hz2, tx, hfz⟩ := hgc
          refine wpAny_bind (tl_text (s := { s with heap := h', toks := k }) hm1 hfz fun k2 => ?_)
          have e1 : ((S z).length == 1 && (S z).cps.all fun x => decide (x < 128)) = false := by rw [S_len, hz2]; rfl
          dsimp only
          rw [if_neg (by rw [e1]; exact Bool.false_ne_true)]
          refine wpAny_bind (wpAny_pure ?_)
          dsimp only
          refine wpAny_bind (wpAny_rule ?_)
          rw [if_neg Bool.false_ne_true]
          refine wpAny_bind (tl_text (s := { s with heap := h', toks := k2 }) hm1 hfz fun k3 => ?_)
          refine wpAny_pure ⟨pre ++ [c], he2, hpt z hgz, ?_, hk, rfl, h', k3, rfl, F1, N1, K1⟩
          dsimp only
          rw [S_len, hz2]; exact hl1 2 (by decide)
end
/-! ### map(f, xs) -/
theorem mro_map : mroOf (.type "map") = pure [.type "map", .type "object"] := by rw [mroOf_type]; kernel_rfl
theorem lookup_map_new : typeLookup (.type "map") "__new__" = pure (some (.builtin "map.__new__")) := by rw [typeLookup_type, builtinLookup_eq_fast]; kernel_rfl
theorem slot_map_init : Slot "map" "__init__" "object.__init__" :=
  .of (owner := "object") (n := "__init__") (by rw [typeLookup_type, builtinLookup_eq_fast]; kernel_rfl) (by decide +kernel) (by decide +kernel) (by decide +kernel)
    (by first | exact .inl (by decide +kernel) | exact .inr (by decide +kernel)) (by rw [isSubtype_type]; kernel_rfl)
theorem sub_map : isSubtype (.type "map") (.type "map") = pure true := by rw [isSubtype_type]; kernel_rfl
theorem called_map : TypeCalled "map" "map.__new__" "object.__init__" :=
  ⟨by decide +kernel, by decide +kernel, ⟨_, _, mro_map⟩, madeBy_type mro_map lookup_map_new (by decide +kernel), by decide +kernel, sub_map, slot_map_init⟩
theorem typeCall_map (a b : Value) : checkTypeCall "map" ⟨[a, b], []⟩ = pure () := by kernel_rfl
theorem newCall_map (a b : Value) : checkBuiltinCall "map.__new__" ⟨[.type "map", a, b], []⟩ = pure () := by kernel_rfl
theorem entry_map_new : entryFor table "map.__new__" = some Builtin.«map.__new__» := entryFor_of_tree (by kernel_rfl)
theorem args_init_3 (a b c : Value) : argsOk "object.__init__" ⟨[a, b, c], []⟩ := by unfold argsOk; kernel_rfl
abbrev itObj (l : Addr) (i : Int) : Obj := { cls := .type "list_iterator", data := .fields #[.ref l, .int i 0] }
abbrev tuObj (it : Addr) : Obj := { cls := .type "tuple", data := .seq #[.ref it] }
abbrev mpObj (tu : Addr) (f : Value) : Obj := { cls := .type "map", data := .fields #[.ref tu, f] }
section
open AutoSeq1 (wpAny_loadPart')
set_option maxRecDepth 100000 in
theorem meets_map_new (f : Value) (l : Addr) (items : Array Value) (n : Nat) (dct : Option Addr) (sl : Array (Option Value)) :
    Meets (Builtin.«map.__new__» ⟨[.type "map", f, .ref l], []⟩) (fun _ R s => s.heap.get? l = some { cls := .type "list", dict := dct, data := .seq items n, slots := sl } ∧
      R (.ok (.ret (.ref (s.heap.objs.size + 2)))) { s with heap := ((s.heap.push (itObj l 0)).push (tuObj s.heap.objs.size)).push (mpObj (s.heap.objs.size + 1) f) }) :=
  .of_wp fun prog w A R s h => by
    obtain ⟨hp, g, d, tk, os⟩ := s; obtain ⟨hl, h⟩ := h
    have hsub := sub_map
    have hL : Heap.IsList (Shared.heap ⟨hp, g, d, tk, os⟩) l items := ⟨_, hl, rfl, n, rfl⟩
    wp_walk using wpAny_loadPart' hl, wpAny_pyIter_list hL
    refine ⟨_, rfl, ?_⟩
    simpa [Heap.size_push] using h
end
theorem slot_map_next : Slot "map" "__next__" "map.__next__" :=
  .of (owner := "map") (n := "__next__") (by rw [typeLookup_type, builtinLookup_eq_fast]; kernel_rfl) (by decide +kernel) (by decide +kernel) (by decide +kernel)
    (by first | exact .inl (by decide +kernel) | exact .inr (by decide +kernel)) (by rw [isSubtype_type]; kernel_rfl)
theorem entry_map_next : entryFor table "map.__next__" = some Builtin.«map.__next__» := entryFor_of_tree (by kernel_rfl)
theorem args_map_next (a : Value) : argsOk "map.__next__" ⟨[a], []⟩ := by unfold argsOk; kernel_rfl
/-- the frame and the ledger, where all but one new object stay -/
theorem fr_but {h₀ h h' : Heap} {L it : Addr} {m : Str → Option Value} (F : Fr h₀ L h m) (hit : it ≠ L) (h0 : h₀.get? it = none) (e : Heap.ExtBut it h h') : Fr h₀ L h' m :=
  ⟨F.ns.extBut e hit.symm, fun b o q => e b o (fun x => by rw [x, h0] at q; cases q) (F.keep b o q), F.above⟩
theorem news_but {h₀ h h' : Heap} {L it : Addr} {news : List (Addr × Obj)} (N : News h₀ L h news) (hn : ∀ p ∈ news, p.1 ≠ it) (e : Heap.ExtBut it h h') : News h₀ L h' news :=
  fun p hp => ⟨e _ _ (hn p hp) (N p hp).1, (N p hp).2⟩
section
variable {prog : Program} {w : World} {A : Around} {E : Value → Shared → Prop} {s : Shared} {h₀ : Heap} {L : Addr} {m : Str → Option Value} {rest : List (Addr × Obj)}
theorem call_map {f : Value} {l : Addr} {items : Array Value} {n : Nat} {Q : Value → Shared → Prop} (F : Fr h₀ L s.heap m) (N : News h₀ L s.heap rest) (hl : (l, W.listOf items n) ∈ rest)
    (h : ∀ it tu mp h', Fr h₀ L h' m → News h₀ L h' ((it, itObj l 0) :: (mp, mpObj tu f) :: (tu, tuObj it) :: rest) → (∀ p ∈ rest, p.1 < it) → it < tu → tu < mp → Q (.ref mp) { s with heap := h' }) :
    wpAny (model prog w) A (call (.type "map") [f, .ref l]) Q E s := by
  refine callType_new called_map (by decide) (typeCall_map _ _) (newCall_map _ _) (fun obj => args_init_3 obj _ _) entry_map_new (meets_map_new f l items n _ _) ⟨(N _ hl).1, ?_⟩
  have F1 := F.push (itObj l 0)
  have F2 := F1.push (tuObj s.heap.objs.size)
  have N1 := N.push F (itObj l 0)
  have N2 := N1.push F1 (tuObj s.heap.objs.size)
  have N3 := N2.push F2 (mpObj (s.heap.objs.size + 1) f)
  have e1 : (s.heap.push (itObj l 0)).objs.size = s.heap.objs.size + 1 := Heap.size_push ..
  have e2 : ((s.heap.push (itObj l 0)).push (tuObj s.heap.objs.size)).objs.size = s.heap.objs.size + 2 := by rw [Heap.size_push, e1]
  rw [e1, e2] at N3
  refine ⟨⟨_, (N3 _ (.head _)).1, rfl⟩, h s.heap.objs.size (s.heap.objs.size + 1) (s.heap.objs.size + 2) _ (F2.push _) ?_ (fun p hp => Heap.lt_size (N p hp).1) (Nat.lt_succ_self _) (Nat.lt_succ_self _)⟩
  intro p hp
  refine N3 p ?_
  simp only [List.mem_cons] at hp ⊢
  rcases hp with h | h | h | h
  · exact .inr (.inr (.inl h))
  · exact .inl h
  · exact .inr (.inl h)
  · exact .inr (.inr (.inr h))
theorem map_next {f x : Value} {l it tu mp : Addr} {items : Array Value} {n i : Nat} {oi : Obj} {Q : Option Value → Shared → Prop} (F : Fr h₀ L s.heap m) (N : News h₀ L s.heap ((it, oi) :: rest)) (hne : ∀ p ∈ rest, p.1 ≠ it) (hl : (l, W.listOf items n) ∈ rest)
    (hmp : (mp, mpObj tu f) ∈ rest) (htu : (tu, tuObj it) ∈ rest) (hoi : oi.cls = .type "list_iterator" ∧ oi.data = .fields #[.ref l, .int i 0]) (hx : items[i]? = some x)
    (hc : ∀ h' oi', Fr h₀ L h' m → News h₀ L h' ((it, oi') :: rest) → oi'.cls = .type "list_iterator" ∧ oi'.data = .fields #[.ref l, .int ((i + 1 : Nat) : Int) 0] → ∀ E', wpAny (model prog w) A.in1 (call f [x]) (fun v s' => Q (some v) s') E' { s with heap := h' }) :
    wpAny (model prog w) A (pyNext (.ref mp)) Q E s := by
  have hT : s.TypeIs (.ref mp) "map" := ⟨_, (N _ (.tail _ hmp)).1, rfl⟩
  have hn := N _ (.head _)
  unfold pyNext
  refine wpAny_bind (wpAny_attempt (wpAny_callSpecial?_slot (name := Str.ofString "__next__") hT slot_map_next (wpAny_call_entry slot_map_next hT entry_map_next ?_ (args_map_next _))))
  unfold Builtin.«map.__next__»
  refine wpAny_bind (wpAny_pure ?_)
  dsimp only
  refine wpAny_bind (wpAny_field (N _ (.tail _ hmp)).1 rfl (x := .ref tu) rfl ?_)
  refine wpAny_bind (wpAny_seqItems (N _ (.tail _ htu)).1 rfl ?_)
  dsimp only
  rw [← Array.forIn_toList]
  show wpAny _ _ (forIn [Value.ref it] _ _ >>= _) _ _ _
  rw [List.forIn_cons]
  refine wpAny_bind (wpAny_bind (wpAny_bind (wpAny_holding (wpAny_nextOf_list_item (l := l) (i := i) (items := items) (x := x) ⟨oi, hn.1, hoi⟩ (News.isList N (.tail _ hl)) hx fun h' hit' hs => ?_))))
  have F' := fr_but F hn.2.1 hn.2.2 hs.extBut
  have N' := news_but (fun p hp => N p (.tail _ hp)) hne hs.extBut
  obtain ⟨oi', ho', hc', hd'⟩ := hit'
  have N'' : News h₀ L h' ((it, oi') :: rest) := fun p hp => by
    rcases List.mem_cons.mp hp with rfl | hp
    · exact ⟨ho', hn.2⟩
    · exact N' p hp
  refine wpAny_pure ?_
  dsimp only
  rw [List.forIn_nil]
  refine wpAny_pure ?_
  refine wpAny_bind (wpAny_field (N' _ hmp).1 rfl (x := f) rfl ?_)
  refine wpAny_bind (wpAny_holding (wpAny_mono (hc h' oi' F' N'' ⟨hc', hd'⟩ _) (fun v s' q => ?_) fun _ _ q => q))
  exact wpAny_bind (wpAny_letGo (wpAny_pure ⟨_, rfl, wpAny_pure q⟩))
theorem map_end {f : Value} {l it tu mp : Addr} {items : Array Value} {n i : Nat} {oi : Obj} {Q : Option Value → Shared → Prop} (hh : A.handled = none) (F : Fr h₀ L s.heap m) (N : News h₀ L s.heap ((it, oi) :: rest)) (hne : ∀ p ∈ rest, p.1 ≠ it) (hl : (l, W.listOf items n) ∈ rest)
    (hmp : (mp, mpObj tu f) ∈ rest) (htu : (tu, tuObj it) ∈ rest) (hoi : oi.cls = .type "list_iterator" ∧ oi.data = .fields #[.ref l, .int i 0]) (hx : items[i]? = none)
    (hc : ∀ h', Fr h₀ L h' m → News h₀ L h' rest → Q none { s with heap := h' }) :
    wpAny (model prog w) A (pyNext (.ref mp)) Q E s := by
  have hT : s.TypeIs (.ref mp) "map" := ⟨_, (N _ (.tail _ hmp)).1, rfl⟩
  have hn := N _ (.head _)
  unfold pyNext
  refine wpAny_bind (wpAny_attempt (wpAny_callSpecial?_slot (name := Str.ofString "__next__") hT slot_map_next (wpAny_call_entry slot_map_next hT entry_map_next ?_ (args_map_next _))))
  unfold Builtin.«map.__next__»
  refine wpAny_bind (wpAny_pure ?_)
  dsimp only
  refine wpAny_bind (wpAny_field (N _ (.tail _ hmp)).1 rfl (x := .ref tu) rfl ?_)
  refine wpAny_bind (wpAny_seqItems (N _ (.tail _ htu)).1 rfl ?_)
  dsimp only
  rw [← Array.forIn_toList]
  show wpAny _ _ (forIn [Value.ref it] _ _ >>= _) _ _ _
  rw [List.forIn_cons]
  refine wpAny_bind (wpAny_bind (wpAny_bind (wpAny_holding (wpAny_nextOf_list_end (l := l) (i := i) (items := items) (by exact hh) ⟨oi, hn.1, hoi⟩ (News.isList N (.tail _ hl)) hx fun h' e hs he => ?_))))
  obtain ⟨o, ho, hco⟩ := he
  refine wpAny_bind (wpAny_isInstance (T := "StopIteration") (b := true) ⟨o, ho, hco⟩ isSubtype_stop ?_)
  exact wpAny_pure (hc _ (fr_but F hn.2.1 hn.2.2 hs) (news_but (fun p hp => N p (.tail _ hp)) hne hs))
theorem slot_map_iter : Slot "map" "__iter__" "map.__iter__" :=
  .of (owner := "map") (n := "__iter__") (by rw [typeLookup_type, builtinLookup_eq_fast]; kernel_rfl) (by decide +kernel) (by decide +kernel) (by decide +kernel)
    (by first | exact .inl (by decide +kernel) | exact .inr (by decide +kernel)) (by rw [isSubtype_type]; kernel_rfl)
theorem entry_map_iter : entryFor table "map.__iter__" = some Builtin.«dict_keyiterator.__iter__» :=
  entryFor_alias (id' := "dict_keyiterator.__iter__") (by kernel_rfl) (by first | rfl | decide +kernel | (unfold String.splitOn; simp +decide [String.splitOnAux])) (by decide +kernel) (by kernel_rfl)
theorem args_map_iter (a : Value) : argsOk "map.__iter__" ⟨[a], []⟩ := by unfold argsOk; kernel_rfl
theorem map_no_len : typeLookup (.type "map") "__len__" = pure none := by rw [typeLookup_type, builtinLookup_eq_fast]; kernel_rfl
theorem map_no_hint : typeLookup (.type "map") "__length_hint__" = pure none := by rw [typeLookup_type, builtinLookup_eq_fast]; kernel_rfl
theorem iter_map {mp : Addr} {Q : Value → Shared → Prop} (hT : s.TypeIs (.ref mp) "map") (h : Q (.ref mp) s) : wpAny (model prog w) A (pyIter (.ref mp)) Q E s := by
  refine wpAny_pyIter_slot hT slot_map_iter (wpAny_call_entry slot_map_iter hT entry_map_iter ?_ (args_map_iter _))
  show wpAny _ _ (ret (.ref mp)) _ _ s
  exact wpAny_pure ⟨_, rfl, "map", _, hT, slot_map_next.lookup, h⟩
theorem list_map_one {f x : Value} {l it tu mp : Addr} {n : Nat} {Q : Value → Shared → Prop} {P : Value → Prop} (hh : A.handled = none) (F : Fr h₀ L s.heap m) (N : News h₀ L s.heap ((it, itObj l 0) :: (mp, mpObj tu f) :: (tu, tuObj it) :: rest))
    (hl : (l, W.listOf #[x] n) ∈ rest) (h1 : ∀ p ∈ rest, p.1 < it) (h2 : it < tu) (h3 : tu < mp)
    (hc : ∀ (s1 : Shared) (news1 : List (Addr × Obj)) (Q' E' : Value → Shared → Prop), Fr h₀ L s1.heap m → News h₀ L s1.heap news1 → (∀ y h' tk', P y → Fr h₀ L h' m → News h₀ L h' news1 → Q' y { s1 with heap := h', toks := tk' }) → wpAny (model prog w) A.in1.in1.in1 (call f [x]) Q' E' s1)
    (hq : ∀ sl y c h' tk', P y → Fr h₀ L h' m → News h₀ L h' ((sl, W.listOf #[y] c) :: rest) → (∀ p ∈ rest, p.1 < sl) → Q (.ref sl) { s with heap := h', toks := tk' }) :
    wpAny (model prog w) A (call (.type "list") [.ref mp]) Q E s := by
  refine callType_codes (Q₁ := fun obj s₁ => obj = .ref s.heap.objs.size ∧ s₁ = { s with heap := s.heap.push { cls := .type "list", data := .seq #[] } }) PySem.F.called_list (PySem.F.typeCall_list_1 _) PySem.F.entry_list_init
    (code_list_new _ ⟨rfl, rfl⟩) fun obj s₁ h₁ => ?_
  obtain ⟨rfl, rfl⟩ := h₁
  have F1 := F.push (W.listOf #[] 0)
  have N1 := N.push F (W.listOf #[] 0)
  have hsl : ∀ p ∈ (it, itObj l 0) :: (mp, mpObj tu f) :: (tu, tuObj it) :: rest, p.1 < s.heap.objs.size := fun p hp => Heap.lt_size (N p hp).1
  generalize s.heap.objs.size = sl at *
  generalize hH : s.heap.push { cls := .type "list", data := .seq #[] } = H at *
  have hS := N1 _ (.head _)
  refine ⟨⟨_, hS.1, rfl⟩, PySem.F.args_list_init_2 _ _, ?_⟩
  have hpost : ∀ p ∈ (it, itObj l 0) :: (mp, mpObj tu f) :: (tu, tuObj it) :: rest, p.1 ≠ sl := fun p hp => Nat.ne_of_lt (hsl p hp)
  have hmps : sl ≠ mp := fun e => hpost (mp, mpObj tu f) (by simp) e.symm
  have hits : it ≠ sl := hpost (it, itObj l 0) (by simp)
  clear hH
  show wpAny _ A.in1.in1 (do let old ← Builtin.List.listItems (.ref sl); Builtin.List.listUpdate (.ref sl) (fun _ => #[]); letGo old.toList.reverse; Builtin.List.listExtendWith (.ref sl) (.ref mp) .none) _ _ _
  refine wpAny_bind ?_
  unfold Builtin.List.listItems
  refine wpAny_bind (wpAny_seqItems hS.1 rfl (wpAny_pure ?_))
  show wpAny _ A.in1.in1 (updateSeq sl (fun _ => #[]) >>= fun _ => letGo (#[] : Array Value).toList.reverse >>= fun _ => Builtin.List.listExtendWith (.ref sl) (.ref mp) .none) _ _ _
  refine wpAny_bind (wpAny_updateSeq hS.1 rfl ?_ (by decide) (by decide))
  obtain ⟨F2, N2⟩ := news_upd (pre := []) (f := Obj.mapSeq (fun _ => (#[] : Array Value))) F1 N1 (fun _ h => nomatch h) hpost rfl rfl
  clear F1 N1
  simp only [List.nil_append] at N2
  refine wpAny_bind (wpAny_letGo ?_)
  dsimp only
  generalize H.update sl (Obj.mapSeq (fun _ => (#[] : Array Value))) = H2 at *
  have hT : ∀ g d t os, (⟨H2, g, d, t, os⟩ : Shared).TypeIs (.ref mp) "map" := fun g d t os => ⟨_, (N2 (mp, mpObj tu f) (by simp)).1, rfl⟩
  unfold Builtin.List.listExtendWith
  refine wpAny_bind (wpAny_typeOf (hT _ _ _ _) ?_)
  have q1 : Builtin.List.listSameRef (.ref sl) (.ref mp) = false := by simp [Builtin.List.listSameRef, hmps]
  have q2 : (Value.type "map" == Value.type "list") = false := by decide
  have q3 : (Value.type "map" == Value.type "tuple") = false := by decide
  simp only [q1, q2, q3, Bool.or_false, Bool.false_eq_true, if_false]
  refine wpAny_bind (iter_map (hT _ _ _ _) ?_)
  refine wpAny_bind (wpAny_holding ?_)
  unfold Builtin.List.listLengthHint
  refine wpAny_bind (wpAny_specialOf (hT _ _ _ _) map_no_len ?_)
  show wpAny _ A.in1.in1 (specialOf (Value.ref mp) (Str.ofString "__length_hint__") >>= _) _ _ _
  refine wpAny_bind (wpAny_specialOf (hT _ _ _ _) map_no_hint ?_)
  refine wpAny_pure ?_
  show wpAny _ A.in1.in1 (rule "list.extend.makes-room" >>= fun _ => Builtin.List.listTouch (.ref sl) >>= fun _ =>
    again (.builtin "list.extend.loop" ⟨[.ref sl, .ref mp, .none], []⟩)) _ _ _
  refine wpAny_bind (wpAny_rule ?_)
  refine wpAny_bind ?_
  show wpAny _ A.in1.in1 (updateSeq sl (·.push .none) >>= fun _ => updateSeq sl (·.pop)) _ _ _
  refine wpAny_bind (wpAny_updateSeq (N2 _ (.head _)).1 rfl ?_ (by decide) (by decide))
  obtain ⟨F3, N3⟩ := news_upd (pre := []) (f := Obj.mapSeq (·.push Value.none)) F2 N2 (fun _ h => nomatch h) hpost rfl rfl
  clear F2 N2 hT
  simp only [List.nil_append] at N3
  dsimp only
  generalize H2.update sl (Obj.mapSeq (·.push Value.none)) = H3 at *
  refine wpAny_updateSeq (N3 _ (.head _)).1 rfl ?_ (by decide) (by decide)
  obtain ⟨F4, N4⟩ := news_upd (pre := []) (f := Obj.mapSeq (·.pop)) F3 N3 (fun _ h => nomatch h) hpost rfl rfl
  clear F3 N3
  simp only [List.nil_append] at N4
  dsimp only
  generalize H3.update sl (Obj.mapSeq (·.pop)) = H4 at *
  refine wpAny_pure ⟨plainId_quiet PySem.F.plain_extend_loop _, codeAny_builtin PySem.F.entry_extend_loop ?_⟩
  rw [Around.under_plainId PySem.F.plain_extend_loop _]
  show wpAny _ A.in1.in1 (pyNext (.ref mp) >>= _) _ _ _
  obtain ⟨c4, e4⟩ : ∃ c, Obj.mapSeq (fun x => x.pop) (Obj.mapSeq (fun x => x.push Value.none) (Obj.mapSeq (fun _ => (#[] : Array Value)) (W.listOf #[] 0))) = W.listOf #[] c := ⟨_, rfl⟩
  rw [e4] at N4
  have N5 : News h₀ L H4 ((it, itObj l 0) :: (sl, W.listOf #[] c4) :: (mp, mpObj tu f) :: (tu, tuObj it) :: rest) := fun p hp => N4 p (by
    simp only [List.mem_cons] at hp ⊢
    rcases hp with h | h | h
    · exact .inr (.inl h)
    · exact .inl h
    · exact .inr (.inr h))
  have hne : ∀ o : Obj, ∀ p ∈ (sl, o) :: (mp, mpObj tu f) :: (tu, tuObj it) :: rest, p.1 ≠ it := fun o p hp => by
    rcases List.mem_cons.mp hp with rfl | hp
    · exact hits.symm
    rcases List.mem_cons.mp hp with rfl | hp
    · exact Nat.ne_of_gt (Nat.lt_trans h2 h3)
    rcases List.mem_cons.mp hp with rfl | hp
    · exact Nat.ne_of_gt h2
    · exact Nat.ne_of_lt (h1 p hp)
  refine wpAny_bind (map_next (i := 0) (x := x) F4 N5 (hne _) (.tail _ (.tail _ (.tail _ hl))) (.tail _ (.head _)) (.tail _ (.tail _ (.head _))) ⟨rfl, rfl⟩ (by rfl) fun h' oi' F5 N6 hoi E' => ?_)
  refine hc _ _ _ _ F5 N6 fun y h6 tk6 hy F6 N7 => ?_
  dsimp only
  show wpAny _ A.in1.in1 (updateSeq sl (·.push y) >>= fun _ => again (.builtin "list.extend.loop" ⟨[.ref sl, .ref mp, .none], []⟩)) _ _ _
  have hsl7 := N7 (sl, W.listOf #[] c4) (by simp)
  refine wpAny_bind (wpAny_updateSeq hsl7.1 rfl ?_ (by decide) (by show 1 ≤ sizeLine + 1; decide))
  obtain ⟨F7, N8⟩ := news_upd (pre := [(it, oi')]) (f := Obj.mapSeq (·.push y)) F6 N7 (fun p hp => by rw [List.mem_singleton.mp hp]; exact hits) (fun p hp => hpost p (.tail _ hp)) rfl rfl
  dsimp only
  generalize h6.update sl (Obj.mapSeq (·.push y)) = H7 at *
  obtain ⟨c7, e7⟩ : ∃ c, Obj.mapSeq (fun a => a.push y) (W.listOf #[] c4) = W.listOf #[y] c := ⟨_, rfl⟩
  rw [e7] at N8
  simp only [List.cons_append, List.nil_append] at N8
  refine wpAny_pure ⟨plainId_quiet PySem.F.plain_extend_loop _, codeAny_builtin PySem.F.entry_extend_loop ?_⟩
  rw [Around.under_plainId PySem.F.plain_extend_loop _]
  show wpAny _ A.in1.in1 (pyNext (.ref mp) >>= _) _ _ _
  refine wpAny_bind (map_end (i := 1) (by exact hh) F7 N8 (hne _) (.tail _ (.tail _ (.tail _ hl))) (.tail _ (.head _)) (.tail _ (.tail _ (.head _))) hoi (by rfl) fun h8 F8 N9 => ?_)
  refine wpAny_pure ⟨rfl, hq sl y c7 h8 tk6 hy F8 (fun p hp => N9 p ?_) fun p hp => hsl p (.tail _ (.tail _ (.tail _ hp)))⟩
  simp only [List.mem_cons] at hp ⊢
  rcases hp with h | h
  · exact .inl h
  · exact .inr (.inr (.inr h))
end
/-! ### str.split by one sign -/
section
open PySem.Builtin PySem.Builtin.Str
theorem tw_app (c : Nat) : ∀ (a b : List Nat), c ∉ a → (a ++ c :: b).takeWhile (· != c) = a
  | [], b, _ => by simp
  | x :: a, b, h => by
    have h1 : x ≠ c := fun e => h (e ▸ List.mem_cons_self ..)
    have h2 : c ∉ a := fun m => h (List.mem_cons_of_mem _ m)
    simp [h1, tw_app c a b h2]
theorem tw_free (c : Nat) : ∀ (a : List Nat), c ∉ a → a.takeWhile (· != c) = a
  | [], _ => rfl
  | x :: a, h => by
    have h1 : x ≠ c := fun e => h (e ▸ List.mem_cons_self ..)
    have h2 : c ∉ a := fun m => h (List.mem_cons_of_mem _ m)
    simp [h1, tw_free c a h2]
theorem split_head (l : List Nat) (c : Nat) : ∃ ps, Txt.split (S l) (S [c]) = S (l.takeWhile (· != c)) :: ps ∧ (c ∉ l → ps = []) := by
  have hf := StrLaws.split_free (S l) c
  have hj := StrLaws.join_split (S l) ⟨#[c]⟩
  have e0 : (⟨#[c]⟩ : Str) = S [c] := (S_mk [c]).symm
  rw [e0] at hf hj
  cases hs : Txt.split (S l) (S [c]) with
  | nil =>
    exfalso
    rw [hs] at hj
    have hl : l = [] := by
      have := congrArg (fun x : Str => x.cps.toList) hj
      simp only [S_cps] at this
      exact this.symm
    subst hl
    unfold Txt.split at hs
    rw [if_pos (by simp [S_len])] at hs
    cases hs
  | cons p r =>
    rw [hs] at hf hj
    cases r with
    | nil =>
      have hp : p = S l := hj
      subst hp
      have hc := hf _ (List.mem_singleton.mpr rfl)
      rw [S_cps] at hc
      exact ⟨[], by rw [tw_free c l hc], fun _ => rfl⟩
    | cons q r =>
      have hc := hf p (List.mem_cons_self ..)
      have hj2 : p ++ S [c] ++ Str.join (S [c]) (q :: r) = S l := hj
      have e1 := congrArg (fun x : Str => x.cps.toList) hj2
      simp only [S_cps, Str.cps_append, Array.toList_append, List.append_assoc, List.singleton_append] at e1
      refine ⟨q :: r, ?_, fun hn => absurd (by rw [← e1]; simp) hn⟩
      rw [← e1, tw_app c _ _ hc, S_eta]
end
section
variable {prog : Program} {w : World} {A : Around} {E : Value → Shared → Prop} {s : Shared} {h₀ : Heap} {L : Addr} {m : Str → Option Value} {news : List (Addr × Obj)} {l : List Nat} {t u : Tok} {Q : Value → Shared → Prop}
theorem splitS {y : Str} (c : Nat) (hy : y = S [c]) (hF : Fr h₀ L s.heap m) (hN : News h₀ L s.heap news) (hl : l.length ≤ 1000)
    (h : ∀ a t0 vs h' k, Fr h₀ L h' m → News h₀ L h' ((a, W.listOf (Value.str (S (l.takeWhile (· != c))) t0 :: vs).toArray 0) :: news) → (∀ p ∈ news, p.1 < a) → (c ∉ l → vs = []) → Q (.ref a) { s with heap := h', toks := k }) :
    wpAny (model prog w) A (call (.builtin "str.split") [.str (S l) t, .str y u]) Q E s := by
  subst hy
  refine splitN1A hF hN (by rw [S_len]; rfl) (fun ls h' k e _ _ _ F' N' => ?_) (by rw [S_len, sizeLine_eq]; omega)
  obtain ⟨ps, hs, hp⟩ := split_head l c
  rw [hs] at e
  obtain ⟨⟨x, t0⟩, ls', rfl, hx, hls⟩ := List.map_eq_cons_iff.mp e
  dsimp only at hx
  subst hx
  refine h s.heap.objs.size t0 (strValues ls') h' k F' N' (fun p hp => Heap.lt_size (hN p hp).1) fun hc => ?_
  rw [hp hc] at hls
  have : ls' = [] := by simpa using hls
  rw [this]; rfl
end
/-- a contract of a def, with room for calls within it -/
abbrev MyClaim (prog : Program) (w : World) (K : Frag) (p : Program) (loose : List Str) (mean : ExcName → Option Value) (mg mb : Str → Option Value) (f : Addr) (news : List (Addr × Obj)) (pre : Prop) (vs : List Value) (R : Tok → Value) : Prop :=
  ∀ (dp un : Nat) (gd : Option (List Code)) (cn : Str) (cs : Scope) (a : Addr) (ccd : Value) (cl : List (Str × Addr)) (outer : List Env) (A₀ : Around) (base h₀ : Heap) (L : Addr) (m : Str → Option Value) (s : Shared) (Q E : Value → Shared → Prop),
    Below A₀ base outer h₀ → Fr h₀ L s.heap m → K.In h₀ → News h₀ L s.heap news → Top p loose mean mg mb h₀ → cs.kind = .function →
    pre → dp + 20 < recursionLimit → un + 200 < cLine → CbRet h₀ L m news s Q R →
      wpAny (model prog w) (ktrTop dp un gd cn cs L a ccd cl outer) (call (.ref f) vs) Q E s
/-! ### xs[-1] = v on a list of one item -/
section
variable {prog : Program} {w : World} {A : Around} {E : Value → Shared → Prop} {s : Shared} {h₀ : Heap} {L : Addr} {m : Str → Option Value} {rest : List (Addr × Obj)}
theorem setItem_last1 {l : Addr} {n : Nat} {t : Tok} {x v : Value} {Q : Unit → Shared → Prop} (F : Fr h₀ L s.heap m) (N : News h₀ L s.heap ((l, W.listOf #[x] n) :: rest)) (hne : ∀ p ∈ rest, p.1 ≠ l)
    (hQ : ∀ h' c, Fr h₀ L h' m → News h₀ L h' ((l, W.listOf #[v] c) :: rest) → Q () { s with heap := h' }) :
    wpAny (model prog w) A (setItem (.ref l) (.int (-1) t) v) Q E s := by
  have hl := News.isList N (.head _)
  have ho := (N _ (.head _)).1
  unfold setItem
  try with_reducible refine wpAny_holding ?_
  first | refine wpAny_bind (wpAny_pure ?_) | skip
  refine wpAny_bind (wpAny_sequenceKey hl.typeIs (by decide) ?_)
  refine wpAny_bind (wpAny_callSpecial?_slot (name := Str.ofString "__setitem__") hl.typeIs slot_list_setitem
    (wpAny_call_entry slot_list_setitem hl.typeIs entry_list_setitem ?_ (args_list_setitem _ _ _)))
  show wpAny _ _ (Builtin.List.listSubscript? (.int (-1) t) >>= _) _ _ s
  refine wpAny_bind (wpAny_listSubscript_int (by decide) ?_)
  dsimp only
  show wpAny _ _ ((Builtin.List.listItems (.ref l) >>= fun xs => pure ((seqIndex? (-1) xs.size).bind fun j => xs[j]?.map (j, ·))) >>= _) _ _ _
  unfold Builtin.List.listItems
  refine wpAny_bind (wpAny_bind (wpAny_bind (wpAny_seqItems ho rfl (wpAny_pure (wpAny_pure ?_)))))
  rw [show ((seqIndex? (-1) (#[x] : Array Value).size).bind fun j => (#[x] : Array Value)[j]?.map (j, ·)) = some (0, x) from rfl]
  dsimp only
  refine wpAny_bind (wpAny_setSeqItemAt ho rfl (wpAny_pure ⟨.none, rfl, wpAny_pure ?_⟩))
  obtain ⟨F', N'⟩ := news_upd (pre := []) (f := Obj.mapSeq (·.setIfInBounds 0 v)) F N (fun _ h => nomatch h) hne rfl rfl
  exact hQ _ _ F' N'
end
section
variable {prog : Program} {w : World} {A : Around} {E : Value → Shared → Prop} {s : Shared} {h₀ : Heap} {L : Addr} {m : Str → Option Value} {rest : List (Addr × Obj)}
theorem setItem_in {l : Addr} {n : Nat} {items : Array Value} {k : Int} {t : Tok} {v : Value} {Q : Unit → Shared → Prop} (F : Fr h₀ L s.heap m) (N : News h₀ L s.heap ((l, W.listOf items n) :: rest)) (hne : ∀ p ∈ rest, p.1 ≠ l)
    (h0 : 0 ≤ k) (hk : k < items.size) (hz : items.size < 1000)
    (hQ : ∀ h' c, Fr h₀ L h' m → News h₀ L h' ((l, W.listOf (items.setIfInBounds k.toNat v) c) :: rest) → Q () { s with heap := h' }) :
    wpAny (model prog w) A (setItem (.ref l) (.int k t) v) Q E s := by
  have hl := News.isList N (.head _)
  have ho := (N _ (.head _)).1
  unfold setItem
  try with_reducible refine wpAny_holding ?_
  first | refine wpAny_bind (wpAny_pure ?_) | skip
  refine wpAny_bind (wpAny_sequenceKey hl.typeIs (by decide) ?_)
  refine wpAny_bind (wpAny_callSpecial?_slot (name := Str.ofString "__setitem__") hl.typeIs slot_list_setitem
    (wpAny_call_entry slot_list_setitem hl.typeIs entry_list_setitem ?_ (args_list_setitem _ _ _)))
  show wpAny _ _ (Builtin.List.listSubscript? (.int k t) >>= _) _ _ s
  refine wpAny_bind (wpAny_listSubscript_int (fitsIndex_of h0 (by omega)) ?_)
  obtain ⟨j, rfl⟩ := Int.eq_ofNat_of_zero_le h0
  have hj : j < items.size := by omega
  have hx' : items[j]? = some items[j] := Array.getElem?_eq_getElem hj
  show wpAny _ _ ((seqItemAt l j >>= fun r => pure (r.map (j, ·))) >>= _) _ _ s
  refine wpAny_bind (wpAny_bind (wpAny_seqItemAt ho rfl (wpAny_pure ?_)))
  rw [hx']
  show wpAny _ _ (setSeqItemAt l j v >>= _) _ _ s
  refine wpAny_bind (wpAny_setSeqItemAt ho rfl (wpAny_pure ⟨.none, rfl, wpAny_pure ?_⟩))
  obtain ⟨F', N'⟩ := news_upd (pre := []) (f := Obj.mapSeq (·.setIfInBounds j v)) F N (fun _ h => nomatch h) hne rfl rfl
  exact hQ _ _ F' N'
end
/-! ### attributes of a function object -/
section
open PySem.Builtin PySem.Builtin.ObjectAttr
theorem fn_mro : mroOf (.type "function") = pure [.type "function", .type "object"] := by rw [mroOf_type]; kernel_rfl
theorem fn_setattr : Slot "function" "__setattr__" "object.__setattr__" :=
  .of (owner := "object") (n := "__setattr__") (by rw [typeLookup_type, builtinLookup_eq_fast]; kernel_rfl) (by decide +kernel) (by decide +kernel) (by decide +kernel)
    (by first | exact .inl (by decide +kernel) | exact .inr (by decide +kernel)) (by rw [isSubtype_type]; kernel_rfl)
theorem fn_no_applies : typeLookup (.type "function") "applies_to" = pure none := by rw [typeLookup_type, builtinLookup_eq_fast]; kernel_rfl
theorem fn_no_allowance : typeLookup (.type "function") "allowance" = pure none := by rw [typeLookup_type, builtinLookup_eq_fast]; kernel_rfl
theorem fn_has : typeHasDict (.type "function") = true := by decide +kernel
theorem fn_fin : finalisedInACycleAlone "function" = false := by decide +kernel
theorem fn_refuse (self : Value) : refuseLoop self "__setattr__" [.type "function", .type "object"] = pure () := by kernel_rfl
theorem fn_stream (x : Addr) : ownStreamTells (.ref x) (.type "function") = pure () := by kernel_rfl
section
variable {prog : Program} {w : World} {A : Around} {E : Value → Shared → Prop} {s : Shared} {h₀ : Heap} {L x : Addr} {m : Str → Option Value} {pre post : List (Addr × Obj)} {name : Str} {v : Value} {Q : Unit → Shared → Prop}
theorem fn_store {ox : Obj} (hx : s.heap.get? x = some ox) (hc : ox.cls = .type "function") (htl : typeLookup (.type "function") name = pure none)
    (h : wpAny (model prog w) A.in1 (ownDictForStores (.ref x) >>= fun r => match r with | some d => storeInDict d (.str name s.toks) name v | none => noDictFor (.ref x) (.type "function") name false)
      (fun fin s' => ∃ r, fin = .done (.ret r) ∧ Q () s') E { s with toks := s.toks + 1 }) : wpAny (model prog w) A (setAttr (.ref x) name v) Q E s := by
  have hT : ({ s with toks := s.toks + 1 } : Shared).TypeIs (.ref x) "function" := ⟨_, hx, hc⟩
  unfold setAttr
  refine wpAny_bind (wpAny_mkText (wpAny_bind (wpAny_callSpecial?_slot (name := Str.ofString "__setattr__") hT fn_setattr (wpAny_call_entry fn_setattr hT PySem.F.store_object.entry ?_ (PySem.F.store_object.args _ _ _)))))
  rw [osa_eq, refuse_eq]
  refine wpAny_bind (wpAny_bind (wpAny_typeOf hT ?_))
  rw [fn_mro]
  refine wpAny_bind (wpAny_pure ?_)
  rw [fn_refuse]
  refine wpAny_pure (wpAny_bind (wpAny_typeOf hT ?_))
  rw [htl]
  refine wpAny_bind (wpAny_pure (wpAny_bind (wpAny_pure ?_)))
  dsimp only
  unfold storeInOwnDict
  rw [fn_stream]
  refine wpAny_bind (wpAny_pure ?_)
  rw [if_neg (by decide)]
  refine wpAny_mono h (fun fin s' q => ?_) fun _ _ q => q
  obtain ⟨r, rfl, q⟩ := q
  exact ⟨r, rfl, wpAny_pure q⟩
theorem store_dict {d : Addr} {es : List DictEntry} {n : Nat} {tk : Tok} (F : Fr h₀ L s.heap m) (N : News h₀ L s.heap (pre ++ (d, dictOf es n) :: post)) (h1 : ∀ p ∈ pre, p.1 ≠ d) (h2 : ∀ p ∈ post, p.1 ≠ d) (hl : (getL name es).isSome = true)
    (hz : (putL name (PyData.keyHash w.params name) (.str name s.toks) v es).length ≤ 1000)
    (hq : ∀ h', Fr h₀ L h' m → News h₀ L h' (pre ++ (d, dictOf (putL name (PyData.keyHash w.params name) (.str name s.toks) v es) (putN name es n)) :: post) → Q () { s with heap := h', toks := s.toks + 1 }) :
    wpAny (model prog w) A (storeInDict d (.str name tk) name v) (fun fin s' => ∃ r, fin = .done (.ret r) ∧ Q () s') E s := by
  obtain ⟨U1, U2⟩ := news_upd (f := Obj.putName name (PyData.keyHash w.params name) (.str name s.toks) v) F N h1 h2 (putName_dict _ _ _ _ _ _) rfl
  have D := (N (d, dictOf es n) (by simp)).1
  have D' := (U2 (d, dictOf (putL name (PyData.keyHash w.params name) (.str name s.toks) v es) (putN name es n)) (by simp)).1
  unfold storeInDict
  refine wpAny_bind (wpAny_pure (wpAny_bind ?_))
  unfold nsSet
  refine wpAny_bind (wpAny_bind (wpAny_askSetting (wpAny_pure (wpAny_bind (wpAny_mkText (wpAny_bind (wpAny_loadPart D ?_)))))))
  dsimp only
  have c : (!es.toArray.any (·.key.isStr name) && es.toArray.any (·.refKey)) = false := by
    unfold getL at hl
    rw [← Array.any_toList, ← Array.any_toList]
    split at hl
    · rename_i en he
      rw [List.any_eq_true.mpr ⟨en, List.mem_of_find?_eq_some he, List.find?_some he⟩]; rfl
    · split at hl
      · cases hl
      · rename_i z; rw [Bool.not_eq_true] at z; rw [z, Bool.and_false]
  rw [aRefKeyMayBeTheName_at, c]
  refine wpAny_updatePart D ?_
  refine wpAny_bind (wpAny_lookBehind D' (by exact pastItsLine_dict (by rw [List.size_toArray, sizeLine_eq]; omega)) ?_)
  exact wpAny_pure ⟨_, rfl, hq _ U1 U2⟩
theorem fn_set_new {fd : FuncData} (F : Fr h₀ L s.heap m) (N : News h₀ L s.heap (pre ++ (x, ({ cls := .type "function", data := .func fd } : Obj)) :: post)) (h1 : ∀ p ∈ pre, p.1 ≠ x) (h2 : ∀ p ∈ post, p.1 ≠ x) (htl : typeLookup (.type "function") name = pure none)
    (hq : ∀ d h' tk hsh key, Fr h₀ L h' m → News h₀ L h' ((d, dictOf [⟨hsh, .str name key, v⟩] 1) :: (pre ++ (x, ({ cls := .type "function", dict := some d, data := .func fd } : Obj)) :: post)) → (∀ p ∈ pre ++ (x, ({ cls := .type "function", data := .func fd } : Obj)) :: post, p.1 < d) → Q () { s with heap := h', toks := tk }) :
    wpAny (model prog w) A (setAttr (.ref x) name v) Q E s := by
  have hx := (N (x, ({ cls := .type "function", data := .func fd } : Obj)) (by simp)).1
  refine fn_store hx rfl htl ?_
  have F1 := F.push emptyDict
  have N1 := N.push F emptyDict
  have hlt : ∀ p ∈ pre ++ (x, ({ cls := .type "function", data := .func fd } : Obj)) :: post, p.1 < s.heap.objs.size := fun p hp => Heap.lt_size (N p hp).1
  have hxs : x ≠ s.heap.objs.size := Nat.ne_of_lt (hlt (x, ({ cls := .type "function", data := .func fd } : Obj)) (by simp))
  refine wpAny_bind ?_
  show wpAny _ _ (instanceDict x true) _ _ _
  unfold instanceDict
  refine wpAny_bind (wpAny_loadPart (s := { s with toks := s.toks + 1 }) hx ?_)
  dsimp only
  rw [if_neg (by rw [fn_has]; decide)]
  refine wpAny_bind (wpAny_alloc ?_)
  dsimp only
  have hx1 := (N1 (x, ({ cls := .type "function", data := .func fd } : Obj)) (by simp)).1
  obtain ⟨F2, N2⟩ := news_upd (d := x) (pre := (s.heap.objs.size, emptyDict) :: pre) (post := post) (f := fun o => { o with dict := some s.heap.objs.size }) F1 N1 (fun p hp => by
    rcases List.mem_cons.mp hp with rfl | hp
    · exact hxs.symm
    · exact h1 p hp) h2 rfl rfl
  refine wpAny_bind (wpAny_update hx1 ?_)
  rw [show dictMade (.type "function") x s.heap.objs.size = pure (some s.heap.objs.size) from by unfold dictMade; dsimp only; rw [fn_fin]; rfl]
  refine wpAny_pure ?_
  dsimp only
  simp only [List.cons_append] at N2
  refine store_dict (s := { s with heap := (s.heap.push { cls := .type "dict", data := .dict #[] }).update x (fun o => { o with dict := some s.heap.objs.size }), toks := s.toks + 1 }) (pre := []) (es := []) (n := 0) F2 N2 (fun _ h => nomatch h) (fun p hp => ?_) rfl (by show 1 ≤ 1000; decide) fun h' F3 N3 => ?_
  · rcases List.mem_append.mp hp with hp | hp
    · exact Nat.ne_of_lt (hlt p (List.mem_append_left _ hp))
    · rcases List.mem_cons.mp hp with rfl | hp
      · exact hxs
      · exact Nat.ne_of_lt (hlt p (List.mem_append_right _ (.tail _ hp)))
  · exact hq _ _ _ _ _ F3 N3 hlt
theorem fn_set_more {fd : FuncData} {d : Addr} {es : List DictEntry} {n : Nat} (F : Fr h₀ L s.heap m) (hx : s.heap.get? x = some ({ cls := .type "function", dict := some d, data := .func fd } : Obj)) (N : News h₀ L s.heap (pre ++ (d, dictOf es n) :: post)) (h1 : ∀ p ∈ pre, p.1 ≠ d) (h2 : ∀ p ∈ post, p.1 ≠ d)
    (htl : typeLookup (.type "function") name = pure none) (hl : (getL name es).isSome = true) (hz : ∀ tk, (putL name (PyData.keyHash w.params name) (.str name tk) v es).length ≤ 1000)
    (hq : ∀ h' tk tk2, Fr h₀ L h' m → News h₀ L h' (pre ++ (d, dictOf (putL name (PyData.keyHash w.params name) (.str name tk) v es) (putN name es n)) :: post) → Q () { s with heap := h', toks := tk2 }) :
    wpAny (model prog w) A (setAttr (.ref x) name v) Q E s := by
  refine fn_store hx rfl htl ?_
  refine wpAny_bind ?_
  show wpAny _ _ (instanceDict x true) _ _ _
  unfold instanceDict
  refine wpAny_bind (wpAny_loadPart (s := { s with toks := s.toks + 1 }) hx ?_)
  dsimp only
  refine wpAny_pure ?_
  dsimp only
  exact store_dict (s := { s with toks := s.toks + 1 }) F N h1 h2 hl (hz _) fun h' F3 N3 => hq _ _ _ F3 N3
theorem nsGet_dict {M : Model} {d : Addr} {es : List DictEntry} {n : Nat} {r : Value} {Q : Option Value → Shared → Prop} (hd : s.heap.get? d = some (dictOf es n)) (hl : getL name es = some (some r)) (h : Q (some r) s) : wpAny M A (nsGet d name) Q E s := by
  unfold nsGet
  refine wpAny_bind (wpAny_loadPart hd ?_)
  rw [nsLook_eq]
  unfold nsLookByArray
  dsimp only
  rw [← Array.find?_toList]
  unfold getL at hl
  split at hl
  · rename_i en he
    cases hl
    rw [show (es.toArray.toList.find? fun x => x.key.isStr name) = some en from he]
    exact wpAny_pure h
  · split at hl <;> cases hl
theorem fn_ga : Slot "function" "__getattribute__" "object.__getattribute__" :=
  .of (owner := "object") (n := "__getattribute__") (by rw [typeLookup_type, builtinLookup_eq_fast]; kernel_rfl) (by decide +kernel) (by decide +kernel) (by decide +kernel)
    (by first | exact .inl (by decide +kernel) | exact .inr (by decide +kernel)) (by rw [isSubtype_type]; kernel_rfl)
theorem fn_ga_entry : entryFor table "object.__getattribute__" = some Builtin.«object.__getattribute__» := entryFor_of_tree (by kernel_rfl)
theorem fn_ga_args (a b : Value) : argsOk "object.__getattribute__" ⟨[a, b], []⟩ := by unfold argsOk; kernel_rfl
theorem fn_no_hook : typeLookup (.type "function") "__getattr__" = pure none := by rw [typeLookup_type, builtinLookup_eq_fast]; kernel_rfl
theorem fn_get {fd : FuncData} {d : Addr} {es : List DictEntry} {n : Nat} {r : Value} {b : Bool} {Q : Value → Shared → Prop} (hx : s.heap.get? x = some ({ cls := .type "function", dict := some d, data := .func fd } : Obj)) (hd : s.heap.get? d = some (dictOf es n)) (hl : getL name es = some (some r)) (hh : handedIn r = true)
    (htl : typeLookup (.type "function") name = pure none) (h : Q r { s with toks := s.toks + 1 }) : wpAny (model prog w) A (getAttr (.ref x) name b) Q E s := by
  have hT : ∀ tk, ({ s with toks := tk } : Shared).TypeIs (.ref x) "function" := fun _ => ⟨_, hx, rfl⟩
  unfold getAttr getAttrBy
  refine wpAny_bind (wpAny_mkText (wpAny_holding (wpAny_bind (wpAny_typeOf (hT _) ?_))))
  rw [fn_ga.lookup]
  refine wpAny_bind (wpAny_pure ?_)
  dsimp only
  rw [if_neg (by decide)]
  unfold getAttrByItsOwn
  rw [show hookBefore (.type "function") = pure none from rfl]
  refine wpAny_bind (wpAny_pure (wpAny_bind (wpAny_attempt (wpAny_holding ?_))))
  rw [show callGetattribute (.ref x) (.str name s.toks) (.builtin "object.__getattribute__") b = boundAndCalled (.builtin "object.__getattribute__") (.ref x) (.str name s.toks) from by unfold callGetattribute; rw [if_neg (by cases b <;> decide)]]
  unfold boundAndCalled
  rw [fn_ga.bind]
  refine wpAny_bind (wpAny_pure ?_)
  refine wpAny_call_entry fn_ga (hT _) fn_ga_entry ?_ (fn_ga_args _ _)
  unfold Builtin.«object.__getattribute__»
  refine wpAny_bind (wpAny_pure (wpAny_bind (wpAny_pure (wpAny_bind (wpAny_typeOf (hT _) (wpAny_bind ?_))))))
  unfold find
  rw [htl]
  refine wpAny_bind (wpAny_pure (wpAny_bind (wpAny_pure (wpAny_bind (wpAny_pure ?_)))))
  dsimp only
  unfold ownThenClass
  refine wpAny_bind ?_
  show wpAny _ _ (ObjectAttr.ownDict x >>= inDict name) _ _ _
  unfold ObjectAttr.ownDict loadHead
  refine wpAny_bind (wpAny_bind (wpAny_loadPart (s := { s with toks := s.toks + 1 }) hx ?_))
  dsimp only
  unfold instanceDict
  refine wpAny_bind (wpAny_loadPart (s := { s with toks := s.toks + 1 }) hx ?_)
  dsimp only
  refine wpAny_pure ?_
  show wpAny _ _ (nsGet d name) _ _ _
  refine nsGet_dict (s := { s with toks := s.toks + 1 }) hd hl ?_
  dsimp only
  refine wpAny_bind (wpAny_rule (wpAny_pure (wpAny_pure ⟨_, rfl, ?_⟩)))
  try dsimp only
  rw [handedOut_of hh]
  exact wpAny_pure h
theorem fn_method {fd : FuncData} {d : Addr} {es : List DictEntry} {n : Nat} {r : Value} {pl : Sem Bool} {Q : Value × List Value → Shared → Prop} (hx : s.heap.get? x = some ({ cls := .type "function", dict := some d, data := .func fd } : Obj)) (hd : s.heap.get? d = some (dictOf es n)) (hl : getL name es = some (some r)) (hh : handedIn r = true)
    (htl : typeLookup (.type "function") name = pure none) (h : Q (r, []) { s with toks := s.toks + 1 }) : wpAny (model prog w) A (getMethod (.ref x) name pl) Q E s := by
  have hT : s.TypeIs (.ref x) "function" := ⟨_, hx, rfl⟩
  unfold getMethod
  refine wpAny_bind (wpAny_specialOf hT fn_ga.lookup ?_)
  dsimp only
  rw [if_neg (by decide +kernel)]
  refine wpAny_bind (wpAny_specialOf (name := Str.ofString "__getattr__") hT fn_no_hook ?_)
  try dsimp only
  rw [if_neg (by decide)]
  refine wpAny_bind (wpAny_specialOf hT htl ?_)
  dsimp only
  exact wpAny_bind (fn_get hx hd hl hh htl (wpAny_pure h))
end
end
section
variable {prog : Program} {w : World} {A : Around} {E : Value → Shared → Prop} {s : Shared} {h₀ : Heap} {L : Addr} {m : Str → Option Value} {pre post : List (Addr × Obj)}
theorem extend_led {ua D : Addr} {xs : Array Value} {n nd : Nat} {Q : Value → Shared → Prop} (F : Fr h₀ L s.heap m) (N : News h₀ L s.heap (pre ++ (ua, W.listOf #[] n) :: post)) (h1 : ∀ p ∈ pre, p.1 ≠ ua) (h2 : ∀ p ∈ post, p.1 ≠ ua) (hD : s.heap.get? D = some (W.listOf xs nd)) (hz : xs.size ≤ 1000)
    (hQ : ∀ h' c, Fr h₀ L h' m → News h₀ L h' (pre ++ (ua, W.listOf xs c) :: post) → Q .none { s with heap := h' }) :
    wpAny (model prog w) A (call (.builtin "list.extend") [.ref ua, .ref D]) Q E s := by
  have hU := (N (ua, W.listOf #[] n) (by simp)).1
  have hT : s.TypeIs (.ref ua) "list" := ⟨_, hU, rfl⟩
  refine wpAny_call_entry PySem.F.slot_list_extend hT PySem.F.entry_list_extend ?_ (PySem.F.args_list_extend_2 _ _)
  unfold Builtin.«list.extend»
  refine wpAny_bind (wpAny_pure ?_)
  dsimp only
  unfold Builtin.List.listExtendWith
  refine wpAny_bind (wpAny_typeOf (T := "list") ⟨_, hD, rfl⟩ ?_)
  rw [if_pos (by simp)]
  unfold Builtin.List.listItems
  refine wpAny_bind (wpAny_bind (wpAny_seqItems hD rfl (wpAny_pure ?_)))
  refine wpAny_bind (wpAny_bind (wpAny_seqItems hU rfl (wpAny_pure ?_)))
  rw [if_neg (by simp)]
  show wpAny _ _ (updateSeq ua (· ++ xs) >>= _) _ _ _
  refine wpAny_bind (wpAny_updateSeq hU rfl ?_ (by decide) (by rw [sizeLine_eq]; simp; omega))
  obtain ⟨F', N'⟩ := news_upd (f := Obj.mapSeq (· ++ xs)) F N h1 h2 rfl rfl
  refine wpAny_pure ⟨_, rfl, ?_⟩
  have e : Obj.mapSeq (· ++ xs) (W.listOf #[] n) = W.listOf xs (match (Obj.mapSeq (· ++ xs) (W.listOf #[] n)).data with | .seq _ k => k | _ => 0) := by
    simp [Obj.mapSeq, W.listOf]
  rw [e] at N'
  exact hQ _ _ F' N'
end
theorem itemL {prog : Program} {w : World} {A : Around} {E : Value → Shared → Prop} {s : Shared} {value slice : Expr} {l : Addr} {n : Nat} {items : Array Value} {k : Int} {u : Tok} {v : Value} {Q : Value → Shared → Prop} {h₀ : Heap} {L : Addr} {news : List (Addr × Obj)} (N : News h₀ L s.heap news) (hm : (l, W.listOf items n) ∈ news)
    (h0 : 0 ≤ k) (h1 : k < 1000) (hx : items[k.toNat]? = some v) (h : Q v s)
    (hs : subscripted slice false (.ref l) (.int k u) = operate [.ref l, .int k u] (getItem (.ref l) (.int k u)) := by with_unfolding_all rfl) :
    wpAny (model prog w) A (subscriptTail value slice (.ref l) (.int k u)) Q E s :=
  have hl := News.isList N hm
  tail_any hl.typeIs slot_list_getitem.lookup (wpAny_getItem_list hl h0 (by omega) hx h) hs
theorem low_S {l : List Nat} (hA : ∀ c ∈ l, c < 128) : Txt.lower (S l) = S (l.map lo1) := by
  rw [lower_ascii (by rw [S_cps]; exact hA), S_mk, S_mk]
  simp
theorem lowerS {prog : Program} {w : World} {A : Around} {E : Value → Shared → Prop} {s : Shared} {l : List Nat} {t : Tok} {Q : Value → Shared → Prop} (hl : l.length ≤ 100000) (hA : ∀ c ∈ l, c < 128) (h : Q (.str (S (l.map lo1)) s.toks) { s with toks := s.toks + 1 }) :
    wpAny (model prog w) A (call (.builtin "str.lower") [.str (S l) t]) Q E s := by
  refine SCL.lower (by rw [S_len]; omega) fun _ => ?_
  rw [low_S hA]; exact h
/-! ### a loop over a list of the ledger, by what holds of it -/
def FrOk {σ : Type} (x : Str) (ps : σ → List (Str × Value)) (stored : List Str) (m₀ m : Str → Option Value) (c : σ) : Prop :=
  (∀ p ∈ ps c, m p.1 = some p.2) ∧ ∀ z, z ≠ x → (∀ p ∈ ps c, z ≠ p.1) → stored.contains z = false → m z = m₀ z
def JEnd {σ β : Type} (h₀ : Heap) (L : Addr) (news : List (Addr × Obj)) (x : Str) (ps : σ → List (Str × Value)) (stored : List Str) (m₀ : Str → Option Value) (P : List β → σ → Prop) (rest : List β) (I : Addr) (it : Obj) (s₁ s₂ : Shared) : Prop :=
  ∃ h' tk m' c, s₂ = { s₁ with heap := h', toks := tk } ∧ Fr h₀ L h' m' ∧ News h₀ L h' ((I, it) :: news) ∧ P rest c ∧ FrOk x ps stored m₀ m' c
def JPost {σ β : Type} (h₀ : Heap) (L : Addr) (news : List (Addr × Obj)) (x : Str) (ps : σ → List (Str × Value)) (stored : List Str) (m₀ : Str → Option Value) (P : List β → σ → Prop) (rest : List β) (I : Addr) (it : Obj) (s₁ : Shared) (Q : Flow → Shared → Prop) (f : Flow) (s₂ : Shared) : Prop :=
  match f with
  | .ret v => Q (.ret v) s₂
  | .brk => Q .next s₂
  | _ => JEnd h₀ L news x ps stored m₀ P rest I it s₁ s₂
section
variable {prog : Program} {w : World} {A : Around} {E : Value → Shared → Prop} {s : Shared} {env : Env} {h₀ : Heap} {x : Str} {body : List Stmt} {Q : Flow → Shared → Prop}
theorem listRest_ind {σ β : Type} {I : Addr} {lp : Addr × Obj} (news : List (Addr × Obj)) (hlp : lp ∈ news) (hI : ∀ p ∈ news, p.1 < I) (ps : σ → List (Str × Value)) (stored : List Str) (m₀ : Str → Option Value) (val : β → Value) (P : List β → σ → Prop)
    (turn : ∀ (b : β) (rest : List β) (c : σ) (u : Str → Option Value) (it : Obj) h tk, P (b :: rest) c → Fr h₀ env.locals h (fun y => if y = x then some (val b) else kstB (fun z => if stored.contains z then u z else m₀ z) (ps c) y) → News h₀ env.locals h ((I, it) :: news) →
      wpAny (model prog w) A (execs body env) (JPost h₀ env.locals news x ps stored m₀ P rest I it { s with heap := h, toks := tk } Q) E { s with heap := h, toks := tk })
    (done : ∀ (c : σ) (u : Str → Option Value) h tk, P [] c → Fr h₀ env.locals h (fun y => if y = x then u y else kstB (fun z => if stored.contains z then u z else m₀ z) (ps c) y) → News h₀ env.locals h news → Q .next { s with heap := h, toks := tk }) :
    ∀ (rs : List β) (c : σ) (m : Str → Option Value), P rs c → FrOk x ps stored m₀ m c → ListRest prog w A E h₀ env x body Q s I lp (rs.map val) m news
  | [], c, m, hp, hf => ListRest.zero fun h tk F N => done c m h tk hp (kst_frOut hf.1 hf.2 F) N
  | b :: rest, c, m, hp, hf => ListRest.succ fun it h tk _ F N => by
    refine wpAny_mono (turn b rest c m it h tk hp (kst_fr hf.1 hf.2 F) N) (fun f s₂ q => ?_) fun _ _ e => e
    have go : JEnd h₀ env.locals news x ps stored m₀ P rest I it { s with heap := h, toks := tk } s₂ → UnrEnd h₀ env.locals { s with heap := h, toks := tk } I it (fun m' n' => lp ∈ n' ∧ ListRest prog w A E h₀ env x body Q s I lp (rest.map val) m' n') s₂ := by
      rintro ⟨h', tk', m', c', rfl, F', N', hp', hf'⟩
      exact UnrEnd.intro F' N' news (fun _ h => h) (fun p hq => Nat.ne_of_lt (hI p hq)) ⟨hlp, listRest_ind news hlp hI ps stored m₀ val P turn done rest c' m' hp' hf'⟩
    cases f with
    | ret v => exact q
    | brk => exact q
    | next => exact go q
    | cont => exact go q
theorem jEnd {σ β : Type} {L : Addr} {news : List (Addr × Obj)} {ps : σ → List (Str × Value)} {stored : List Str} {m₀ m' : Str → Option Value} {P : List β → σ → Prop} {rest : List β} {I : Addr} {it : Obj} {s₁ : Shared} {h' : Heap} {tk : Nat} (c : σ)
    (F : Fr h₀ L h' m') (N : News h₀ L h' ((I, it) :: news)) (hp : P rest c) (hk : ∀ p ∈ ps c, m' p.1 = some p.2) (hr : ∀ z, z ≠ x → (∀ p ∈ ps c, z ≠ p.1) → stored.contains z = false → m' z = m₀ z) :
    JEnd h₀ L news x ps stored m₀ P rest I it s₁ { s₁ with heap := h', toks := tk } := ⟨_, _, _, c, rfl, F, N, hp, hk, hr⟩
theorem loopVals {σ β : Type} {ax : Addr} {n : Nat} {m₀ : Str → Option Value} {news : List (Addr × Obj)} (ps : σ → List (Str × Value)) (stored : List Str) (val : β → Value) (rs : List β) (P : List β → σ → Prop) (c₀ : σ)
    (hh : A.handled = none) (F : Fr h₀ env.locals s.heap m₀) (N : News h₀ env.locals s.heap news) (hm : (ax, W.listOf (rs.map val).toArray n) ∈ news) (hk : ∀ p ∈ ps c₀, m₀ p.1 = some p.2) (hp : P rs c₀)
    (turn : ∀ (I : Addr) (b : β) (rest : List β) (c : σ) (u : Str → Option Value) (it : Obj) h tk, (∀ p ∈ news, p.1 < I) → P (b :: rest) c → Fr h₀ env.locals h (fun y => if y = x then some (val b) else kstB (fun z => if stored.contains z then u z else m₀ z) (ps c) y) → News h₀ env.locals h ((I, it) :: news) →
      wpAny (model prog w) A (execs body env) (JPost h₀ env.locals news x ps stored m₀ P rest I it { s with heap := h, toks := tk } Q) E { s with heap := h, toks := tk })
    (done : ∀ (c : σ) (u : Str → Option Value) h tk, P [] c → Fr h₀ env.locals h (fun y => if y = x then u y else kstB (fun z => if stored.contains z then u z else m₀ z) (ps c) y) → News h₀ env.locals h news → Q .next { s with heap := h, toks := tk }) :
    wpAny (model prog w) A (pyIter (.ref ax)) (fun it s₂ => LoopAtV prog w A h₀ env x body Q E it s₂) E s :=
  iter_listUnr hh F N hm rfl rfl fun I hI => listRest_ind news hm hI ps stored m₀ val P (fun b rest c u it h tk => turn I b rest c u it h tk hI) done rs c₀ m₀ hp ⟨hk, fun _ _ _ _ => rfl⟩
end
/-! ### loops with a break: what follows is walked once -/
section
variable {prog : Program} {w : World} {A : Around} {E : Value → Shared → Prop} {s : Shared} {env : Env} {h₀ : Heap} {x : Str} {body : List Stmt} {Q : Flow → Shared → Prop}
theorem loopTextB {σ : Type} {l : List Nat} {tx : Tok} {m₀ : Str → Option Value} (news : List (Addr × Obj)) (ps : σ → List (Str × Value)) (stored : List Str) (P : List Nat → σ → Prop) (D : σ → Prop) (c₀ : σ)
    (hh : A.handled = none) (F : Fr h₀ env.locals s.heap m₀) (N : News h₀ env.locals s.heap news) (hk : ∀ p ∈ ps c₀, m₀ p.1 = some p.2) (hp : P [] c₀)
    (turn : ∀ (Q' : Flow → Shared → Prop), (∀ (c : σ) (u : Str → Option Value) h tk, D c → Fr h₀ env.locals h (fun y => if y = x then u y else kstB (fun z => if stored.contains z then u z else m₀ z) (ps c) y) → News h₀ env.locals h news → Q' .next { s with heap := h, toks := tk }) →
      ∀ (c : σ) (pre post : List Nat) (n : Nat) t (u : Str → Option Value) h tk own, l = pre ++ n :: post → OwnOff own (news.map (·.1)) → P pre c →
      Fr h₀ env.locals h (fun y => if y = x then some (.str (S [n]) t) else kstB (fun z => if stored.contains z then u z else m₀ z) (ps c) y) → News h₀ env.locals h (news ++ own) →
      wpAny (model prog w) A (execs body env) (InvPostN h₀ env.locals (KstS (fun _ => news) ps (fun _ => True) x stored m₀ (PJ P) ((pre ++ [n]).map (fun (n : Nat) => (n : Int)))) own (news.map (·.1)) { s with heap := h, toks := tk } Q') E { s with heap := h, toks := tk })
    (hD : ∀ c, P l c → D c)
    (done : ∀ (c : σ) (u : Str → Option Value) h tk, D c → Fr h₀ env.locals h (fun y => if y = x then u y else kstB (fun z => if stored.contains z then u z else m₀ z) (ps c) y) → News h₀ env.locals h news → Q .next { s with heap := h, toks := tk }) :
    wpAny (model prog w) A (pyIter (.str (S l) tx)) (fun it s₂ => LoopAtV prog w A h₀ env x body Q E it s₂) E s :=
  loopText news ps stored P c₀ hh F N hk hp (turn Q done) fun c u h tk hp F N => done c u h tk (hD c hp) F N
end
/-! ### comprehensions by what holds of them -/
section
open LCg LCt PySem.Calls
variable {prog : Program} {w : World} {A : Around} {E : Value → Shared → Prop} {s : Shared} {h₀ : Heap} {L : Addr} {m : Str → Option Value} {env : Env}
theorem CompEnd.mono {I C D : Addr} {oI oC oD : Obj} {s₁ : Shared} {S : List (Addr × Obj) → Prop} {r r' : Value → List (Addr × Obj) → Prop} {y : Value} {s₂ : Shared} (h : CompEnd h₀ L m s₁ I oI C oC D oD S r y s₂) (hr : ∀ n, r y n → r' y n) : CompEnd h₀ L m s₁ I oI C oC D oD S r' y s₂ := by
  obtain ⟨h', tk, news', e, F, N, off, hS, x⟩ := h
  exact ⟨h', tk, news', e, F, N, off, hS, hr _ x⟩
theorem restT_inv {ct elt : Expr} {x : Str} {scope : Scope} {cl : List (Str × Addr)} {S : List (Addr × Obj) → Prop} {P : Nat → Value → Prop} {Fin : List Value → List (Addr × Obj) → Prop} {news : List (Addr × Obj)} (n : Nat) (J : Nat → List Value → Prop)
    (turn : ∀ i ys v I oI C oC D m₂ h tk (E' : Value → Shared → Prop), i < n → J i ys → P i v → NsObj oC m₂ → m₂ x = some v → Fr h₀ L h m → News h₀ L h ((I, oI) :: (C, oC) :: (D, lst ys) :: news) → Off3 I C D news → ((@Ne Nat I C) ∧ (@Ne Nat I D) ∧ (@Ne Nat C D)) →
      wpAny (model prog w) A (isTrue ct (compEnvC scope cl C env) (eval ct (compEnvC scope cl C env))) (fun ok s' => if ok = true then
        wpAny (model prog w) A (eval elt (compEnvC scope cl C env)) (CompEnd h₀ L m { s with heap := h, toks := tk } I oI C oC D (lst ys) S (fun y news' => news' = news ∧ StopAt (J (i + 1) (ys ++ [y])))) E' s'
        else CompEnd h₀ L m { s with heap := h, toks := tk } I oI C oC D (lst ys) S (fun _ news' => news' = news ∧ StopAt (J (i + 1) ys)) Value.none s') E' { s with heap := h, toks := tk })
    (fin : ∀ ys, J n ys → Fin ys news) : ∀ k i ys, i + k = n → J i ys → CompRestT prog w A h₀ L m env ct elt x scope cl s S P Fin k i ys news
  | 0, i, ys, e, hJ => by
    obtain rfl : i = n := e
    exact CompRestT.zero (fin ys hJ)
  | k + 1, i, ys, e, hJ => CompRestT.succ fun v I oI C oC D m₂ h tk E' hv hC hx F N off ne => by
    refine wpAny_mono (turn i ys v I oI C oC D m₂ h tk E' (by omega) hJ hv hC hx F N off ne) (fun ok s' q => ?_) fun _ _ q => q
    cases ok with
    | true =>
      rw [if_pos rfl] at q ⊢
      refine wpAny_mono q (fun y s'' q' => CompEnd.mono q' ?_) fun _ _ q => q
      rintro news' ⟨rfl, hJ'⟩
      exact restT_inv n J turn fin k (i + 1) _ (by omega) hJ'
    | false =>
      rw [if_neg (by decide)] at q ⊢
      refine CompEnd.mono q ?_
      rintro news' ⟨rfl, hJ'⟩
      exact restT_inv n J turn fin k (i + 1) _ (by omega) hJ'
theorem restU_inv {elt : Expr} {x : Str} {scope : Scope} {cl : List (Str × Addr)} {S : List (Addr × Obj) → Prop} {P : Nat → Value → Prop} {Fin : List Value → List (Addr × Obj) → Prop} {news : List (Addr × Obj)} (n : Nat) (J : Nat → List Value → Prop)
    (turn : ∀ i ys v I oI C oC D m₂ h tk (E' : Value → Shared → Prop), i < n → J i ys → P i v → NsObj oC m₂ → m₂ x = some v → Fr h₀ L h m → News h₀ L h ((I, oI) :: (C, oC) :: (D, lst ys) :: news) → Off3 I C D news → ((@Ne Nat I C) ∧ (@Ne Nat I D) ∧ (@Ne Nat C D)) →
      wpAny (model prog w) A (eval elt (compEnvC scope cl C env)) (CompEnd h₀ L m { s with heap := h, toks := tk } I oI C oC D (lst ys) S (fun y news' => news' = news ∧ StopAt (J (i + 1) (ys ++ [y])))) E' { s with heap := h, toks := tk })
    (fin : ∀ ys, J n ys → Fin ys news) : ∀ k i ys, i + k = n → J i ys → CompRest prog w A h₀ L m env elt x scope cl s S P Fin k i ys news
  | 0, i, ys, e, hJ => by
    obtain rfl : i = n := e
    exact CompRest.zero (fin ys hJ)
  | k + 1, i, ys, e, hJ => CompRest.succ fun v I oI C oC D m₂ h tk E' hv hC hx F N off ne => by
    refine wpAny_mono (turn i ys v I oI C oC D m₂ h tk E' (by omega) hJ hv hC hx F N off ne) (fun y s' q => CompEnd.mono q ?_) fun _ _ q => q
    rintro news' ⟨rfl, hJ'⟩
    exact restU_inv n J turn fin k (i + 1) _ (by omega) hJ'
end
theorem fr_gen {h₀ h : Heap} {L : Addr} {m : Str → Option Value} {x : Str} {v : Value} (F : Fr h₀ L h m) (hk : m x = some v) : ∃ m9 : Str → Option Value, Fr h₀ L h (fun y => if y = x then some v else m9 y) := by
  refine ⟨m, ?_⟩
  have e : (fun y => if y = x then some v else m y) = m := by
    funext y
    by_cases h : y = x
    · rw [if_pos h, h, hk]
    · rw [if_neg h]
  rw [e]; exact F
section
open PySem.Builtin PySem.Builtin.Str
theorem post_pos {s : Shared} {c : Prop} [Decidable c] {y z : Str} {t : Tok} {Q : Value → Shared → Prop} (h : (if c then y else z).length ≤ sizeLine ∧ ∀ t' k, s.toks ≤ k → Q (.str (if c then y else z) t') { s with toks := k }) :
    (if c then Made.val (.str y t) else Made.str z).post Q s := by
  by_cases hc : c
  · rw [if_pos hc]; have h' := h.2 t s.toks (Nat.le_refl _); rw [if_pos hc] at h'; exact h'
  · rw [if_neg hc]; have h' := h.2 s.toks (s.toks + 1) (Nat.le_succ _); have h1 := h.1; rw [if_neg hc] at h' h1; exact ⟨h1, h'⟩
theorem sl_ssP {prog : Program} {w : World} {A : Around} {E : Value → Shared → Prop} {s : Shared} {value slice : Expr} {l : List Nat} {t : Tok} {h₀ : Heap} {L : Addr} {m : Str → Option Value} {news : List (Addr × Obj)} {Q : Value → Shared → Prop} {i j : Int} {ui uj : Tok} (h0 : 0 < s.toks) (hF : Fr h₀ L s.heap m) (hN : News h₀ L s.heap news) (hl : l.length ≤ 100000) (hi : 0 ≤ i) (hij : i ≤ j) (h : ∀ h' t' k, 0 < k → Fr h₀ L h' m → News h₀ L h' news → Q (.str (S ((l.drop i.toNat).take (j.toNat - i.toNat))) t') { s with heap := h', toks := k })
    (hs : subscripted slice false (.str (S l) t) (.ref s.heap.objs.size) = operate [.ref s.heap.objs.size, .str (S l) t] (getItem (.str (S l) t) (.ref s.heap.objs.size)) := by with_unfolding_all rfl)
    (ht : ∀ r, letTemporaryGo value (.str (S l) t) r = pure () := by intro _; with_unfolding_all rfl) :
    wpAny (model prog w) A (subscriptTail value slice (.str (S l) t) (.ref s.heap.objs.size)) Q E { s with heap := s.heap.push { cls := .type "slice", data := .fields #[.int i ui, .int j uj, .none] } } := by
  refine tail_of_ItemOn ⟨"str", _, PySem.F.slot_str_getitem.lookup, typeIs_str _ _ _, wpAny_getItem_str_slice (l := some (i, ui)) (u := some (j, uj)) (st := none) ⟨_, Heap.get?_push_size _ rfl, rfl, rfl⟩ rfl
    (post_pos ⟨Nat.le_trans (Txt.slice_le (S l) _ _) (by rw [S_len, sizeLine_eq]; omega), fun t' k hk => ?_⟩)⟩ hs ht
  obtain ⟨a, rfl⟩ := Int.eq_ofNat_of_zero_le hi
  obtain ⟨b, rfl⟩ := Int.eq_ofNat_of_zero_le (Int.le_trans hi hij)
  have hkp := keptFrN (h₀ := h₀) (L := L) (m := m) (news := news) s.heap { cls := .type "slice", data := .fields #[.int a ui, .int b uj, .none] } ⟨hF, hN⟩
  have e := h _ t' k (Nat.lt_of_lt_of_le h0 hk) hkp.1 hkp.2
  rw [← slice_ss _ _ _ (by simpa using hij)] at e
  exact e
end
/-! ### lists of truths -/
section
variable {prog : Program} {w : World} {A : Around} {E : Value → Shared → Prop} {s : Shared} {Q : Value → Shared → Prop}
theorem eq_nils {l b : Addr} (hl : s.heap.IsList l #[]) (hb : s.heap.IsList b #[]) (hu : A.units < cLine) (h : Q (.bool true) s) : wpAny (model prog w) A (compareOp .Eq (.ref l) (.ref b)) Q E s :=
  PySem.SeqAt.eq_listAt (e := fun _ => true) hl hb rfl hu (fun j h1 _ => absurd h1 (by simp)) h
theorem in_bools {l : Addr} {bs : List Bool} (hl : s.heap.IsList l (bs.map Value.bool).toArray) (h : Q (.bool (bs.any id)) s) : wpAny (model prog w) A (compareOp .In (.bool true) (.ref l)) Q E s := by
  refine PySem.SeqAt.in_listAt (fun y => match y with | .bool b => b | _ => false) hl (fun y hy => ?_) ?_
  · simp only [List.mem_toArray, List.mem_map] at hy
    obtain ⟨b, _, rfl⟩ := hy
    have e := PySem.SeqAt.EqAt.bool_bool (A := A.in1) (s := s) b true
    cases b <;> exact e
  · have e : ((bs.map Value.bool).toArray.any fun y => match y with | .bool b => b | _ => false) = bs.any id := by
      rw [List.any_toArray, List.any_map]; rfl
    rw [e]; exact h
end
/-! ### the rule of the longest head -/
def nm3 {α : Type} (a b c : α) (k : Nat) : α := if k = 0 then a else if k = 1 then b else c
def Due (l : List Nat) (n0 n1 n2 : List Nat) (v0 v1 v2 : Bool) : Prop :=
  (∀ k, k < 3 → ¬ nm3 n0 n1 n2 k <+: l) ∨ ∃ k, k < 3 ∧ nm3 n0 n1 n2 k <+: l ∧ nm3 v0 v1 v2 k = true ∧ ∀ j, j < 3 → nm3 n0 n1 n2 j <+: l → (nm3 n0 n1 n2 j).length ≤ (nm3 n0 n1 n2 k).length
def headsK (l : List Nat) (n0 n1 n2 : List Nat) (i : Nat) : List Nat := (List.range i).filter (fun k => decide (l.take (nm3 n0 n1 n2 k).length = nm3 n0 n1 n2 k))
theorem take_pre (l a : List Nat) : l.take a.length = a ↔ a <+: l := ⟨fun h => by rw [← h]; exact List.take_prefix _ _, fun h => (List.prefix_iff_eq_take.mp h).symm⟩
theorem mem_heads {l n0 n1 n2 : List Nat} {i k : Nat} : k ∈ headsK l n0 n1 n2 i ↔ k < i ∧ nm3 n0 n1 n2 k <+: l := by
  unfold headsK
  rw [List.mem_filter, List.mem_range, decide_eq_true_iff, take_pre]
theorem heads_succ_pos {l n0 n1 n2 : List Nat} {i : Nat} (h : l.take (nm3 n0 n1 n2 i).length = nm3 n0 n1 n2 i) : headsK l n0 n1 n2 (i + 1) = headsK l n0 n1 n2 i ++ [i] := by
  unfold headsK
  rw [List.range_succ, List.filter_append, List.filter_cons, if_pos (by rw [h]; simp)]; rfl
theorem heads_succ_neg {l n0 n1 n2 : List Nat} {i : Nat} (h : ¬ l.take (nm3 n0 n1 n2 i).length = nm3 n0 n1 n2 i) : headsK l n0 n1 n2 (i + 1) = headsK l n0 n1 n2 i := by
  unfold headsK
  rw [List.range_succ, List.filter_append, List.filter_cons, if_neg (by simpa using h)]; simp
theorem due_said {l n0 n1 n2 : List Nat} {v0 v1 v2 : Bool} {M : Int} (ks : List Nat) (hks : ks = headsK l n0 n1 n2 3) (hM : M ∈ (0 : Int) :: ks.map (fun k => ((nm3 n0 n1 n2 k).length : Int))) (hle : ∀ a ∈ (0 : Int) :: ks.map (fun k => ((nm3 n0 n1 n2 k).length : Int)), a ≤ M)
    (bs : List Bool) (hbs : bs = (ks.filter (fun k => decide (((nm3 n0 n1 n2 k).length : Int) = M))).map (nm3 v0 v1 v2)) : (bs = [] ∨ bs.any id = true) ↔ Due l n0 n1 n2 v0 v1 v2 := by
  have hmem : ∀ k, k ∈ ks ↔ k < 3 ∧ nm3 n0 n1 n2 k <+: l := fun k => by rw [hks]; exact mem_heads
  have hle' : ∀ k ∈ ks, ((nm3 n0 n1 n2 k).length : Int) ≤ M := fun k hk => hle _ (.tail _ (List.mem_map.mpr ⟨k, hk, rfl⟩))
  have h0 : 0 ≤ M := hle 0 (.head _)
  have hex : ks ≠ [] → ∃ k ∈ ks, ((nm3 n0 n1 n2 k).length : Int) = M := fun hne => by
    rcases List.mem_cons.mp hM with e | e
    · obtain ⟨k, hk⟩ := List.exists_mem_of_ne_nil _ hne
      have := hle' k hk
      exact ⟨k, hk, by omega⟩
    · obtain ⟨k, hk, e⟩ := List.mem_map.mp e
      exact ⟨k, hk, e⟩
  constructor
  · rintro (h | h)
    · left
      intro k hk hp
      obtain ⟨j, hj, ej⟩ := hex (List.ne_nil_of_mem ((hmem k).mpr ⟨hk, hp⟩))
      rw [h] at hbs
      have hf : j ∈ ks.filter (fun k => decide (((nm3 n0 n1 n2 k).length : Int) = M)) := List.mem_filter.mpr ⟨hj, decide_eq_true ej⟩
      rw [List.map_eq_nil_iff.mp hbs.symm] at hf
      cases hf
    · right
      rw [List.any_eq_true] at h
      obtain ⟨b, hb, hb1⟩ := h
      rw [hbs] at hb
      obtain ⟨k, hk, rfl⟩ := List.mem_map.mp hb
      obtain ⟨hk1, hk2⟩ := List.mem_filter.mp hk
      have hk3 := of_decide_eq_true hk2
      obtain ⟨q1, q2⟩ := (hmem k).mp hk1
      refine ⟨k, q1, q2, hb1, fun j hj hp => ?_⟩
      have := hle' j ((hmem j).mpr ⟨hj, hp⟩)
      omega
  · rintro (h | ⟨k, hk, hp, hv, hmax⟩)
    · left
      have : ks = [] := List.eq_nil_iff_forall_not_mem.mpr fun k hk => h k ((hmem k).mp hk).1 ((hmem k).mp hk).2
      rw [hbs, this]; rfl
    · right
      have hkm := (hmem k).mpr ⟨hk, hp⟩
      obtain ⟨j, hj, ej⟩ := hex (List.ne_nil_of_mem hkm)
      have hjm := (hmem j).mp hj
      have a1 := hmax j hjm.1 hjm.2
      have a2 := hle' k hkm
      rw [List.any_eq_true]
      refine ⟨true, ?_, rfl⟩
      rw [hbs, ← hv]
      exact List.mem_map.mpr ⟨k, List.mem_filter.mpr ⟨hkm, decide_eq_true (by omega)⟩, rfl⟩
theorem ints_map {α : Type} (f : α → Int) (g : α → Tok) : ∀ ks : List α, IntsAre (ks.map (fun k => Value.int (f k) (g k))) (ks.map f)
  | [] => .nil
  | _ :: r => .cons _ _ (ints_map f g r)
theorem turn_at {ks : List (Nat × Tok)} {i : Nat} {v : Value} (h : (ks.map (fun k => Value.int (k.1 : Int) k.2)).toArray[i]? = some v) : ∃ kk : Nat × Tok, v = .int (kk.1 : Int) kk.2 ∧ ks.take (i + 1) = ks.take i ++ [kk] ∧ kk ∈ ks := by
  rw [List.getElem?_toArray, List.getElem?_map, Option.map_eq_some_iff] at h
  obtain ⟨kk, h1, rfl⟩ := h
  refine ⟨kk, rfl, ?_, List.mem_of_getElem? h1⟩
  rw [List.take_add_one, h1]; rfl
theorem heads_lt {l n0 n1 n2 : List Nat} {ks : List (Nat × Tok)} (h : ks.map (·.1) = headsK l n0 n1 n2 3) {kk : Nat × Tok} (hk : kk ∈ ks) : kk.1 < 3 :=
  (mem_heads.mp (h ▸ List.mem_map.mpr ⟨kk, hk, rfl⟩)).1
theorem lens_snoc {ks : List (Nat × Tok)} {i : Nat} {kk : Nat × Tok} {f : Nat → Int} {ys : List Value} {z : Int} {t : Tok} (h : ks.take (i + 1) = ks.take i ++ [kk]) (hz : z = f kk.1) (hJ : IntsAre ys ((ks.take i).map fun k => f k.1)) : IntsAre (ys ++ [.int z t]) ((ks.take (i + 1)).map fun k => f k.1) := by
  rw [h, List.map_append, hz]
  exact hJ.append (.cons _ _ .nil)
theorem said_pos {ks : List (Nat × Tok)} {i : Nat} {kk : Nat × Tok} {f : Nat → Int} {M : Int} {g : Nat → Bool} {ys : List Value} {b : Bool} (h : ks.take (i + 1) = ks.take i ++ [kk]) (hz : f kk.1 = M) (hb : b = g kk.1) (hJ : ys = ((ks.take i).filter fun k => decide (f k.1 = M)).map fun k => Value.bool (g k.1)) :
    ys ++ [.bool b] = ((ks.take (i + 1)).filter fun k => decide (f k.1 = M)).map fun k => Value.bool (g k.1) := by
  rw [h, List.filter_append, List.map_append, hJ, hb, List.filter_cons, if_pos (decide_eq_true hz)]; rfl
theorem said_neg {ks : List (Nat × Tok)} {i : Nat} {kk : Nat × Tok} {f : Nat → Int} {M : Int} {g : Nat → Bool} {ys : List Value} (h : ks.take (i + 1) = ks.take i ++ [kk]) (hz : ¬ f kk.1 = M) (hJ : ys = ((ks.take i).filter fun k => decide (f k.1 = M)).map fun k => Value.bool (g k.1)) :
    ys = ((ks.take (i + 1)).filter fun k => decide (f k.1 = M)).map fun k => Value.bool (g k.1) := by
  rw [h, List.filter_append, List.map_append, ← hJ, List.filter_cons, if_neg (by simpa using hz)]; simp
theorem heads_len {l n0 n1 n2 : List Nat} {ks : List (Nat × Tok)} (h : ks.map (·.1) = headsK l n0 n1 n2 3) : ks.length ≤ 3 := by
  have e := congrArg List.length h
  rw [List.length_map] at e
  have := List.length_filter_le (fun k => decide (l.take (nm3 n0 n1 n2 k).length = nm3 n0 n1 n2 k)) (List.range 3)
  unfold headsK at e
  rw [List.length_range] at this
  omega
theorem news_pick {h₀ h : Heap} {L : Addr} {a b c d e f : Addr × Obj} {r : List (Addr × Obj)} (N : News h₀ L h (a :: b :: c :: d :: e :: f :: r)) : News h₀ L h (f :: d :: r) := fun q hq => N q (by
  simp only [List.mem_cons] at hq ⊢
  rcases hq with h | h | h <;> simp [h])
theorem cell_apart {L D : Addr} {od o2 o3 o4 : Obj} {news : List (Addr × Obj)} (h1 : ∀ p ∈ news, p.1 < L) (hD : @Ne Nat (L + 1 + 1 + 1 + 1) D) : ∀ p ∈ (D, od) :: (L + 1 + 1 + 1, o2) :: (L + 1 + 1, o3) :: (L + 1, o4) :: news, p.1 ≠ L + 1 + 1 + 1 + 1 := fun p hp => by
  simp only [List.mem_cons] at hp
  rcases hp with rfl | rfl | rfl | rfl | hp
  · exact hD.symm
  · exact Nat.ne_of_lt (Nat.lt_succ_self _)
  · exact Nat.ne_of_lt (Nat.lt_succ_of_lt (Nat.lt_succ_self _))
  · exact Nat.ne_of_lt (Nat.lt_succ_of_lt (Nat.lt_succ_of_lt (Nat.lt_succ_self _)))
  · exact Nat.ne_of_lt (Nat.lt_of_lt_of_le (h1 p hp) (Nat.le_add_right L 4))
theorem due_fin {l n0 n1 n2 : List Nat} {v0 v1 v2 : Bool} {M : Int} {ks : List (Nat × Tok)} {bs : List Value} (hks : ks.map (·.1) = headsK l n0 n1 n2 3) (hM : M ∈ (0 : Int) :: ks.map (fun k => ((nm3 n0 n1 n2 k.1).length : Int))) (hle : ∀ a, a ∈ (0 : Int) :: ks.map (fun k => ((nm3 n0 n1 n2 k.1).length : Int)) → a ≤ M)
    (hbs : bs = (ks.filter fun k => decide (((nm3 n0 n1 n2 k.1).length : Int) = M)).map fun k => Value.bool (nm3 v0 v1 v2 k.1)) : ∃ BS : List Bool, bs = BS.map Value.bool ∧ ((BS = [] ∨ BS.any id = true) ↔ Due l n0 n1 n2 v0 v1 v2) := by
  refine ⟨((ks.map (·.1)).filter (fun k => decide (((nm3 n0 n1 n2 k).length : Int) = M))).map (nm3 v0 v1 v2), ?_, due_said (ks.map (·.1)) hks ?_ ?_ _ rfl⟩
  · rw [hbs, List.filter_map, List.map_map, List.map_map]; rfl
  · rw [List.map_map]; exact hM
  · rw [List.map_map]; exact hle
section
open LCg PySem.Calls
variable {prog : Program} {w : World} {A : Around} {E : Value → Shared → Prop} {s : Shared} {h₀ : Heap} {L : Addr} {m : Str → Option Value} {env : Env}
theorem rest3 {elt : Expr} {x : Str} {scope : Scope} {cl : List (Str × Addr)} {S : List (Addr × Obj) → Prop} {Fin : List Value → List (Addr × Obj) → Prop} {news : List (Addr × Obj)} {a b c : Value} (R : Value → Value → Prop)
    (turn : ∀ ys v I oI C oC D m₂ h tk (E' : Value → Shared → Prop), (v = a ∨ v = b ∨ v = c) → NsObj oC m₂ → m₂ x = some v → Fr h₀ L h m → News h₀ L h ((I, oI) :: (C, oC) :: (D, lst ys) :: news) → Off3 I C D news → ((@Ne Nat I C) ∧ (@Ne Nat I D) ∧ (@Ne Nat C D)) →
      wpAny (model prog w) A (eval elt (compEnvC scope cl C env)) (CompEnd h₀ L m { s with heap := h, toks := tk } I oI C oC D (lst ys) S (fun y news' => news' = news ∧ StopAt (R v y))) E' { s with heap := h, toks := tk })
    (fin : ∀ y0 y1 y2, R a y0 → R b y1 → R c y2 → Fin [y0, y1, y2] news) : CompRest prog w A h₀ L m env elt x scope cl s S (fun i v => #[a, b, c][i]? = some v) Fin (#[a, b, c] : Array Value).size 0 [] news := by
  refine restU_inv 3 (fun i ys => match i with | 0 => ys = [] | 1 => ∃ y0, R a y0 ∧ ys = [y0] | 2 => ∃ y0 y1, R a y0 ∧ R b y1 ∧ ys = [y0, y1] | _ => ∃ y0 y1 y2, R a y0 ∧ R b y1 ∧ R c y2 ∧ ys = [y0, y1, y2]) ?_ ?_ 3 0 [] rfl rfl
  · intro i ys v I oI C oC D m₂ h tk E' hi hJ hv hC hx F N off ne
    have hv3 : v = a ∨ v = b ∨ v = c := by
      rcases (by omega : i = 0 ∨ i = 1 ∨ i = 2) with rfl | rfl | rfl
      · exact .inl (by simpa using hv.symm)
      · exact .inr (.inl (by simpa using hv.symm))
      · exact .inr (.inr (by simpa using hv.symm))
    refine wpAny_mono (turn ys v I oI C oC D m₂ h tk E' hv3 hC hx F N off ne) (fun y s' q => CompEnd.mono q ?_) fun _ _ q => q
    rintro n ⟨rfl, hR⟩
    refine ⟨rfl, ?_⟩
    have hR : R v y := hR
    rcases (by omega : i = 0 ∨ i = 1 ∨ i = 2) with rfl | rfl | rfl
    · obtain rfl : a = v := by simpa using hv
      exact ⟨y, hR, by rw [show ys = [] from hJ]; rfl⟩
    · obtain rfl : b = v := by simpa using hv
      obtain ⟨y0, h0, rfl⟩ := hJ
      exact ⟨y0, y, h0, hR, rfl⟩
    · obtain rfl : c = v := by simpa using hv
      obtain ⟨y0, y1, h0, h1, rfl⟩ := hJ
      exact ⟨y0, y1, y, h0, h1, hR, rfl⟩
  · rintro ys ⟨y0, y1, y2, h0, h1, h2, rfl⟩
    exact fin y0 y1 y2 h0 h1 h2
def RT (f : List Nat → List Nat) (v y : Value) : Prop := ∃ l t t', v = .str (Mine.S l) t ∧ y = .str (Mine.S (f l)) t'
theorem RT.out {f : List Nat → List Nat} {n : List Nat} {t : Tok} {y : Value} (h : RT f (.str (Mine.S n) t) y) : ∃ t', y = .str (Mine.S (f n)) t' := by
  obtain ⟨l, u, t', e, rfl⟩ := h
  simp only [Value.str.injEq] at e
  rw [S_inj e.1]; exact ⟨t', rfl⟩
theorem rest3T {elt : Expr} {x : Str} {scope : Scope} {cl : List (Str × Addr)} {S : List (Addr × Obj) → Prop} {Fin : List Value → List (Addr × Obj) → Prop} {news : List (Addr × Obj)} {n0 n1 n2 : List Nat} {t0 t1 t2 : Tok} (f : List Nat → List Nat)
    (turn : ∀ ys l t I oI C oC D m₂ h tk (E' : Value → Shared → Prop), (l = n0 ∨ l = n1 ∨ l = n2) → NsObj oC m₂ → m₂ x = some (.str (Mine.S l) t) → Fr h₀ L h m → News h₀ L h ((I, oI) :: (C, oC) :: (D, lst ys) :: news) → Off3 I C D news → ((@Ne Nat I C) ∧ (@Ne Nat I D) ∧ (@Ne Nat C D)) →
      wpAny (model prog w) A (eval elt (compEnvC scope cl C env)) (CompEnd h₀ L m { s with heap := h, toks := tk } I oI C oC D (lst ys) S (fun y news' => news' = news ∧ StopAt (∃ t', y = .str (Mine.S (f l)) t'))) E' { s with heap := h, toks := tk })
    (fin : ∀ u0 u1 u2, Fin [.str (Mine.S (f n0)) u0, .str (Mine.S (f n1)) u1, .str (Mine.S (f n2)) u2] news) :
    CompRest prog w A h₀ L m env elt x scope cl s S (fun i v => #[Value.str (Mine.S n0) t0, .str (Mine.S n1) t1, .str (Mine.S n2) t2][i]? = some v) Fin (#[Value.str (Mine.S n0) t0, .str (Mine.S n1) t1, .str (Mine.S n2) t2] : Array Value).size 0 [] news := by
  refine rest3 (RT f) ?_ ?_
  · intro ys v I oI C oC D m₂ h tk E' hv hC hx F N off ne
    obtain ⟨l, t, rfl, hl⟩ : ∃ l t, v = .str (Mine.S l) t ∧ (l = n0 ∨ l = n1 ∨ l = n2) := by
      rcases hv with rfl | rfl | rfl
      · exact ⟨_, _, rfl, .inl rfl⟩
      · exact ⟨_, _, rfl, .inr (.inl rfl)⟩
      · exact ⟨_, _, rfl, .inr (.inr rfl)⟩
    refine wpAny_mono (turn ys l t I oI C oC D m₂ h tk E' hl hC hx F N off ne) (fun y s' q => CompEnd.mono q ?_) fun _ _ q => q
    rintro n ⟨rfl, t', rfl⟩
    exact ⟨rfl, l, t, t', rfl, rfl⟩
  · intro y0 y1 y2 h0 h1 h2
    obtain ⟨u0, rfl⟩ := h0.out
    obtain ⟨u1, rfl⟩ := h1.out
    obtain ⟨u2, rfl⟩ := h2.out
    exact fin u0 u1 u2
end
section
variable {prog : Program} {w : World} {K : Frag} {p : Program} {loose : List Str} {mean : ExcName → Option Value} {mg mb : Str → Option Value} {f : Addr} {news : List (Addr × Obj)} {pre : Prop} {vs : List Value} {R : Tok → Value}
  {dp un : Nat} {gd : Option (List Code)} {cn : Str} {cs : Scope} {a : Addr} {ccd : Value} {cl : List (Str × Addr)} {outer : List Env} {A₀ : Around} {base h₀ : Heap} {L : Addr} {m : Str → Option Value} {s : Shared} {Q E : Value → Shared → Prop}
theorem cb_use (hC : CbClaim prog w K p loose mean mg mb f news [] pre vs R) (hB : Below A₀ base outer h₀) (hF : Fr h₀ L s.heap m) (hX : K.In h₀) (hN : News h₀ L s.heap news) (hT : Top p loose mean mg mb h₀) (hcs : cs.kind = .function) (hpre : pre) (hdp : dp + 1 < recursionLimit) (hun : un + 8 < cLine)
    (hret : ∀ (t : Tok) (h' : Heap) (tk' : Nat), Fr h₀ L h' m → News h₀ L h' news → Q (R t) { s with heap := h', toks := tk' }) : wpAny (model prog w) (ktrTop dp un gd cn cs L a ccd cl outer) (call (.ref f) vs) Q E s :=
  hC dp un gd cn cs a ccd cl outer A₀ base h₀ L m s Q E hB hF hX hN hT hcs hpre hdp hun hret
theorem my_use (hC : MyClaim prog w K p loose mean mg mb f news pre vs R) (hB : Below A₀ base outer h₀) (hF : Fr h₀ L s.heap m) (hX : K.In h₀) (hN : News h₀ L s.heap news) (hT : Top p loose mean mg mb h₀) (hcs : cs.kind = .function) (hpre : pre) (hdp : dp + 20 < recursionLimit) (hun : un + 200 < cLine)
    (hret : ∀ (t : Tok) (h' : Heap) (tk' : Nat), Fr h₀ L h' m → News h₀ L h' news → Q (R t) { s with heap := h', toks := tk' }) : wpAny (model prog w) (ktrTop dp un gd cn cs L a ccd cl outer) (call (.ref f) vs) Q E s :=
  hC dp un gd cn cs a ccd cl outer A₀ base h₀ L m s Q E hB hF hX hN hT hcs hpre hdp hun hret
end
section
open PySem.SeqAt
variable {prog : Program} {w : World} {A : Around} {E : Value → Shared → Prop} {s : Shared} {Q : Value → Shared → Prop}
theorem eqAt_S (A : Around) (s : Shared) (a : List Nat) (t u : Tok) : EqAt A s (.str (S a) t) (.str (S a) u) true := by
  have h := EqAt.str_str (A := A) (s := s) (S a) t (S a) u
  rwa [beq_self_eq_true] at h
theorem eqAt_B (A : Around) (s : Shared) (a : Bool) : EqAt A s (.bool a) (.bool a) true := by
  have h := EqAt.bool_bool (A := A) (s := s) a a
  rwa [beq_self_eq_true] at h
theorem ne_texts3 {l b : Addr} {a0 a1 a2 : List Nat} {t0 t1 t2 u0 u1 u2 : Tok} (hl : s.heap.IsList l #[.str (S a0) t0, .str (S a1) t1, .str (S a2) t2]) (hb : s.heap.IsList b #[.str (S a0) u0, .str (S a1) u1, .str (S a2) u2]) (hu : A.units < cLine) (h : Q (.bool false) s) :
    wpAny (model prog w) A (compareOp .NotEq (.ref l) (.ref b)) Q E s := by
  refine RcNeAt.lists (e := fun _ => true) hl hb rfl hu (fun j h1 h2 => ?_) prog w E Q ?_
  · have h3 : j < 3 := h1
    rcases (by omega : j = 0 ∨ j = 1 ∨ j = 2) with rfl | rfl | rfl
    · exact eqAt_S _ _ _ _ _
    · exact eqAt_S _ _ _ _ _
    · exact eqAt_S _ _ _ _ _
  · exact h
theorem ne_bools2 {l b : Addr} {a0 a1 : Bool} (hl : s.heap.IsList l #[.bool a0, .bool a1]) (hb : s.heap.IsList b #[.bool a0, .bool a1]) (hu : A.units < cLine) (h : Q (.bool false) s) :
    wpAny (model prog w) A (compareOp .NotEq (.ref l) (.ref b)) Q E s := by
  refine RcNeAt.lists (e := fun _ => true) hl hb rfl hu (fun j h1 h2 => ?_) prog w E Q ?_
  · have h3 : j < 2 := h1
    rcases (by omega : j = 0 ∨ j = 1) with rfl | rfl
    · exact eqAt_B _ _ _
    · exact eqAt_B _ _ _
  · exact h
end
/-! ### the ledger around the calls that make the records -/
section
variable {h₀ h : Heap} {L I C D ln lv : Addr} {oI oC oD on ov tb tb' : Obj} {k1 k2 k3 k4 k5 k6 k7 : Addr × Obj} {new acc : List (Addr × Obj)}
theorem news_ne {news : List (Addr × Obj)} (N : News h₀ L h news) {a b : Addr} {o1 o2 : Obj} (h1 : (a, o1) ∈ news) (h2 : (b, o2) ∈ news) (hne : o1.data ≠ o2.data) : a ≠ b := fun e => by
  subst e
  have e1 := (N _ h1).1
  have e2 := (N _ h2).1
  dsimp only at e1 e2
  rw [e1] at e2
  exact hne (congrArg Obj.data (Option.some.inj e2))
theorem recA (N : News h₀ L h ((I, oI) :: (C, oC) :: (D, oD) :: (137, tb) :: k1 :: k2 :: k3 :: k4 :: k5 :: k6 :: k7 :: acc)) (hn : (ln, on) ∈ k1 :: k2 :: k3 :: k4 :: k5 :: k6 :: k7 :: acc) (hv : (lv, ov) ∈ k1 :: k2 :: k3 :: k4 :: k5 :: k6 :: k7 :: acc) :
    News h₀ L h ((137, tb) :: (ln, on) :: (lv, ov) :: (I, oI) :: (C, oC) :: (D, oD) :: k1 :: k2 :: k3 :: k4 :: k5 :: k6 :: k7 :: acc) := fun q hq => by
  generalize k1 :: k2 :: k3 :: k4 :: k5 :: k6 :: k7 :: acc = r at *
  refine N q ?_
  simp only [List.mem_cons] at hq ⊢
  rcases hq with h | h | h | h | h | h | h
  · simp [h]
  · subst h; simp [hn]
  · subst h; simp [hv]
  · simp [h]
  · simp [h]
  · simp [h]
  · simp [h]
theorem rec_in {q : Addr × Obj} (hq : q ∈ k1 :: k2 :: k3 :: k4 :: k5 :: k6 :: k7 :: (new ++ acc)) : q ∈ new ∨ q ∈ k1 :: k2 :: k3 :: k4 :: k5 :: k6 :: k7 :: acc := by
  simp only [List.mem_cons, List.mem_append] at hq ⊢
  rcases hq with h | h | h | h | h | h | h | h | h <;> simp [h]
theorem recB (N : News h₀ L h ((137, tb') :: (new ++ ((ln, on) :: (lv, ov) :: (I, oI) :: (C, oC) :: (D, oD) :: k1 :: k2 :: k3 :: k4 :: k5 :: k6 :: k7 :: acc)))) :
    News h₀ L h ((I, oI) :: (C, oC) :: (D, oD) :: (137, tb') :: k1 :: k2 :: k3 :: k4 :: k5 :: k6 :: k7 :: (new ++ acc)) := fun q hq => by
  refine N q ?_
  have hr : q = (I, oI) ∨ q = (C, oC) ∨ q = (D, oD) ∨ q = (137, tb') ∨ q ∈ new ∨ q ∈ k1 :: k2 :: k3 :: k4 :: k5 :: k6 :: k7 :: acc := by
    rcases List.mem_cons.mp hq with h | hq
    · exact .inl h
    · rcases List.mem_cons.mp hq with h | hq
      · exact .inr (.inl h)
      · rcases List.mem_cons.mp hq with h | hq
        · exact .inr (.inr (.inl h))
        · rcases List.mem_cons.mp hq with h | hq
          · exact .inr (.inr (.inr (.inl h)))
          · exact .inr (.inr (.inr (.inr (rec_in hq))))
  generalize k1 :: k2 :: k3 :: k4 :: k5 :: k6 :: k7 :: acc = r at *
  simp only [List.mem_cons, List.mem_append]
  rcases hr with h | h | h | h | h | h <;> simp [h]
theorem recOff {tb tb' : Obj} (off : LCg.Off3 I C D ((137, tb) :: k1 :: k2 :: k3 :: k4 :: k5 :: k6 :: k7 :: acc)) (hf : ∀ q ∈ new, ∀ p ∈ (ln, on) :: (lv, ov) :: (I, oI) :: (C, oC) :: (D, oD) :: k1 :: k2 :: k3 :: k4 :: k5 :: k6 :: k7 :: acc, p.1 < q.1) :
    LCg.Off3 I C D ((137, tb') :: k1 :: k2 :: k3 :: k4 :: k5 :: k6 :: k7 :: (new ++ acc)) := by
  have hm := off.mem
  refine LCg.Off3.of fun q hq => ?_
  rcases List.mem_cons.mp hq with rfl | hq
  · exact hm (137, tb) (.head _)
  · rcases rec_in hq with h | h
    · exact ⟨Nat.ne_of_gt (hf q h (I, oI) (.tail _ (.tail _ (.head _)))), Nat.ne_of_gt (hf q h (C, oC) (.tail _ (.tail _ (.tail _ (.head _))))), Nat.ne_of_gt (hf q h (D, oD) (.tail _ (.tail _ (.tail _ (.tail _ (.head _))))))⟩
    · exact hm q (.tail _ h)
theorem rec137 {tb : Obj} (off : LCg.Off3 I C D ((137, tb) :: k1 :: k2 :: k3 :: k4 :: k5 :: k6 :: k7 :: acc)) (hk : ∀ q ∈ k1 :: k2 :: k3 :: k4 :: k5 :: k6 :: k7 :: acc, q.1 ≠ 137) : ∀ q ∈ (I, oI) :: (C, oC) :: (D, oD) :: k1 :: k2 :: k3 :: k4 :: k5 :: k6 :: k7 :: acc, q.1 ≠ 137 := fun q hq => by
  have hm := off.mem (137, tb) (.head _)
  rcases List.mem_cons.mp hq with rfl | hq
  · exact hm.1.symm
  · rcases List.mem_cons.mp hq with rfl | hq
    · exact hm.2.1.symm
    · rcases List.mem_cons.mp hq with rfl | hq
      · exact hm.2.2.symm
      · exact hk q hq
theorem rec137' (hn : ∀ q ∈ new, q.1 ≠ 137) (hk : ∀ q ∈ k1 :: k2 :: k3 :: k4 :: k5 :: k6 :: k7 :: acc, q.1 ≠ 137) : ∀ q ∈ k1 :: k2 :: k3 :: k4 :: k5 :: k6 :: k7 :: (new ++ acc), q.1 ≠ 137 := fun q hq => (rec_in hq).elim (hn q) (hk q)
end
theorem recPick {h₀ h : Heap} {L : Addr} {a0 a1 a2 a3 a4 a5 a6 a7 a8 a9 a10 a11 a12 : Addr × Obj} (N : News h₀ L h [a0, a1, a2, a3, a4, a5, a6, a7, a8, a9, a10, a11, a12]) : News h₀ L h (a12 :: a0 :: a1 :: a4 :: a5 :: a6 :: a8 :: a11 :: []) := fun q hq => N q (by
  simp only [List.mem_cons, List.not_mem_nil, or_false] at hq ⊢
  rcases hq with h | h | h | h | h | h | h | h <;> simp [h])
theorem recLast {h₀ h : Heap} {L : Addr} {d t k1 k2 k3 k4 k5 k6 k7 : Addr × Obj} {acc : List (Addr × Obj)} (N : News h₀ L h (d :: t :: k1 :: k2 :: k3 :: k4 :: k5 :: k6 :: k7 :: acc)) : News h₀ L h (k6 :: k5 :: d :: k7 :: t :: acc) := fun q hq => N q (by
  simp only [List.mem_cons] at hq ⊢
  rcases hq with h | h | h | h | h | h <;> simp [h])
theorem fr_gen3 {h₀ h : Heap} {L : Addr} {m : Str → Option Value} {x1 x2 x3 : Str} {v1 v2 v3 : Value} (F : Fr h₀ L h m) (h1 : m x1 = some v1) (h2 : m x2 = some v2) (h3 : m x3 = some v3) : ∃ m9 : Str → Option Value, Fr h₀ L h (fun y => if y = x1 then some v1 else if y = x2 then some v2 else if y = x3 then some v3 else m9 y) := by
  refine ⟨m, ?_⟩
  have e : (fun y => if y = x1 then some v1 else if y = x2 then some v2 else if y = x3 then some v3 else m y) = m := by
    funext y
    by_cases e1 : y = x1
    · rw [if_pos e1, e1, h1]
    · rw [if_neg e1]
      by_cases e2 : y = x2
      · rw [if_pos e2, e2, h2]
      · rw [if_neg e2]
        by_cases e3 : y = x3
        · rw [if_pos e3, e3, h3]
        · rw [if_neg e3]
  rw [e]; exact F
theorem recK {h₀ h : Heap} {L : Addr} {ps : Array Value} {k1 k2 k3 k4 k5 k6 k7 : Addr × Obj} (N : News h₀ L h ((137, tabObj ps) :: k1 :: k2 :: k3 :: k4 :: k5 :: k6 :: k7 :: [])) (e1 : ∃ x n, k1.2.data = .seq x n) (e2 : ∃ x n, k2.2.data = .seq x n) (e3 : ∃ x n, k3.2.data = .seq x n) (e4 : ∃ x n, k4.2.data = .seq x n) (e5 : ∃ x n, k5.2.data = .seq x n) (e6 : ∃ x n, k6.2.data = .seq x n) (e7 : ∃ v, k7.2.data = .cell v) :
    ∀ q ∈ k1 :: k2 :: k3 :: k4 :: k5 :: k6 :: k7 :: [], q.1 ≠ 137 := by
  have s1 : ∀ q : Addr × Obj, q ∈ (137, tabObj ps) :: k1 :: k2 :: k3 :: k4 :: k5 :: k6 :: k7 :: [] → (∃ x n, q.2.data = .seq x n) → q.1 ≠ 137 := fun q hq ⟨x, n, e⟩ => news_ne N (a := q.1) (o1 := q.2) hq (.head _) (by rw [e]; exact fun e => nomatch e)
  have s2 : ∀ q : Addr × Obj, q ∈ (137, tabObj ps) :: k1 :: k2 :: k3 :: k4 :: k5 :: k6 :: k7 :: [] → (∃ v, q.2.data = .cell v) → q.1 ≠ 137 := fun q hq ⟨v, e⟩ => news_ne N (a := q.1) (o1 := q.2) hq (.head _) (by rw [e]; exact fun e => nomatch e)
  intro q hq
  simp only [List.mem_cons, List.not_mem_nil, or_false] at hq
  rcases hq with rfl | rfl | rfl | rfl | rfl | rfl | rfl
  · exact s1 _ (by simp) e1
  · exact s1 _ (by simp) e2
  · exact s1 _ (by simp) e3
  · exact s1 _ (by simp) e4
  · exact s1 _ (by simp) e5
  · exact s1 _ (by simp) e6
  · exact s2 _ (by simp) e7
theorem neSame {prog : Program} {w : World} {A : Around} {E : Value → Shared → Prop} {s : Shared} {Q : Value → Shared → Prop} {a : List Nat} {t u : Tok} (h : Q (.bool false) s) : wpAny (model prog w) A (compareOp .NotEq (.str (S a) t) (.str (S a) u)) Q E s := by
  refine neS a a rfl rfl ?_
  rw [decide_eq_true rfl]; exact h
theorem cut_take (la : List Nat) (i : Nat) {k : Int} (hk : k = 5 + (i : Int)) : List.take k.toNat (50 :: 53 :: 55 :: 32 :: 34 :: (dqL la ++ [34])) = 50 :: 53 :: 55 :: 32 :: 34 :: (dqL la ++ [34]).take i := by
  have e : k.toNat = i + 5 := by omega
  rw [e]; rfl
theorem cut_drop (la : List Nat) (i : Nat) {k : Int} (hk : k = 5 + (i : Int)) : List.take (k.toNat - (5 : Int).toNat) (List.drop (5 : Int).toNat (50 :: 53 :: 55 :: 32 :: 34 :: (dqL la ++ [34]))) = (dqL la ++ [34]).take i := by
  have e : k.toNat - (5 : Int).toNat = i := by omega
  rw [e]; rfl
theorem news_add2 {h₀ h : Heap} {L : Addr} {news : List (Addr × Obj)} {a b : Addr × Obj} (N : News h₀ L h news) (h1 : a ∈ news) (h2 : b ∈ news) : News h₀ L h (a :: b :: news) := fun q hq => by
  rcases List.mem_cons.mp hq with rfl | hq
  · exact N _ h1
  · rcases List.mem_cons.mp hq with rfl | hq
    · exact N _ h2
    · exact N _ hq
theorem ok128 {l : List Nat} (h : Ok l) : ∀ c ∈ l, c < 128 := fun c hc => by
  rcases h c hc with rfl | rfl | rfl | rfl | rfl | rfl <;> decide
theorem ok42 {l : List Nat} (h : Ok l) : l ≠ [42] := fun e => by
  have := h 42 (by rw [e]; exact .head _)
  omega
theorem okDq : ∀ {l : List Nat}, Ok l → Ok (dqL l)
  | [], _ => fun _ h => nomatch h
  | c :: r, h => by
    have ih := okDq (l := r) fun d hd => h d (.tail _ hd)
    have hc := h c (.head _)
    unfold dqL
    split
    · rename_i e
      intro d hd
      rcases List.mem_cons.mp hd with rfl | hd
      · exact .inl rfl
      · rcases List.mem_cons.mp hd with rfl | hd
        · exact .inl rfl
        · exact ih d hd
    · intro d hd
      rcases List.mem_cons.mp hd with rfl | hd
      · exact hc
      · exact ih d hd
theorem okEsc : ∀ {l : List Nat}, Ok l → Ok (escL l)
  | [], _ => fun _ h => nomatch h
  | c :: r, h => by
    have ih := okEsc (l := r) fun d hd => h d (.tail _ hd)
    have hc := h c (.head _)
    unfold escL
    split
    · intro d hd
      rcases List.mem_cons.mp hd with rfl | hd
      · exact .inr (.inr (.inl rfl))
      · rcases List.mem_cons.mp hd with rfl | hd
        · exact hc
        · exact ih d hd
    · intro d hd
      rcases List.mem_cons.mp hd with rfl | hd
      · exact hc
      · exact ih d hd
theorem okCut {la : List Nat} (h : Ok la) (i : Nat) : Ok ((dqL la ++ [34]).take i) := fun c hc => by
  have hm := List.mem_of_mem_take hc
  rcases List.mem_append.mp hm with h1 | h1
  · exact okDq h c h1
  · exact .inl (List.mem_singleton.mp h1)
theorem in7 {α : Type} {x a1 a2 a3 a4 a5 a6 a7 : α} {l : List α} (h : x ∈ l) : x ∈ a1 :: a2 :: a3 :: a4 :: a5 :: a6 :: a7 :: l := .tail _ (.tail _ (.tail _ (.tail _ (.tail _ (.tail _ (.tail _ h))))))
theorem in2 {α : Type} {x a1 a2 : α} {l : List α} (h : x ∈ l) : x ∈ a1 :: a2 :: l := .tail _ (.tail _ h)
theorem in8 {α : Type} {x a1 a2 a3 a4 a5 a6 a7 a8 : α} {l : List α} (h : x ∈ l) : x ∈ a1 :: a2 :: a3 :: a4 :: a5 :: a6 :: a7 :: a8 :: l := .tail _ (in7 h)
theorem in13 {α : Type} {x a1 a2 a3 a4 a5 a6 a7 b1 b2 b3 b4 b5 b6 : α} {l : List α} (h : x ∈ l) : x ∈ b1 :: b2 :: b3 :: b4 :: b5 :: b6 :: a1 :: a2 :: a3 :: a4 :: a5 :: a6 :: a7 :: l := in2 (in2 (in2 (in7 h)))
theorem app5 {α : Type} {x a1 a2 a3 a4 a5 : α} {l r : List α} (h : x ∈ a1 :: a2 :: a3 :: a4 :: a5 :: l) : x ∈ a1 :: a2 :: a3 :: a4 :: a5 :: (l ++ r) := List.mem_append_left (as := a1 :: a2 :: a3 :: a4 :: a5 :: l) r h
theorem app13 {α : Type} {x a1 a2 a3 a4 a5 a6 a7 b1 b2 b3 b4 b5 b6 : α} {l r : List α} (h : x ∈ b1 :: b2 :: b3 :: b4 :: b5 :: b6 :: a1 :: a2 :: a3 :: a4 :: a5 :: a6 :: a7 :: l) : x ∈ b1 :: b2 :: b3 :: b4 :: b5 :: b6 :: a1 :: a2 :: a3 :: a4 :: a5 :: a6 :: a7 :: (l ++ r) := List.mem_append_left (as := b1 :: b2 :: b3 :: b4 :: b5 :: b6 :: a1 :: a2 :: a3 :: a4 :: a5 :: a6 :: a7 :: l) r h
local macro_rules | `(tactic| size_fits) => `(tactic| ((try simp only [S_len, List.length_append, List.length_cons, List.length_nil, List.length_take, List.length_drop, sizeLine_eq]); first | omega | decide))
local macro_rules | `(tactic| walk_at "binaryOp Add str str") => `(tactic| (k_here; (first | with_reducible refine addS _ _ rfl rfl ?a1 ?_ | refine addS [46, 42] _ (by decide +kernel) (by with_reducible rfl) ?a1 ?_ | refine addS [50, 53, 55, 32, 34] _ (by decide +kernel) (by with_reducible rfl) ?a1 ?_ | refine addS _ [34, 32, 34] (by with_reducible rfl) (by decide +kernel) ?a1 ?_ | refine addS _ [34] (by with_reducible rfl) (by decide +kernel) ?a1 ?_ | refine addS _ [97] (by with_reducible rfl) (by decide +kernel) ?a1 ?_); (case a1 => size_fits); intro t9' k9'))
local macro_rules | `(tactic| walk_at "call builtin:str.replace") => `(tactic| (k_here; (first | refine replaceS 34 [34, 34] (by decide +kernel) (by decide +kernel) (by decide +kernel) ?a1 ?a2 ?a3 ?a4 ?a5 ?_ | refine replaceS 92 [92, 92] (by decide +kernel) (by decide +kernel) (by decide +kernel) ?a1 ?a2 ?a3 ?a4 ?a5 ?_ | refine replaceS 46 [92, 46] (by decide +kernel) (by decide +kernel) (by decide +kernel) ?a1 ?a2 ?a3 ?a4 ?a5 ?_ | refine replaceS1 65 97 (by decide +kernel) (by decide +kernel) (by decide +kernel) ?a1 ?a2 ?a3 ?a4 ?a5 ?_); (case a1 => size_fits); (case a2 => (dsimp only; omega)); (case a3 => (dsimp only; omega)); (case a4 => (dsimp only; omega)); (case a5 => (dsimp only; omega)); intro t9' k9' hk9'))
local macro_rules | `(tactic| walk_at "subscriptTail Name Slice str ref") => `(tactic| (k_here; (with_reducible rename Fr _ _ _ _ => F'); (with_reducible rename News _ _ _ _ => N'); (first
  | ((with_reducible show wpAny _ _ (subscriptTail _ (Expr.Slice none (some _) none _) _ _) _ _ _); (refine sl_ns (s := ⟨_, _, _, _, _⟩) F' N' ?a1 ?a2 ?_); (case a1 => size_fits); (case a2 => size_fits))
  | ((with_reducible show wpAny _ _ (subscriptTail _ (Expr.Slice (some _) none none _) _ _) _ _ _); (refine sl_sn (s := ⟨_, _, _, _, _⟩) F' N' ?a1 ?a2 ?a3 ?_); (case a1 => size_fits); (case a2 => size_fits); (case a3 => size_fits))
  | ((with_reducible show wpAny _ _ (subscriptTail _ (Expr.Slice (some _) (some _) none _) _ _) _ _ _); (refine sl_ss (s := ⟨_, _, _, _, _⟩) F' N' ?a1 ?a2 ?a3 ?_); (case a1 => size_fits); (case a2 => size_fits); (case a3 => size_fits))); intro h' t9' k9' F' N'))
local macro_rules | `(tactic| walk_at "subscriptTail Name Name str int") => `(tactic| (k_here; (with_reducible show wpAny _ _ (subscriptTail _ _ (Value.str (S _) _) (Value.int _ _)) _ _ _); (refine itemS ?a1 ?a2 ?a3 ?_); (case a1 => size_fits); (case a2 => size_fits); (case a3 => size_fits)))
local macro_rules | `(tactic| walk_at "call builtin:len") => `(tactic| (k_here; (with_reducible show wpAny _ _ (call (Value.builtin "len") [Value.str (S _) _]) _ _ _); (refine lenS ?a1 ?_); (case a1 => size_fits)))
local macro_rules | `(tactic| walk_at "compareOp Eq str str") => `(tactic| (k_here; first | with_reducible refine eqS _ _ rfl rfl ?_ | refine eqS _ [34] (by with_reducible rfl) (by decide +kernel) ?_ | refine eqS _ [47] (by with_reducible rfl) (by decide +kernel) ?_ | refine eqS _ [65] (by with_reducible rfl) (by decide +kernel) ?_))
local macro_rules | `(tactic| walk_at "compareOp NotEq str str") => `(tactic| (k_here; first | refine neS [50, 53, 55] [50, 53, 55] (congrArg S (by with_unfolding_all rfl)) (by decide +kernel) ?_ | refine neS [32, 34] [32, 34] (congrArg S (by with_unfolding_all rfl)) (by decide +kernel) ?_ | with_reducible refine neS _ _ rfl rfl ?_ | refine neS _ [34] (by with_reducible rfl) (by decide +kernel) ?_ | refine neS _ [50, 53, 55] (by with_reducible rfl) (by decide +kernel) ?_ | refine neS _ [32, 34] (by with_reducible rfl) (by decide +kernel) ?_ | refine neS _ [42] (by with_reducible rfl) (by decide +kernel) ?_))
local macro_rules | `(tactic| walk_at "compareOp In str str") => `(tactic| (k_here; (with_reducible show wpAny _ _ (compareOp CmpOp.In (Value.str (S _) _) (Value.str (S _) _)) _ _ _); refine inS ?_; intro b9' hb9'))
local macro_rules | `(tactic| walk_at "call builtin:str.startswith") => `(tactic| (k_here; (with_reducible show wpAny _ _ (call (Value.builtin "str.startswith") [Value.str (S _) _, Value.str (S _) _]) _ _ _); refine startsS ?_; intro b9' hb9'))
local macro_rules | `(tactic| ksw_same) => `(tactic| (intro z h2 h3; (simp only [List.forall_mem_cons, List.not_mem_nil, false_implies, implies_true, and_true, ne_eq] at h2); (simp only [List.contains_cons, List.contains_nil, Bool.or_false, Bool.or_eq_false_iff, beq_eq_false_iff_ne, ne_eq] at h3); (simp [kstB, h2, h3]; done)))
local macro_rules | `(tactic| kst_same) => `(tactic| (intro z h1 h2 h3; (simp only [List.forall_mem_cons, List.not_mem_nil, false_implies, implies_true, and_true, ne_eq] at h2); (simp only [List.contains_cons, List.contains_nil, Bool.or_false, Bool.or_eq_false_iff, beq_eq_false_iff_ne, ne_eq] at h3); (simp [kstB, h1, h2, h3]; done)))
local macro_rules | `(tactic| walk_at "eval Constant str") => `(tactic| with_reducible refine constStr ?_)
local macro_rules | `(tactic| walk_at "eval Constant int") => `(tactic| with_reducible refine constInt ?_)
local macro_rules | `(tactic| walk_at "call builtin:str.split") => `(tactic| (k_here; (with_reducible rename Fr _ _ _ _ => F'); (with_reducible rename News _ _ _ _ => N'); (first | refine splitS 42 (by decide +kernel) F' N' ?a1 ?_ | refine splitS 47 (by decide +kernel) F' N' ?a1 ?_); (case a1 => size_fits); intro a9' t9' v9' h' k9' F' N' l1 hv9'; (try k_lt l1)))
local macro_rules | `(tactic| walk_at "last subscriptTail Name Name ref int") => `(tactic| (k_here; (with_reducible show wpAny _ _ (subscriptTail _ _ (Value.ref _) (Value.int _ _)) _ _ _); k_dflt (refine' itemL ?a1 ?a2 ?a3 ?a4 ?a5 ?_ ?a6; (case a1 => k_asm); (case a2 => k_mem); (case a3 => decide); (case a4 => decide); (case a5 => rfl); (case a6 => with_unfolding_all rfl); k_whole)))
local macro_rules | `(tactic| walk_at "call builtin:str.lower") => `(tactic| (k_here; (with_reducible show wpAny _ _ (call (Value.builtin "str.lower") [Value.str (S _) _]) _ _ _); refine lowerS ?a1 ?a2 ?_; (case a1 => size_fits); (case a2 => assumption)))
section
variable {w : World} {p : Program} {loose : List Str} {mean : ExcName → Option Value} {mg mb : Str → Option Value}
local macro_rules | `(tactic| walk_at "exec While Compare cons nil") => `(tactic| refine stopAt ?_)
local macro_rules | `(tactic| walk_at "KswEnd") => `(tactic| refine stopAt ?_)
theorem parseL_drop {r : List Nat} {j : Nat} (h : j < r.length) : parseL (r.drop j) = (if r.getD j 0 = 34 then (if r.length ≤ j + 1 then [] else if r.getD (j + 1) 0 = 34 then 34 :: parseL (r.drop (j + 2)) else []) else r.getD j 0 :: parseL (r.drop (j + 1))) := by
  have e : r.getD j 0 = r[j] := by simp [List.getD, h]
  rw [List.drop_eq_getElem_cons h, e]
  by_cases h2 : r.length ≤ j + 1
  · rw [if_pos h2, List.drop_of_length_le h2]
    simp only [parseL]
  · have e2 : r.getD (j + 1) 0 = r[j + 1] := by simp [List.getD, Nat.lt_of_not_le h2]
    rw [if_neg h2, e2, List.drop_eq_getElem_cons (i := j + 1) (by omega)]
    simp only [parseL]
theorem getD5 (r : List Nat) {i : Int} (h : 5 ≤ i) : (50 :: 53 :: 55 :: 32 :: 34 :: r).getD i.toNat 0 = r.getD (i - 5).toNat 0 := by
  obtain ⟨j, rfl⟩ : ∃ j : Nat, i = (j : Int) + 5 := ⟨(i - 5).toNat, by omega⟩
  have e1 : ((j : Int) + 5).toNat = j + 5 := by omega
  have e2 : ((j : Int) + 5 - 5).toNat = j := by omega
  rw [e1, e2]
  rfl
section
variable {r d : List Nat} {i : Int} (h1 : 5 ≤ i) (h3 : parseL r = d ++ parseL (r.drop (i - 5).toNat))
include h1 h3
theorem parse_a (h2 : i < ((50 :: 53 :: 55 :: 32 :: 34 :: r).length : Nat)) (ha : [(50 :: 53 :: 55 :: 32 :: 34 :: r).getD i.toNat 0] = [34]) (hb : (((50 :: 53 :: 55 :: 32 :: 34 :: r).length : Nat) : Int) ≤ i + 1) : d = parseL r := by
  simp only [List.length_cons] at h2 hb
  rw [getD5 r h1] at ha
  rw [h3, parseL_drop (by omega), if_pos (by simpa using ha), if_pos (by omega), List.append_nil]
theorem parse_b (h2 : i < ((50 :: 53 :: 55 :: 32 :: 34 :: r).length : Nat)) (ha : [(50 :: 53 :: 55 :: 32 :: 34 :: r).getD i.toNat 0] = [34]) (hb : ¬ (((50 :: 53 :: 55 :: 32 :: 34 :: r).length : Nat) : Int) ≤ i + 1)
    (hc : [(50 :: 53 :: 55 :: 32 :: 34 :: r).getD (i + 1).toNat 0] = [34]) : parseL r = (d ++ [(50 :: 53 :: 55 :: 32 :: 34 :: r).getD i.toNat 0]) ++ parseL (r.drop (i + 1 + 1 - 5).toNat) := by
  simp only [List.length_cons] at h2 hb
  rw [ha]
  rw [getD5 r h1] at ha
  rw [getD5 r (by omega)] at hc
  have e : (i + 1 - 5).toNat = (i - 5).toNat + 1 := by omega
  have e' : (i + 1 + 1 - 5).toNat = (i - 5).toNat + 2 := by omega
  rw [e] at hc
  rw [h3, parseL_drop (by omega), if_pos (by simpa using ha), if_neg (by omega), if_pos (by simpa using hc), e', List.append_assoc]
  rfl
theorem parse_c (h2 : i < ((50 :: 53 :: 55 :: 32 :: 34 :: r).length : Nat)) (ha : [(50 :: 53 :: 55 :: 32 :: 34 :: r).getD i.toNat 0] = [34]) (hb : ¬ (((50 :: 53 :: 55 :: 32 :: 34 :: r).length : Nat) : Int) ≤ i + 1)
    (hc : ¬ [(50 :: 53 :: 55 :: 32 :: 34 :: r).getD (i + 1).toNat 0] = [34]) : d = parseL r := by
  simp only [List.length_cons] at h2 hb
  rw [getD5 r h1] at ha
  rw [getD5 r (by omega)] at hc
  have e : (i + 1 - 5).toNat = (i - 5).toNat + 1 := by omega
  rw [e] at hc
  rw [h3, parseL_drop (by omega), if_pos (by simpa using ha), if_neg (by omega), if_neg (by simpa using hc), List.append_nil]
theorem parse_d (h2 : i < ((50 :: 53 :: 55 :: 32 :: 34 :: r).length : Nat)) (ha : ¬ [(50 :: 53 :: 55 :: 32 :: 34 :: r).getD i.toNat 0] = [34]) : parseL r = (d ++ [(50 :: 53 :: 55 :: 32 :: 34 :: r).getD i.toNat 0]) ++ parseL (r.drop (i + 1 - 5).toNat) := by
  simp only [List.length_cons] at h2
  rw [getD5 r h1] at ha ⊢
  have e : (i + 1 - 5).toNat = (i - 5).toNat + 1 := by omega
  rw [h3, parseL_drop (by omega), if_neg (by simpa using ha), e, List.append_assoc]
  rfl
theorem parse_e (h2 : ¬ i < ((50 :: 53 :: 55 :: 32 :: 34 :: r).length : Nat)) : d = parseL r := by
  simp only [List.length_cons] at h2
  rw [h3, List.drop_of_length_le (by omega)]
  simp [parseL]
end
set_option maxRecDepth 100000 in
set_option maxHeartbeats 8000000 in
theorem parse_ok (news : List (Addr × Obj)) (r : List Nat) (t : Tok) :
  CbClaim PySem.Challenge.rw_ny0077_01.row.prog w (hd.heap_39 w.params) p loose mean mg mb 107 news [] (r.length ≤ 1000) [.str (S (50 :: 53 :: 55 :: 32 :: 34 :: r)) t] (fun t => .str (S (parseL r)) t) := by
  w_on
  k_fill
  dsimp only [CbClaim, CbLists, CbRet]
  intros; rename_i hlen _ _ hret
  refine wpAny_call ?_
  w_strict (k_dflt cell_enter)
  k_steps
  refine StopAt.out ?_
  rename Fr _ _ _ _ => F0
  rename News _ _ _ _ => N0
  refine ksw_while (σ := Int × Tok × List Nat × Tok) (fun _ => news) (fun c => [(Str.ofString "i", .int c.1 c.2.1), (Str.ofString "dirname", .str (S c.2.2.1) c.2.2.2)]) (fun _ => True) [Str.ofString "c"]
    (fun c => 5 ≤ c.1 ∧ c.1 ≤ r.length + 5 ∧ (c.2.2.1.length : Int) + 5 ≤ c.1 ∧ parseL r = c.2.2.1 ++ parseL (r.drop (c.1 - 5).toNat)) (fun c => (r.length + 5 - c.1).toNat) (5, ?t1, [], ?t2) F0 N0 trivial ?hk ?hp ?turn
  case hk =>
    intro q hq
    simp only [List.mem_cons, List.not_mem_nil, or_false] at hq
    rcases hq with rfl | rfl
    · rfl
    · rw [show S [] = Str.ofString "" from by decide +kernel]; rfl
  case hp => exact ⟨by omega, by omega, by simp, by simp⟩
  case turn =>
    rintro ⟨i, ti, d, td⟩ u h tk - ⟨hi1, hi2, hi4, hi3⟩ F1 N1
    dsimp only at *
    clear F0 N0
    k_steps
    · exact cb_retS hret (congrArg S (parse_a hi1 hi3 (by assumption) (by assumption) (by assumption))) (by k_asm) (by k_asm)
    · refine StopAt.out ?_
      rename News _ _ _ _ => nE'
      refine ksw_end (_, _, _, _) (by assumption) nE' (fun _ h => h) trivial (by kst_all) (by ksw_same) ⟨?_, ?_, ?_, parse_b hi1 hi3 (by assumption) (by assumption) (by assumption) (by assumption)⟩ ?_
      all_goals ((try simp only [List.length_cons, List.length_append, List.length_nil] at *); omega)
    · exact cb_retS hret (congrArg S (parse_c hi1 hi3 (by assumption) (by assumption) (by assumption) (by assumption))) (by k_asm) (by k_asm)
    · refine StopAt.out ?_
      rename News _ _ _ _ => nE'
      refine ksw_end (_, _, _, _) (by assumption) nE' (fun _ h => h) trivial (by kst_all) (by ksw_same) ⟨?_, ?_, ?_, parse_d hi1 hi3 (by assumption) (by assumption)⟩ ?_
      all_goals ((try simp only [List.length_cons, List.length_append, List.length_nil] at *); omega)
    · exact cb_retS hret (congrArg S (parse_e hi1 hi3 (by assumption))) (by k_asm) (by k_asm)
end

section
variable {w : World} {p : Program} {loose : List Str} {mean : ExcName → Option Value} {mg mb : Str → Option Value}
local macro_rules | `(tactic| walk_at "exec For Name Name cons nil") => `(tactic| (k_here; (rename Fr _ _ _ _ => lF'); (with_unfolding_all refine' For_invVF lF' ?k1 ?k2 ?_; (case k1 => exact rfl); (case k2 => exact rfl); k_whole)))
local macro_rules | `(tactic| walk_at "pyIter str") => `(tactic| refine stopAt ?_)
local macro_rules | `(tactic| walk_at "InvEndN") => `(tactic| refine stopAt ?_)
set_option maxRecDepth 100000 in
set_option maxHeartbeats 8000000 in
theorem come_ok (news : List (Addr × Obj)) (l : List Nat) (t : Tok) (n : Int) (u : Tok) :
  CbClaim PySem.Challenge.rw_ny0077_01.row.prog w (hd.heap_39 w.params) p loose mean mg mb 156 news [] (l.length ≤ 1000) [.str (S l) t, .int n u] (fun t => .str (S (comeL l n)) t) := by
  w_on
  k_fill
  dsimp only [CbClaim, CbLists, CbRet]
  intros; rename_i hlen _ _ hret
  refine wpAny_call ?_
  w_strict (k_dflt cell_enter)
  k_steps
  refine StopAt.out ?_
  rename Fr _ _ _ _ => F0
  rename News _ _ _ _ => N0
  refine loopText (σ := List Nat × Tok × Int × Tok) news (fun c => [(Str.ofString "whole", .str (S c.1) c.2.1), (Str.ofString "size", .int c.2.2.1 c.2.2.2)]) []
    (fun pre c => c.1.length ≤ pre.length ∧ ∀ post, comeL (pre ++ post) n = c.1 ++ comeL post c.2.2.1) ([], ?t1, n, ?t2) rfl F0 N0 ?hk ?hp ?turn ?done
  case hk =>
    intro q hq
    simp only [List.mem_cons, List.not_mem_nil, or_false] at hq
    rcases hq with rfl | rfl
    · rw [show S [] = Str.ofString "" from by decide +kernel]; rfl
    · rfl
  case hp => exact ⟨Nat.le_refl _, fun _ => rfl⟩
  case turn =>
    rintro ⟨d, td, z, tz⟩ pre post c tc u9 h9 tk9 own he hoff ⟨hi1, hi2⟩ F1 N1
    have hi3 := hi2 (c :: post)
    have hle : pre.length ≤ l.length := by rw [he]; simp
    rw [← he, comeL] at hi3
    dsimp only at *
    clear F0 N0
    k_steps
    · refine cb_retS hret (congrArg S ?_) (by k_asm) (cb_drop (by assumption) fun p h => List.mem_append_left _ h)
      rw [hi3, if_pos (by simp_all), List.append_nil]
    · refine StopAt.out ?_
      rename News _ _ _ _ => nE'
      refine loopText_end (_, _, _, _) (by assumption) nE' (fun p h => List.mem_append_left _ h) (fun p h => List.mem_append_right _ h) (by kst_all) (by kst_same) ⟨by simp only [List.length_append, List.length_cons, List.length_nil]; omega, ?_⟩
      intro post'
      have e := hi2 (c :: post')
      have hc : c = 34 := by simp_all
      rw [comeL, if_neg (by simp_all), hc] at e
      rw [List.append_assoc, List.singleton_append, hc, e, List.append_assoc]
      rfl
    · refine cb_retS hret (congrArg S ?_) (by k_asm) (cb_drop (by assumption) fun p h => List.mem_append_left _ h)
      rw [hi3, if_pos (by simp_all), List.append_nil]
    · refine StopAt.out ?_
      rename News _ _ _ _ => nE'
      refine loopText_end (_, _, _, _) (by assumption) nE' (fun p h => List.mem_append_left _ h) (fun p h => List.mem_append_right _ h) (by kst_all) (by kst_same) ⟨by simp only [List.length_append, List.length_cons, List.length_nil]; omega, ?_⟩
      intro post'
      have e := hi2 (c :: post')
      have hc : ¬ c = 34 := by simp_all
      rw [comeL, if_neg (by simp_all), if_neg hc] at e
      rw [List.append_assoc, List.singleton_append, e, List.append_assoc]
      rfl
  case done =>
    rintro ⟨d, td, z, tz⟩ u9 h9 tk9 ⟨hi1, hi2⟩ F1 N1
    have hi3 := hi2 []
    simp only [List.append_nil, comeL] at hi3
    dsimp only at *
    clear F0 N0
    k_steps
    exact cb_retS hret (congrArg S hi3.symm) (by k_asm) (by k_asm)
end

section
variable {w : World} {p : Program} {loose : List Str} {mean : ExcName → Option Value} {mg mb : Str → Option Value}
local macro_rules | `(tactic| walk_at "exec For Name Call cons nil") => `(tactic| (k_here; (rename Fr _ _ _ _ => lF'); (with_unfolding_all refine' For_invVF lF' ?k1 ?k2 ?_; (case k1 => exact rfl); (case k2 => exact rfl); k_whole)))
local macro_rules | `(tactic| walk_at "pyIter ref") => `(tactic| refine stopAt ?_)
local macro_rules | `(tactic| walk_at "InvEndN") => `(tactic| refine stopAt ?_)
theorem fmod8 (z : Int) : 0 ≤ z.fmod 8 ∧ z.fmod 8 < 8 := by
  rw [PyProof.Rows.fmod_eq _ (by decide)]; omega
theorem pick8 {prog : Program} {w : World} {A : Around} {E : Value → Shared → Prop} {s : Shared} {value slice : Expr} {l : Addr} {vs : List Value} {k : Int} {u : Tok} {Q : Value → Shared → Prop} (hl : s.heap.IsList l vs.toArray) (h0 : 0 ≤ k) (h1 : k < vs.length) (h63 : vs.length < 1000)
    (hall : ∀ v ∈ vs, ∃ c t, v = Value.str (S c) t ∧ Ok c ∧ c.length ≤ 1) (h : ∀ c t, Ok c → c.length ≤ 1 → Q (.str (S c) t) s)
    (hs : subscripted slice false (.ref l) (.int k u) = operate [.ref l, .int k u] (getItem (.ref l) (.int k u)) := by with_unfolding_all rfl) :
    wpAny (model prog w) A (subscriptTail value slice (.ref l) (.int k u)) Q E s := by
  have hk : k.toNat < vs.length := by omega
  obtain ⟨c, t, e, hc, hc1⟩ := hall vs[k.toNat] (List.getElem_mem hk)
  refine tail_any hl.typeIs slot_list_getitem.lookup (wpAny_getItem_list hl h0 (by omega) (show vs.toArray[k.toNat]? = some (.str (S c) t) by simp [hk, e]) (h c t hc hc1)) hs
set_option maxRecDepth 100000 in
set_option maxHeartbeats 8000000 in
theorem name_ok (news : List (Addr × Obj)) (num : Int) (t : Tok) (n : Nat) (u : Tok) (hn : n ≤ 100)
   (dp un : Nat) (gd : Option (List Code)) (cn : Str) (cs : Scope) (a : Addr) (ccd : Value) (cl : List (Str × Addr)) (outer : List Env) (A₀ : Around) (base h₀ : Heap) (L : Addr) (m : Str → Option Value) (s : Shared) (Q E : Value → Shared → Prop)
  (hB : Below A₀ base outer h₀) (hF : Fr h₀ L s.heap m) (hX : (hd.heap_39 w.params).In h₀) (hN : News h₀ L s.heap news) (hT : Top p loose mean mg mb h₀) (hcs : cs.kind = .function)
  (hdp : dp + 1 < recursionLimit) (hun : un + 8 < cLine)
  (hret : ∀ l, Ok l → l.length ≤ n → CbRet h₀ L m news s Q (fun t => .str (S l) t)) :
  wpAny (model PySem.Challenge.rw_ny0077_01.row.prog w) (ktrTop dp un gd cn cs L a ccd cl outer) (call (.ref 121) [.int num t, .int n u]) Q E s := by
  w_on
  revert hX; k_fill; intro hX
  dsimp only [CbRet] at hret
  refine wpAny_call ?_
  w_strict (k_dflt cell_enter)
  k_steps
  refine StopAt.out ?_
  rename Fr _ _ _ _ => F0
  rename News _ _ _ _ => N0
  refine loopRange (σ := List Nat × Tok × Int × Tok) news (fun c => [(Str.ofString "name", .str (S c.1) c.2.1), (Str.ofString "number", .int c.2.2.1 c.2.2.2)]) []
    (fun i c => Ok c.1 ∧ c.1.length ≤ i) ([], ?t1, num, ?t2) rfl (by assumption) (by omega) (by omega) (by omega) (by omega) F0 N0 ?hk ?hp ?turn ?done
  case hk =>
    intro q hq
    simp only [List.mem_cons, List.not_mem_nil, or_false] at hq
    rcases hq with rfl | rfl
    · rw [show S [] = Str.ofString "" from by decide +kernel]; rfl
    · rfl
  case hp => exact ⟨fun c h => (nomatch h), Nat.le_refl _⟩
  case turn =>
    rintro ⟨d, td, z, tz⟩ i k tc u9 h9 tk9 own he hlt hoff ⟨hi1, hi2⟩ F1 N1 q hq
    dsimp only at *
    clear F0 N0
    k_steps
    rename News _ _ _ _ => N2
    have hL := News.isList N2 (.head _)
    obtain ⟨hz1, hz2⟩ := fmod8 z
    rw [show Str.ofString "\"" = S [34] from by decide +kernel, show Str.ofString "a" = S [97] from by decide +kernel, show Str.ofString "\\" = S [92] from by decide +kernel, show Str.ofString "." = S [46] from by decide +kernel,
      show Str.ofString "A" = S [65] from by decide +kernel, show Str.ofString "/" = S [47] from by decide +kernel, show Str.ofString "" = S [] from by decide +kernel] at hL
    refine pick8 hL hz1 hz2 (by simp only [List.length_cons, List.length_nil]; omega) ?_ ?_
    · simp only [List.forall_mem_cons, List.not_mem_nil, false_implies, implies_true, and_true]
      exact ⟨⟨_, _, rfl, by simp [Ok], by decide⟩, ⟨_, _, rfl, by simp [Ok], by decide⟩, ⟨_, _, rfl, by simp [Ok], by decide⟩, ⟨_, _, rfl, by simp [Ok], by decide⟩, ⟨_, _, rfl, by simp [Ok], by decide⟩, ⟨_, _, rfl, by simp [Ok], by decide⟩, ⟨_, _, rfl, by simp [Ok], by decide⟩, ⟨_, _, rfl, by simp [Ok], by decide⟩⟩
    intro c t8 hc1 hc2
    clear hL
    k_steps
    refine StopAt.out ?_
    rename News _ _ _ _ => nE'
    refine loopRange_end (_, _, _, _) (by assumption) nE' (fun p h => List.mem_cons_of_mem _ (List.mem_append_left _ h)) (fun p h => List.mem_cons_of_mem _ (List.mem_append_right _ h)) (by kst_all) (by kst_same) hq ⟨?_, ?_⟩
    · intro x hx
      rcases List.mem_append.mp hx with hx | hx
      · exact hi1 x hx
      · exact hc1 x hx
    · simp only [List.length_append]; omega
  case done =>
    rintro ⟨d, td, z, tz⟩ u9 h9 tk9 ⟨hi1, hi2⟩ F1 N1
    dsimp only at *
    clear F0 N0
    k_steps
    exact hret d hi1 (by omega) _ _ _ (by k_asm) (by k_asm)
end

section
open PySem.Builtin
theorem gm_translate {M : Model} {A : Around} {E : Value → Shared → Prop} {s : Shared} {x : Str} {t : Tok} {pl : Sem Bool} {Q : Value × List Value → Shared → Prop} (h : Q (.builtin "str.translate", [.str x t]) s) : wpAny M A (getMethod (.str x t) "translate" pl) Q E s := by
  with_reducible exact GM.of (.str x t) (typeIs_str _ _ _) PySem.F.slot_str_translate PySem.F.type_str_translate GM.noRef h
def KeysInt : List DictEntry → Prop
  | [] => True
  | e :: r => (∃ k t, e.key = .int k t ∧ e.hash = hashInt k) ∧ KeysInt r
theorem KeysInt.all : ∀ {l : List DictEntry}, KeysInt l → ∀ e ∈ l, ∃ k t, e.key = .int k t ∧ e.hash = hashInt k
  | _ :: _, ⟨h, _⟩, _, .head _ => h
  | _ :: _, ⟨_, r⟩, _, .tail _ m => r.all _ m
theorem mapOf_KI {prog : Program} {w : World} {K : Frag} {h : Heap} {a : Addr} {es : Array DictEntry} {n : Nat} (X : K.In h) (hl : K.lookup a = some ⟨.type "dict", none, .dict es n, #[]⟩) (hk : KeysInt es.toList) : h.MapOf (intKind prog w) a (fun k => findBy Value.isInt es k) :=
  ⟨_, es, n, X _ _ hl, ⟨rfl, rfl, rfl⟩, rfl, fun e he => by
    obtain ⟨x, t, e1, e2⟩ := hk.all e (Array.mem_toList_iff.mpr he)
    exact ⟨x, by rw [e1]; exact intKind_is prog w x t, e2⟩, fun _ => rfl⟩
def esc1 (c : Nat) : Option (List Nat) := if c = 92 ∨ c = 46 then some [92, c] else none
theorem esc1_flat : ∀ l : List Nat, (l.flatMap fun c => (esc1 c).getD [c]) = escL l
  | [] => rfl
  | c :: r => by
    have ih := esc1_flat r
    rw [List.flatMap_cons, ih]
    by_cases h : c = 92 ∨ c = 46 <;> simp [escL, esc1, h]
end
set_option maxRecDepth 100000 in
set_option maxHeartbeats 8000000 in
theorem map58 {w : World} {h : Heap} (X : (hd.heap_39 w.params).In h) : ∃ f : Int → Option Value, h.MapOf (intKind PySem.Challenge.rw_ny0077_01.row.prog w) 58 f ∧ (∃ t, f 92 = some (.str (S [92, 92]) t)) ∧ (∃ t, f 46 = some (.str (S [92, 46]) t)) ∧ f 34 = none ∧ f 97 = none ∧ f 65 = none ∧ f 47 = none := by
  revert X; k_fill; intro X
  refine' ⟨_, mapOf_KI X ?hl ?hk, ?_⟩
  case hl => k_dflt k_is
  case hk => repeat' (first | exact True.intro | refine And.intro ⟨_, _, rfl, by decide +kernel⟩ ?_)
  rw [show S [92, 92] = Str.ofString "\\\\" from by decide +kernel, show S [92, 46] = Str.ofString "\\." from by decide +kernel]
  refine ⟨⟨_, by rfl⟩, ⟨_, by rfl⟩, by rfl, by rfl, by rfl, by rfl⟩
section
variable {w : World} {p : Program} {loose : List Str} {mean : ExcName → Option Value} {mg mb : Str → Option Value}
local macro_rules | `(tactic| walk_at "getMethod str") => `(tactic| with_reducible refine gm_translate ?_)
local macro_rules | `(tactic| walk_at "call builtin:str.translate") => `(tactic| refine stopAt ?_)
set_option maxRecDepth 100000 in
set_option maxHeartbeats 8000000 in
theorem escape_ok (news : List (Addr × Obj)) (l : List Nat) (t : Tok) :
  CbClaim PySem.Challenge.rw_ny0077_01.row.prog w (hd.heap_39 w.params) p loose mean mg mb 68 news [] (l.length ≤ 1000 ∧ Ok l) [.str (S l) t] (fun t => .str (S (escL l)) t) := by
  w_on
  k_fill
  dsimp only [CbClaim, CbLists, CbRet]
  intros; rename_i hlen _ _ hret
  refine wpAny_call ?_
  w_strict (k_dflt cell_enter)
  k_steps
  refine StopAt.out ?_
  rename Fr _ _ _ _ => F0
  rename News _ _ _ _ => N0
  rename Frag.In _ _ => X0
  obtain ⟨f, hm, ⟨t1, h92⟩, ⟨t2, h46⟩, h34, h97, h65, h47⟩ := map58 (X0.keeps F0.keep)
  refine translate_ok (f := f) hlen.1 (fun c hc => by rcases hlen.2 c hc with h | h | h | h | h | h <;> omega) (by rfl) (by decide +kernel) F0 N0 hm (fun h' hk => ?_) esc1 ?_ ?_
  · obtain ⟨o, es, ep, ho, r⟩ := hm
    exact ⟨o, es, ep, hk _ _ ho, r⟩
  · intro c hc
    rcases hlen.2 c hc with h | h | h | h | h | h <;> subst h
    · exact h34
    · exact h97
    · exact ⟨rfl, t1, h92⟩
    · exact ⟨rfl, t2, h46⟩
    · exact h65
    · exact h47
  intro h9 t9 k9 F9 N9
  rw [esc1_flat]
  k_steps
  cb_end hret
end

section
variable {w : World} {p : Program} {loose : List Str} {mean : ExcName → Option Value} {mg mb : Str → Option Value}
local macro_rules | `(tactic| walk_at "call type:map") => `(tactic| refine stopAt ?_)
theorem ok_no {l : List Nat} (h : Ok l) (c : Nat) (hc : c ≠ 34 ∧ c ≠ 97 ∧ c ≠ 92 ∧ c ≠ 46 ∧ c ≠ 65 ∧ c ≠ 47) : c ∉ l := fun hm => by
  obtain ⟨h1, h2, h3, h4, h5, h6⟩ := hc
  rcases h c hm with e | e | e | e | e | e <;> contradiction
theorem pre_eq (e : List Nat) : Str.empty ++ Str.ofString ".*" ++ S e = S (46 :: 42 :: e) := by
  rw [show Str.empty ++ Str.ofString ".*" = S [46, 42] from by decide +kernel, S_app]; rfl
set_option maxRecDepth 100000 in
set_option maxHeartbeats 8000000 in
theorem translate_pattern_ok (news : List (Addr × Obj)) (l : List Nat) (t : Tok) :
  MyClaim PySem.Challenge.rw_ny0077_01.row.prog w (hd.heap_39 w.params) p loose mean mg mb 75 news (l.length ≤ 1000 ∧ Ok l) [.str (S l) t] (fun t => .str (S (46 :: 42 :: escL l)) t) := by
  w_on
  k_fill
  dsimp only [MyClaim, CbRet]
  intros; rename_i hlen _ _ hret
  have hl0 := hlen.1
  have h42 := ok_no hlen.2 42 (by decide)
  have htw := tw_free 42 l h42
  have hel := escL_len l
  refine wpAny_call ?_
  w_strict (k_dflt cell_enter)
  k_steps
  refine StopAt.out ?_
  rename News _ _ _ _ => N0
  rename (_ ∉ _ → _ = []) => hv
  have hv1 := hv h42
  subst hv1
  rw [htw] at N0
  refine call_map (by k_asm) N0 (.head _) ?_
  intro it tu mp h1 F1 N1 l1 l2 l3
  dsimp only
  walk1
  rename Below _ _ _ _ => hBe
  rename Frag.In _ _ => hXe
  rename Top _ _ _ _ _ _ => hTe
  refine list_map_one (P := fun y => ∃ t, y = Value.str (S (escL l)) t) rfl F1 N1 (.head _) l1 l2 l3 ?hc ?hq
  case hc =>
    intro s1 news1 Q' E' F9 N9 hr9
    have hCb := @escape_ok w p loose mean mg mb news1 l
    dsimp only [CbClaim, CbLists, CbRet] at hCb
    refine hCb _ _ _ _ _ _ _ _ _ _ _ _ _ _ _ _ _ _ hBe F9 hXe N9 hTe rfl hlen ?_ ?_ (fun t h' tk' F N => hr9 _ h' tk' ⟨t, rfl⟩ F N)
    · ktr_room
    · ktr_units
  case hq =>
    rintro sl y c h2 tk2 ⟨ty, rfl⟩ F2 N2 l5
    k_steps
    · rw [pre_eq, S_len, sizeLine_eq]; simp only [List.length_cons]; omega
    rw [pre_eq]
    k_steps
    have hneS : ∀ p ∈ ((_, W.listOf #[Value.str (S l) _] 0) :: news : List (Addr × Obj)), p.1 ≠ sl := fun p hp => Nat.ne_of_lt (l5 p hp)
    refine setItem_last1 (by k_asm) (by k_asm) hneS ?_
    intro h3 c3 F3 N3
    k_steps
    refine join_list (x := Str.ofString "") (News.isList N3 (.head _)) (.cons _ _ .nil) ?_ ?_
    · simp only [List.map_cons, List.map_nil, List.sum_cons, List.sum_nil, S_len, List.length_cons, List.length_nil, show (Str.ofString "").length = 0 from by decide +kernel]; omega
    intro t8 k8
    rw [show Txt.join (Str.ofString "") [S (46 :: 42 :: escL l)] = S (46 :: 42 :: escL l) from by unfold Txt.join; rw [StrLaws.glued_eq_join]; rfl]
    k_steps
    exact hret _ _ _ (by k_asm) (cb_drop (by assumption) fun p h => List.mem_cons_of_mem _ (List.mem_cons_of_mem _ h))
end

section
variable {w : World} {p : Program} {loose : List Str} {mean : ExcName → Option Value} {mg mb : Str → Option Value}
local macro_rules | `(tactic| walk_at "exec For Name Call cons nil") => `(tactic| (k_here; (rename Fr _ _ _ _ => lF'); (with_unfolding_all refine' For_invVF lF' ?k1 ?k2 ?_; (case k1 => exact rfl); (case k2 => exact rfl); k_whole)))
local macro_rules | `(tactic| walk_at "pyIter ref") => `(tactic| refine stopAt ?_)
local macro_rules | `(tactic| walk_at "InvEndN") => `(tactic| refine stopAt ?_)
set_option maxRecDepth 100000 in
set_option maxHeartbeats 8000000 in
theorem numbers_ok (news : List (Addr × Obj)) (l : Addr) (vs : List Value) (ns : List Int)
   (dp un : Nat) (gd : Option (List Code)) (cn : Str) (cs : Scope) (a : Addr) (ccd : Value) (cl : List (Str × Addr)) (outer : List Env) (A₀ : Around) (base h₀ : Heap) (L : Addr) (m : Str → Option Value) (s : Shared) (Q E : Value → Shared → Prop)
  (hB : Below A₀ base outer h₀) (hF : Fr h₀ L s.heap m) (hX : (hd.heap_39 w.params).In h₀) (hN : News h₀ L s.heap news) (hT : Top p loose mean mg mb h₀) (hcs : cs.kind = .function)
  (hl : base.IsList l vs.toArray) (hi : IntsAre vs ns) (hn : ns.length ≤ 63)
  (hdp : dp + 1 < recursionLimit) (hun : un + 8 < cLine)
  (hret : ∀ b n0 t0 n1 t1 n2 t2 n3 t3 c h' tk', Fr h₀ L h' m → News h₀ L h' ((b, W.listOf #[.int n0 t0, .int n1 t1, .int n2 t2, .int n3 t3] c) :: news) → (∀ p ∈ news, p.1 < b) → Q (.ref b) { s with heap := h', toks := tk' }) :
  wpAny (model PySem.Challenge.rw_ny0077_01.row.prog w) (ktrTop dp un gd cn cs L a ccd cl outer) (call (.ref 114) [.ref l]) Q E s := by
  w_on
  revert hX; k_fill; intro hX
  refine wpAny_call ?_
  w_strict (k_dflt cell_enter)
  k_steps
  refine StopAt.out ?_
  rename_i nl _ _ _ _ _ _ _ _ _ _ _
  rename Fr _ _ _ _ => F0
  rename News _ _ _ _ => N0
  rename (∀ p ∈ news, p.1 < _) => hltN
  refine kst_range (n := ns.length) (σ := (Int × Tok) × (Int × Tok) × (Int × Tok) × (Int × Tok) × Nat) (fun c => (_, W.listOf #[.int c.1.1 c.1.2, .int c.2.1.1 c.2.1.2, .int c.2.2.1.1 c.2.2.1.2, .int c.2.2.2.1.1 c.2.2.2.1.2] c.2.2.2.2) :: news) (fun _ => []) (fun _ => True) []
    (fun _ _ => True) ((480, _), (577, _), (449, _), (13377, _), 0) rfl (by assumption) (small_one (by omega) (by omega) (by omega) (by omega)) ((rangeSize_nat _ _).trans (by simp)) F0 N0 trivial (fun _ h => nomatch h) trivial ?turn ?done
  case turn =>
    rintro ⟨⟨n0, t0⟩, ⟨n1, t1⟩, ⟨n2, t2⟩, ⟨n3, t3⟩, cc⟩ pre k tk1 u9 h9 tk9 own he hlt hoff - - F1 N1
    dsimp only at *
    clear F0 N0
    have hk0 : 0 ≤ k := by omega
    have hk1 : k < ns.length := by omega
    k_steps
    rename News _ _ _ _ => N2
    have hf0 : 0 ≤ k.fmod 4 := by rw [PyProof.Rows.fmod_eq _ (by decide)]; omega
    have hf1 : k.fmod 4 < 4 := by rw [PyProof.Rows.fmod_eq _ (by decide)]; omega
    refine setItem_in (by k_asm) N2 (fun p hp => ?_) hf0 (by exact hf1) (by show 4 < 1000; decide) ?_
    · rcases List.mem_append.mp hp with hp | hp
      · exact Nat.ne_of_lt (hltN p hp)
      · exact hoff p hp _ (by simp)
    generalize k.fmod 4 = z at *
    intro h2 c2 F2 N3
    k_steps
    refine StopAt.out ?_
    rcases (by omega : z = 0 ∨ z = 1 ∨ z = 2 ∨ z = 3) with rfl | rfl | rfl | rfl
    · exact kst_end ((_, _), (_, _), (_, _), (_, _), _) F2 N3 (fun p hp => List.mem_cons.mpr ((List.mem_cons.mp hp).imp id fun h => List.mem_append_left _ h)) (fun p h => List.mem_cons_of_mem _ (List.mem_append_right _ h)) rfl trivial (fun _ h => nomatch h) (by kst_same) trivial
    · exact kst_end ((_, _), (_, _), (_, _), (_, _), _) F2 N3 (fun p hp => List.mem_cons.mpr ((List.mem_cons.mp hp).imp id fun h => List.mem_append_left _ h)) (fun p h => List.mem_cons_of_mem _ (List.mem_append_right _ h)) rfl trivial (fun _ h => nomatch h) (by kst_same) trivial
    · exact kst_end ((_, _), (_, _), (_, _), (_, _), _) F2 N3 (fun p hp => List.mem_cons.mpr ((List.mem_cons.mp hp).imp id fun h => List.mem_append_left _ h)) (fun p h => List.mem_cons_of_mem _ (List.mem_append_right _ h)) rfl trivial (fun _ h => nomatch h) (by kst_same) trivial
    · exact kst_end ((_, _), (_, _), (_, _), (_, _), _) F2 N3 (fun p hp => List.mem_cons.mpr ((List.mem_cons.mp hp).imp id fun h => List.mem_append_left _ h)) (fun p h => List.mem_cons_of_mem _ (List.mem_append_right _ h)) rfl trivial (fun _ h => nomatch h) (by kst_same) trivial
  case done =>
    rintro ⟨⟨n0, t0⟩, ⟨n1, t1⟩, ⟨n2, t2⟩, ⟨n3, t3⟩, cc⟩ u9 h9 tk9 - - F1 N1
    dsimp only at *
    clear F0 N0
    k_steps
    exact hret _ _ _ _ _ _ _ _ _ _ _ _ (by k_asm) (by k_asm) hltN
end

section
variable {w : World} {p : Program} {loose : List Str} {mean : ExcName → Option Value} {mg mb : Str → Option Value}
local macro_rules | `(tactic| walk_at "eval Lambda") => `(tactic| refine stopAt ?_)
local macro_rules | `(tactic| walk_at "setAttr ref") => `(tactic| refine stopAt ?_)
theorem starts_iff (x l : List Nat) : Txt.startswith (S x) (S l) = true ↔ l <+: x := by
  unfold Txt.startswith
  simp only [StrLaws.subAt_eq, S_len, S_cps, beq_iff_eq, Bool.and_eq_true, decide_eq_true_eq, List.drop_zero]
  constructor
  · rintro ⟨_, e⟩; rw [← e]; exact List.take_prefix _ _
  · intro e; refine ⟨by have := e.length_le; omega, (List.prefix_iff_eq_take.mp e).symm⟩
/-- a rule's test: what calling it gives, as long as its objects stand -/
def LamOk (w : World) (p : Program) (loose : List Str) (mean : ExcName → Option Value) (mg mb : Str → Option Value) (g : Addr) (objs : List (Addr × Obj)) (l : List Nat) : Prop :=
  ∀ (news : List (Addr × Obj)) (x : List Nat) (t : Tok) (dp un : Nat) (gd : Option (List Code)) (cn : Str) (cs : Scope) (a : Addr) (ccd : Value) (cl : List (Str × Addr)) (outer : List Env) (A₀ : Around) (base h₀ : Heap) (L : Addr) (m : Str → Option Value) (s : Shared) (Q E : Value → Shared → Prop),
    (∀ q ∈ objs, q ∈ news) → Below A₀ base outer h₀ → Fr h₀ L s.heap m → (hd.heap_39 w.params).In h₀ → News h₀ L s.heap news → Top p loose mean mg mb h₀ → cs.kind = .function → x.length ≤ 1000 → dp + 1 < recursionLimit → un + 8 < cLine →
    CbRet h₀ L m news s Q (fun t => .int (if l <+: x then (l.length : Int) + 1 else 0) t) →
    wpAny (model PySem.Challenge.rw_ny0077_01.row.prog w) (ktrTop dp un gd cn cs L a ccd cl outer) (call (.ref g) [.str (S x) t]) Q E s
def RuleIn (w : World) (p : Program) (loose : List Str) (mean : ExcName → Option Value) (mg mb : Str → Option Value) (news : List (Addr × Obj)) (r : Addr) (l : List Nat) (v : Bool) : Prop :=
  ∃ fd d x1 k1 x2 k2 n g objs, (r, ({ cls := .type "function", dict := some d, data := .func fd } : Obj)) ∈ news ∧ (d, dictOf [⟨x1, .str (Str.ofString "applies_to") k1, .ref g⟩, ⟨x2, .str (Str.ofString "allowance") k2, .bool v⟩] n) ∈ news ∧ (∀ q ∈ objs, q ∈ news) ∧ LamOk w p loose mean mg mb g objs l ∧ ∃ og fdg, (g, og) ∈ news ∧ og.data = Data.func fdg
/-- the table of the lambdas' codes, behind the first call -/
def TabIn (news : List (Addr × Obj)) (ps : Array Value) : Prop :=
  ∃ c1 c2 oc1 oc2 vs1 vs2 t1 t2, ps = #[rawInt (104 : Nat), rawInt (11 : Nat), .ref c1, rawInt (105 : Nat), rawInt (22 : Nat), .ref c2] ∧ (c1, oc1) ∈ news ∧ oc1.data = .fields vs1 ∧ vs1[1]? = some (.str (Str.ofString "_law_rule.<locals>.<lambda>") t1) ∧
    (c2, oc2) ∈ news ∧ oc2.data = .fields vs2 ∧ vs2[1]? = some (.str (Str.ofString "_law_rule.<locals>.<lambda>") t2)
theorem rule_fin {h₀ : Heap} {L : Addr} {m : Str → Option Value} {s : Shared} {Q : Value → Shared → Prop} {news kp : List (Addr × Obj)} {l : List Nat} {v : Bool} {d f1 f2 c1 c2 ce : Addr} {x1 x2 : Int} {k1 k2 : Tok} {n : Nat} {og oc1 oc2 oce : Obj} {fd : FuncData} {h' : Heap} {tk' : Nat} {vs1 vs2 : Array Value} {t1 t2 : Tok}
    (hret : ∀ r new ps h' tk', Fr h₀ L h' m → News h₀ L h' ((137, tabObj ps) :: (new ++ news)) → (∀ q ∈ new, q.1 ≠ 137) → (∀ q ∈ new, ∀ p ∈ news, p.1 < q.1) → TabIn (new ++ kp) ps → RuleIn w p loose mean mg mb (new ++ kp) r l v → Q (.ref r) { s with heap := h', toks := tk' })
    (F : Fr h₀ L h' m)
    (N : News h₀ L h' ((d, dictOf [⟨x1, .str (Str.ofString "applies_to") k1, .ref f2⟩, ⟨x2, .str (Str.ofString "allowance") k2, .bool v⟩] n) :: (f2, og) :: (c2, oc2) :: (f1, ({ cls := .type "function", dict := some d, data := .func fd } : Obj)) :: (c1, oc1) :: (ce, oce) :: (137, tabObj #[rawInt (104 : Nat), rawInt (11 : Nat), .ref c1, rawInt (105 : Nat), rawInt (22 : Nat), .ref c2]) :: news))
    (h1 : d ≠ 137) (h2 : f2 ≠ 137) (h3 : c2 ≠ 137) (h4 : f1 ≠ 137) (h5 : c1 ≠ 137) (h6 : ce ≠ 137) {L0 : Addr} (hL0 : ∀ p ∈ news, p.1 < L0) (g1 : L0 < d) (g2 : L0 < f2) (g3 : L0 < c2) (g4 : L0 < f1) (g5 : L0 < c1) (g6 : L0 < ce)
    (e1 : oc1.data = .fields vs1) (e2 : vs1[1]? = some (.str (Str.ofString "_law_rule.<locals>.<lambda>") t1)) (e3 : oc2.data = .fields vs2) (e4 : vs2[1]? = some (.str (Str.ofString "_law_rule.<locals>.<lambda>") t2))
    {fdg : FuncData} (hog : og.data = .func fdg) (hlam : LamOk w p loose mean mg mb f2 [(f2, og), (c2, oc2), (ce, oce)] l) : Q (.ref f1) { s with heap := h', toks := tk' } := by
  refine hret f1 [(d, dictOf [⟨x1, .str (Str.ofString "applies_to") k1, .ref f2⟩, ⟨x2, .str (Str.ofString "allowance") k2, .bool v⟩] n), (f2, og), (c2, oc2), (f1, ({ cls := .type "function", dict := some d, data := .func fd } : Obj)), (c1, oc1), (ce, oce)] #[rawInt (104 : Nat), rawInt (11 : Nat), .ref c1, rawInt (105 : Nat), rawInt (22 : Nat), .ref c2] h' tk' F (fun q hq => N q ?_) ?_ ?_ ?_ ⟨fd, d, x1, k1, x2, k2, n, f2, [(f2, og), (c2, oc2), (ce, oce)], ?_, ?_, ?_, hlam, og, fdg, by simp, hog⟩
  · simp only [List.cons_append, List.nil_append, List.mem_cons] at hq ⊢
    rcases hq with h | h | h | h | h | h | h | h <;> simp [h]
  · intro q hq
    simp only [List.mem_cons, List.not_mem_nil, or_false] at hq
    rcases hq with rfl | rfl | rfl | rfl | rfl | rfl <;> assumption
  · intro q hq p hp
    refine Nat.lt_trans (hL0 p hp) ?_
    simp only [List.mem_cons, List.not_mem_nil, or_false] at hq
    rcases hq with rfl | rfl | rfl | rfl | rfl | rfl <;> assumption
  · exact ⟨c1, c2, oc1, oc2, vs1, vs2, t1, t2, rfl, by simp, e1, e2, by simp, e3, e4⟩
  · simp
  · simp
  · intro q hq
    simp only [List.mem_cons, List.not_mem_nil, or_false] at hq
    rcases hq with rfl | rfl | rfl <;> simp
set_option maxRecDepth 100000 in
set_option maxHeartbeats 8000000 in
theorem rule_new (news kp : List (Addr × Obj)) (l : List Nat) (t : Tok) (v : Bool)
  (dp un : Nat) (gd : Option (List Code)) (cn : Str) (cs : Scope) (a : Addr) (ccd : Value) (cl : List (Str × Addr)) (outer : List Env) (A₀ : Around) (base h₀ : Heap) (L : Addr) (m : Str → Option Value) (s : Shared) (Q E : Value → Shared → Prop)
  (hB : Below A₀ base outer h₀) (hF : Fr h₀ L s.heap m) (hX : (hd.heap_39 w.params).In h₀) (hN : News h₀ L s.heap ((137, tabObj #[]) :: news)) (hT : Top p loose mean mg mb h₀) (hcs : cs.kind = .function)
  (hC : CodeHd base 141 137) (hne : ∀ q ∈ news, q.1 ≠ 137)
  (hdp : dp + 1 < recursionLimit) (hun : un + 8 < cLine) (hl : l.length ≤ 1000)
  (hret : ∀ r new ps h' tk', Fr h₀ L h' m → News h₀ L h' ((137, tabObj ps) :: (new ++ news)) → (∀ q ∈ new, q.1 ≠ 137) → (∀ q ∈ new, ∀ p ∈ news, p.1 < q.1) → TabIn (new ++ kp) ps → RuleIn w p loose mean mg mb (new ++ kp) r l v → Q (.ref r) { s with heap := h', toks := tk' }) :
  wpAny (model PySem.Challenge.rw_ny0077_01.row.prog w) (ktrTop dp un gd cn cs L a ccd cl outer) (call (.ref 142) [.str (S l) t, .bool v]) Q E s := by
  w_on
  revert hX; k_fill; intro hX
  refine wpAny_call ?_
  w_strict (k_dflt (refine' code_defC ?k1 ?k2 ?k3 ?k4 ?k5 ?kA ?kF ?kK ?k6 ?k7 ?k8 ?k9 ?kB ?kD ?_ ?c2 ?c3 ?c4; (case kA => exact rfl); (case kF => exact rfl); (case kK => assumption); (case k1 => k_asm); (case k2 => k_asm); (case k3 => k_asm); (case k4 => k_asm); (case k5 => k_asm); (case k6 => k_is); (case k7 => k_is); (case k8 => ktr_room); (case k9 => exact BindsTo.of_eq rfl); (case kB => exact rfl); (case kD => decide +kernel); (case c2 => exact rfl); (case c3 => exact rfl); (case c4 => exact rfl); k_whole; intro g' L' h' tk' cells' FG' F' N' Y' B' X' T' l1; k_cells Y'; (try simp only [List.cons_append, List.nil_append] at N'); (try dsimp only); (try k_lift B'); (try k_fold)))
  k_steps
  refine StopAt.out ?_
  have h137 : 137 < L' := l1 (137, tabObj #[]) (.head _)
  have hCg : CodeHd g' 141 137 := hC.keeps (Below.stays B')
  rename_i oce hoce
  have hcell : oce.data = .cell (some (.str (S l) t)) := hoce
  clear hoce
  refine kla_eval rfl ?_
  refine kla_nest F' N' T' hCg rfl (UpdF.tail (Nat.ne_of_gt (Nat.lt_succ_of_lt h137)) (UpdF.head hne)) True.intro rfl rfl ?_
  intro f1 c1 oc1 vs1 t1 ct1 h1 tk1 F1 N1 d1 d2 l2 l3
  dsimp only at N1
  have hLc1 : L' + 1 < c1 := l2 (L' + 1, oce) (.head _)
  have h137c : 137 < c1 := Nat.lt_trans h137 (Nat.lt_trans (Nat.lt_succ_self _) hLc1)
  have h137f : 137 < f1 := Nat.lt_trans h137c l3
  k_steps
  refine StopAt.out ?_
  rename Fr _ _ _ _ => F2
  rename News _ _ _ _ => N2
  refine kla_eval rfl ?_
  refine kla_nest F2 N2 T' hCg rfl (UpdF.tail (Nat.ne_of_gt h137f) (UpdF.tail (Nat.ne_of_gt h137c) (UpdF.tail (Nat.ne_of_gt (Nat.lt_succ_of_lt h137)) (UpdF.head hne)))) (by kn_triples) (by kn_among) rfl ?_
  intro f2 c2 oc2 vs2 t2 ct2 h2 tk2 F3 N3 d3 d4 l4 l5
  dsimp only at N3
  have hfc2 : f1 < c2 := l4 _ (.head _)
  have hff : f1 < f2 := Nat.lt_trans hfc2 l5
  have hlow : ∀ q ∈ (c1, oc1) :: (L' + 1, oce) :: (137, tabObj (#[] ++ #[rawInt (104 : Nat), rawInt (11 : Nat), .ref c1] ++ #[rawInt (105 : Nat), rawInt (22 : Nat), .ref c2])) :: news, q.1 < f1 := by
    intro q hq
    rcases List.mem_cons.mp hq with rfl | hq
    · exact l3
    rcases List.mem_cons.mp hq with rfl | hq
    · exact Nat.lt_trans hLc1 l3
    rcases List.mem_cons.mp hq with rfl | hq
    · exact h137f
    · exact Nat.lt_trans (l1 q (.tail _ hq)) (Nat.lt_trans (Nat.lt_succ_self _) (Nat.lt_trans hLc1 l3))
  k_steps
  refine StopAt.out ?_
  refine fn_set_new (pre := [_, _]) F3 N3 (fun q hq => ?_) (fun q hq => Nat.ne_of_lt (hlow q hq)) fn_no_applies ?_
  · rcases List.mem_cons.mp hq with rfl | hq
    · exact Nat.ne_of_gt hff
    · rw [List.mem_singleton.mp hq]; exact Nat.ne_of_gt hfc2
  intro d h3 tk3 x1 k1 F4 N4 l6
  k_steps
  refine StopAt.out ?_
  rename Fr _ _ _ _ => F5
  rename News _ _ _ _ => N5
  refine fn_set_more (pre := []) F5 (N5 (f1, _) (.tail _ (.tail _ (.tail _ (.head _))))).1 N5 (fun _ h => nomatch h) (fun q hq => ?_) fn_no_allowance rfl (fun _ => by show 2 ≤ 1000; decide) ?_
  · refine Nat.ne_of_lt ?_
    simp only [List.cons_append, List.nil_append, List.mem_cons] at hq l6
    rcases hq with rfl | rfl | rfl | hq
    · exact l6 (f2, _) (.inl rfl)
    · exact l6 (c2, oc2) (.inr (.inl rfl))
    · have q := l6 (f1, _) (.inr (.inr (.inl rfl)))
      exact q
    · exact l6 q (.inr (.inr (.inr hq)))
  intro h4 tk4 tk5 F6 N6
  k_steps
  rename Fr _ _ _ _ => F7
  rename News _ _ _ _ => N7
  simp only [List.cons_append, List.nil_append] at N7
  have hLf : L' < f1 := Nat.lt_trans (Nat.lt_trans (Nat.lt_succ_self _) hLc1) l3
  have hd1 : 137 < d := Nat.lt_trans h137f (l6 (f1, _) (List.mem_append_right _ (.head _)))
  refine rule_fin hret F7 N7 (Nat.ne_of_gt hd1) (Nat.ne_of_gt (Nat.lt_trans h137f hff)) (Nat.ne_of_gt (Nat.lt_trans h137f hfc2)) (Nat.ne_of_gt h137f) (Nat.ne_of_gt h137c) (Nat.ne_of_gt (Nat.lt_succ_of_lt h137)) (L0 := L') (fun q hq => l1 q (.tail _ hq)) (Nat.lt_trans hLf (l6 (f1, _) (List.mem_append_right _ (.head _)))) (Nat.lt_trans hLf hff) (Nat.lt_trans hLf hfc2) hLf (Nat.lt_trans (Nat.lt_succ_self _) hLc1) (Nat.lt_succ_self _) d1 d2 d3 d4 rfl ?_
  clear hret N7 F7
  unfold LamOk
  intro news9 x9 t9 dp9 un9 gd9 cn9 cs9 a9 ccd9 cl9 outer9 A9 base9 h9 L9 m9 s9 Q9 E9 hobj hB hF hX hN hT hk hx9 hdp9 hun9 hret
  have m1 := hobj _ (.head _)
  have m2 := hobj _ (.tail _ (.head _))
  have m3 := hobj _ (.tail _ (.tail _ (.head _)))
  refine wpAny_call ?_
  k_dflt (refine kla_code (K := hd.heap_39 w.params) hB hF hX hN hT rfl rfl hk m1 (codeRec_news hN m2 d3 d4) ?_ rfl (locs rfl) ?_ rfl rfl rfl (by decide))
  · ktr_room
  intro g8 L8 h8 FG8 F8 N8 B8 X8 T8
  dsimp only
  dsimp only [CbRet] at hret
  k_steps
  · exact cb_retI hret (by rw [if_pos ((starts_iff x9 l).mp (by assumption))]) (by k_asm) (by k_asm)
  · exact cb_retI hret (by rw [if_neg (fun h => absurd ((starts_iff x9 l).mpr h) (Bool.not_eq_true _ ▸ (by assumption)))]) (by k_asm) (by k_asm)
end

section
variable {w : World} {p : Program} {loose : List Str} {mean : ExcName → Option Value} {mg mb : Str → Option Value}
local macro_rules | `(tactic| walk_at "eval Lambda") => `(tactic| refine stopAt ?_)
local macro_rules | `(tactic| walk_at "setAttr ref") => `(tactic| refine stopAt ?_)
theorem TabIn.mono {news news' : List (Addr × Obj)} {ps : Array Value} (h : TabIn news ps) (hs : ∀ q ∈ news, q ∈ news') : TabIn news' ps := by
  obtain ⟨c1, c2, oc1, oc2, vs1, vs2, t1, t2, e, m1, e1, e2, m2, e3, e4⟩ := h
  exact ⟨c1, c2, oc1, oc2, vs1, vs2, t1, t2, e, hs _ m1, e1, e2, hs _ m2, e3, e4⟩
theorem rule_fin2 {h₀ : Heap} {L : Addr} {m : Str → Option Value} {s : Shared} {Q : Value → Shared → Prop} {news kp : List (Addr × Obj)} {l : List Nat} {v : Bool} {ps : Array Value} {d f1 f2 c2 ce : Addr} {x1 x2 : Int} {k1 k2 : Tok} {n : Nat} {og oc2 oce : Obj} {fd : FuncData} {h' : Heap} {tk' : Nat}
    (hret : ∀ r new ps h' tk', Fr h₀ L h' m → News h₀ L h' ((137, tabObj ps) :: (new ++ news)) → (∀ q ∈ new, q.1 ≠ 137) → (∀ q ∈ new, ∀ p ∈ news, p.1 < q.1) → TabIn (new ++ kp) ps → RuleIn w p loose mean mg mb (new ++ kp) r l v → Q (.ref r) { s with heap := h', toks := tk' })
    (F : Fr h₀ L h' m)
    (N : News h₀ L h' ((d, dictOf [⟨x1, .str (Str.ofString "applies_to") k1, .ref f2⟩, ⟨x2, .str (Str.ofString "allowance") k2, .bool v⟩] n) :: (f2, og) :: (f1, ({ cls := .type "function", dict := some d, data := .func fd } : Obj)) :: (ce, oce) :: (137, tabObj ps) :: news))
    (h1 : d ≠ 137) (h2 : f2 ≠ 137) (h4 : f1 ≠ 137) (h6 : ce ≠ 137) {L0 : Addr} (hL0 : ∀ p ∈ news, p.1 < L0) (g1 : L0 < d) (g2 : L0 < f2) (g4 : L0 < f1) (g6 : L0 < ce) (hTab : TabIn kp ps) (m2 : (c2, oc2) ∈ kp)
    {fdg : FuncData} (hog : og.data = .func fdg) (hlam : LamOk w p loose mean mg mb f2 [(f2, og), (c2, oc2), (ce, oce)] l) : Q (.ref f1) { s with heap := h', toks := tk' } := by
  refine hret f1 [(d, dictOf [⟨x1, .str (Str.ofString "applies_to") k1, .ref f2⟩, ⟨x2, .str (Str.ofString "allowance") k2, .bool v⟩] n), (f2, og), (f1, ({ cls := .type "function", dict := some d, data := .func fd } : Obj)), (ce, oce)] ps h' tk' F (fun q hq => N q ?_) ?_ ?_ (hTab.mono fun q h => List.mem_append_right _ h) ⟨fd, d, x1, k1, x2, k2, n, f2, [(f2, og), (c2, oc2), (ce, oce)], ?_, ?_, ?_, hlam, og, fdg, by simp, hog⟩
  · simp only [List.cons_append, List.nil_append, List.mem_cons] at hq ⊢
    rcases hq with h | h | h | h | h | h <;> simp [h]
  · intro q hq
    simp only [List.mem_cons, List.not_mem_nil, or_false] at hq
    rcases hq with rfl | rfl | rfl | rfl <;> assumption
  · intro q hq p hp
    refine Nat.lt_trans (hL0 p hp) ?_
    simp only [List.mem_cons, List.not_mem_nil, or_false] at hq
    rcases hq with rfl | rfl | rfl | rfl <;> assumption
  · simp
  · simp
  · intro q hq
    simp only [List.mem_cons, List.not_mem_nil, or_false] at hq
    rcases hq with rfl | rfl | rfl
    · simp
    · exact List.mem_append_right _ m2
    · simp
set_option maxRecDepth 100000 in
set_option maxHeartbeats 8000000 in
theorem rule_hit (news kp : List (Addr × Obj)) (l : List Nat) (t : Tok) (v : Bool)
  (dp un : Nat) (gd : Option (List Code)) (cn : Str) (cs : Scope) (a : Addr) (ccd : Value) (cl : List (Str × Addr)) (outer : List Env) (A₀ : Around) (base h₀ : Heap) (L : Addr) (m : Str → Option Value) (s : Shared) (Q E : Value → Shared → Prop)
  (hB : Below A₀ base outer h₀) (hF : Fr h₀ L s.heap m) (hX : (hd.heap_39 w.params).In h₀) (ps : Array Value) (hN : News h₀ L s.heap ((137, tabObj ps) :: news)) (hTab : TabIn kp ps) (hT : Top p loose mean mg mb h₀) (hcs : cs.kind = .function)
  (hC : CodeHd base 141 137) (hne : ∀ q ∈ news, q.1 ≠ 137)
  (hdp : dp + 1 < recursionLimit) (hun : un + 8 < cLine) (hl : l.length ≤ 1000)
  (hret : ∀ r new ps h' tk', Fr h₀ L h' m → News h₀ L h' ((137, tabObj ps) :: (new ++ news)) → (∀ q ∈ new, q.1 ≠ 137) → (∀ q ∈ new, ∀ p ∈ news, p.1 < q.1) → TabIn (new ++ kp) ps → RuleIn w p loose mean mg mb (new ++ kp) r l v → Q (.ref r) { s with heap := h', toks := tk' }) :
  wpAny (model PySem.Challenge.rw_ny0077_01.row.prog w) (ktrTop dp un gd cn cs L a ccd cl outer) (call (.ref 142) [.str (S l) t, .bool v]) Q E s := by
  w_on
  revert hX; k_fill; intro hX
  refine wpAny_call ?_
  w_strict (k_dflt (refine' code_defC ?k1 ?k2 ?k3 ?k4 ?k5 ?kA ?kF ?kK ?k6 ?k7 ?k8 ?k9 ?kB ?kD ?_ ?c2 ?c3 ?c4; (case kA => exact rfl); (case kF => exact rfl); (case kK => assumption); (case k1 => k_asm); (case k2 => k_asm); (case k3 => k_asm); (case k4 => k_asm); (case k5 => k_asm); (case k6 => k_is); (case k7 => k_is); (case k8 => ktr_room); (case k9 => exact BindsTo.of_eq rfl); (case kB => exact rfl); (case kD => decide +kernel); (case c2 => exact rfl); (case c3 => exact rfl); (case c4 => exact rfl); k_whole; intro g' L' h' tk' cells' FG' F' N' Y' B' X' T' l1; k_cells Y'; (try simp only [List.cons_append, List.nil_append] at N'); (try dsimp only); (try k_lift B'); (try k_fold)))
  k_steps
  refine StopAt.out ?_
  have h137 : 137 < L' := l1 (137, tabObj ps) (.head _)
  have hCg : CodeHd g' 141 137 := hC.keeps (Below.stays B')
  rename_i oce hoce
  have hcell : oce.data = .cell (some (.str (S l) t)) := hoce
  clear hoce
  have hTab0 := hTab
  obtain ⟨c1, c2, oc1, oc2, vs1, vs2, t1, t2, hps, mm1, d1, d2, mm2, d3, d4⟩ := hTab
  have ht : TriplesOk ps.toList := by rw [hps]; simp [TriplesOk, rawInt]
  refine kla_eval rfl ?_
  refine kla_hit (c' := c1) F' N' T' hCg rfl (.tail _ (.head _)) ht (by rw [hps]; simp [codeAmong, rawInt]) rfl ?_
  intro f1 ct1 h1 tk1 F1 N1 l2
  have hLf1 : L' + 1 < f1 := l2 (L' + 1, oce) (.head _)
  have h137f : 137 < f1 := l2 (137, tabObj ps) (.tail _ (.head _))
  k_steps
  refine StopAt.out ?_
  rename Fr _ _ _ _ => F2
  rename News _ _ _ _ => N2
  refine kla_eval rfl ?_
  refine kla_hit (c' := c2) F2 N2 T' hCg rfl (.tail _ (.tail _ (.head _))) ht (by rw [hps]; simp [codeAmong, rawInt]) rfl ?_
  intro f2 ct2 h2 tk2 F3 N3 l4
  have hff : f1 < f2 := l4 _ (.head _)
  have hlow : ∀ q ∈ (L' + 1, oce) :: (137, tabObj ps) :: news, q.1 < f1 := l2
  k_steps
  refine StopAt.out ?_
  refine fn_set_new (pre := [_]) F3 N3 (fun q hq => ?_) (fun q hq => Nat.ne_of_lt (hlow q hq)) fn_no_applies ?_
  · rw [List.mem_singleton.mp hq]; exact Nat.ne_of_gt hff
  intro d h3 tk3 x1 k1 F4 N4 l6
  k_steps
  refine StopAt.out ?_
  rename Fr _ _ _ _ => F5
  rename News _ _ _ _ => N5
  refine fn_set_more (pre := []) F5 (N5 (f1, _) (.tail _ (.tail _ (.head _)))).1 N5 (fun _ h => nomatch h) (fun q hq => ?_) fn_no_allowance rfl (fun _ => by show 2 ≤ 1000; decide) ?_
  · refine Nat.ne_of_lt ?_
    simp only [List.cons_append, List.nil_append, List.mem_cons] at hq l6
    rcases hq with rfl | rfl | hq
    · exact l6 (f2, _) (.inl rfl)
    · have q := l6 (f1, _) (.inr (.inl rfl))
      exact q
    · exact l6 q (.inr (.inr hq))
  intro h4 tk4 tk5 F6 N6
  k_steps
  rename Fr _ _ _ _ => F7
  rename News _ _ _ _ => N7
  simp only [List.cons_append, List.nil_append] at N7
  have hLf : L' < f1 := Nat.lt_trans (Nat.lt_succ_self _) hLf1
  have hd1 : 137 < d := Nat.lt_trans h137f (l6 (f1, _) (List.mem_append_right _ (.head _)))
  refine rule_fin2 hret F7 N7 (Nat.ne_of_gt hd1) (Nat.ne_of_gt (Nat.lt_trans h137f hff)) (Nat.ne_of_gt h137f) (Nat.ne_of_gt (Nat.lt_succ_of_lt h137)) (L0 := L') (fun q hq => l1 q (.tail _ hq)) (Nat.lt_trans hLf (l6 (f1, _) (List.mem_append_right _ (.head _)))) (Nat.lt_trans hLf hff) hLf (Nat.lt_succ_self _) hTab0 mm2 rfl ?_
  clear hret N7 F7
  unfold LamOk
  intro news9 x9 t9 dp9 un9 gd9 cn9 cs9 a9 ccd9 cl9 outer9 A9 base9 h9 L9 m9 s9 Q9 E9 hobj hB hF hX hN hT hk hx9 hdp9 hun9 hret
  have m1 := hobj _ (.head _)
  have m2 := hobj _ (.tail _ (.head _))
  have m3 := hobj _ (.tail _ (.tail _ (.head _)))
  refine wpAny_call ?_
  k_dflt (refine kla_code (K := hd.heap_39 w.params) hB hF hX hN hT rfl rfl hk m1 (codeRec_news hN m2 d3 d4) ?_ rfl (locs rfl) ?_ rfl rfl rfl (by decide))
  · ktr_room
  intro g8 L8 h8 FG8 F8 N8 B8 X8 T8
  dsimp only
  dsimp only [CbRet] at hret
  k_steps
  · exact cb_retI hret (by rw [if_pos ((starts_iff x9 l).mp (by assumption))]) (by k_asm) (by k_asm)
  · exact cb_retI hret (by rw [if_neg (fun h => absurd ((starts_iff x9 l).mpr h) (Bool.not_eq_true _ ▸ (by assumption)))]) (by k_asm) (by k_asm)
set_option maxRecDepth 100000 in
theorem rule_ok (news kp : List (Addr × Obj)) (l : List Nat) (t : Tok) (v : Bool)
  (dp un : Nat) (gd : Option (List Code)) (cn : Str) (cs : Scope) (a : Addr) (ccd : Value) (cl : List (Str × Addr)) (outer : List Env) (A₀ : Around) (base h₀ : Heap) (L : Addr) (m : Str → Option Value) (s : Shared) (Q E : Value → Shared → Prop)
  (hB : Below A₀ base outer h₀) (hF : Fr h₀ L s.heap m) (hX : (hd.heap_39 w.params).In h₀) (ps : Array Value) (hN : News h₀ L s.heap ((137, tabObj ps) :: news)) (hTab : ps = #[] ∨ TabIn kp ps) (hT : Top p loose mean mg mb h₀) (hcs : cs.kind = .function)
  (hC : CodeHd base 141 137) (hne : ∀ q ∈ news, q.1 ≠ 137)
  (hdp : dp + 1 < recursionLimit) (hun : un + 8 < cLine) (hl : l.length ≤ 1000)
  (hret : ∀ r new ps h' tk', Fr h₀ L h' m → News h₀ L h' ((137, tabObj ps) :: (new ++ news)) → (∀ q ∈ new, q.1 ≠ 137) → (∀ q ∈ new, ∀ p ∈ news, p.1 < q.1) → TabIn (new ++ kp) ps → RuleIn w p loose mean mg mb (new ++ kp) r l v → Q (.ref r) { s with heap := h', toks := tk' }) :
  wpAny (model PySem.Challenge.rw_ny0077_01.row.prog w) (ktrTop dp un gd cn cs L a ccd cl outer) (call (.ref 142) [.str (S l) t, .bool v]) Q E s := by
  rcases hTab with rfl | hTab
  · exact rule_new news kp l t v dp un gd cn cs a ccd cl outer A₀ base h₀ L m s Q E hB hF hX hN hT hcs hC hne hdp hun hl hret
  · exact rule_hit news kp l t v dp un gd cn cs a ccd cl outer A₀ base h₀ L m s Q E hB hF hX ps hN hTab hT hcs hC hne hdp hun hl hret
end

section
variable {w : World} {p : Program} {loose : List Str} {mean : ExcName → Option Value} {mg mb : Str → Option Value}
theorem RuleIn.mono {news news' : List (Addr × Obj)} {r : Addr} {l : List Nat} {v : Bool} (h : RuleIn w p loose mean mg mb news r l v) (hs : ∀ q ∈ news, q ∈ news') : RuleIn w p loose mean mg mb news' r l v := by
  obtain ⟨fd, d, x1, k1, x2, k2, n, g, objs, m1, m2, m3, hl, og, fdg, m4, eg⟩ := h
  exact ⟨fd, d, x1, k1, x2, k2, n, g, objs, hs _ m1, hs _ m2, fun q hq => hs q (m3 q hq), hl, og, fdg, hs _ m4, eg⟩
abbrev recDict (x1 x2 x3 x4 : Int) (k1 k2 k3 k4 : Tok) (ua rl : Addr) : List DictEntry := [⟨x1, .str (Str.ofString "useragents") k1, .ref ua⟩, ⟨x2, .str (Str.ofString "rulelines") k2, .ref rl⟩, ⟨x3, .str (Str.ofString "delay") k3, .none⟩, ⟨x4, .str (Str.ofString "req_rate") k4, .none⟩]
def RecIn (w : World) (p : Program) (loose : List Str) (mean : ExcName → Option Value) (mg mb : Str → Option Value) (news : List (Addr × Obj)) (x : Addr) (n0 n1 n2 : List Nat) (v0 v1 v2 : Bool) : Prop :=
  ∃ dx ua rl x1 x2 x3 x4 k1 k2 k3 k4 n cu cr t0 t1 r0 r1 r2, (x, instObj 52 dx) ∈ news ∧ (dx, dictOf (recDict x1 x2 x3 x4 k1 k2 k3 k4 ua rl) n) ∈ news ∧ (ua, W.listOf #[.str (S n0) t0, .str (S n1) t1] cu) ∈ news ∧ (rl, W.listOf #[.ref r0, .ref r1, .ref r2] cr) ∈ news ∧
    RuleIn w p loose mean mg mb news r0 n0 v0 ∧ RuleIn w p loose mean mg mb news r1 n1 v1 ∧ RuleIn w p loose mean mg mb news r2 n2 v2
theorem RecIn.mono {news news' : List (Addr × Obj)} {x : Addr} {n0 n1 n2 : List Nat} {v0 v1 v2 : Bool} (h : RecIn w p loose mean mg mb news x n0 n1 n2 v0 v1 v2) (hs : ∀ q ∈ news, q ∈ news') : RecIn w p loose mean mg mb news' x n0 n1 n2 v0 v1 v2 := by
  obtain ⟨dx, ua, rl, x1, x2, x3, x4, k1, k2, k3, k4, n, cu, cr, t0, t1, r0, r1, r2, m1, m2, m3, m4, h0, h1, h2⟩ := h
  exact ⟨dx, ua, rl, x1, x2, x3, x4, k1, k2, k3, k4, n, cu, cr, t0, t1, r0, r1, r2, hs _ m1, hs _ m2, hs _ m3, hs _ m4, h0.mono hs, h1.mono hs, h2.mono hs⟩
theorem rec_fin {h₀ h : Heap} {L : Addr} {m : Str → Option Value} {s : Shared} {Q : Value → Shared → Prop} {news kp nw : List (Addr × Obj)} {x dx ua rl ln lv dd r0 r1 r2 : Addr} {x1 x2 x3 x4 : Int} {k1 k2 k3 k4 t0 t1 : Tok} {n cu cr : Nat} {n0 n1 n2 : List Nat} {v0 v1 v2 : Bool} {od on ov : Obj} {ps : Array Value} {tk : Nat}
    (hret : ∀ x new ps h' tk', Fr h₀ L h' m → News h₀ L h' ((137, tabObj ps) :: (new ++ ((ln, on) :: (lv, ov) :: news))) → (∀ q ∈ new, q.1 ≠ 137) → (∀ q ∈ new, ∀ p ∈ (ln, on) :: (lv, ov) :: news, p.1 < q.1) → TabIn (new ++ kp) ps → RecIn w p loose mean mg mb (new ++ kp) x n0 n1 n2 v0 v1 v2 → Q (.ref x) { s with heap := h', toks := tk' })
    (F : Fr h₀ L h m) (N : News h₀ L h ((dd, od) :: (rl, W.listOf #[.ref r0, .ref r1, .ref r2] cr) :: (ua, W.listOf #[.str (S n0) t0, .str (S n1) t1] cu) :: (x, instObj 52 dx) :: (dx, dictOf (recDict x1 x2 x3 x4 k1 k2 k3 k4 ua rl) n) :: (137, tabObj ps) :: (ln, on) :: (lv, ov) :: (nw ++ news)))
    (hT : TabIn (nw ++ kp) ps) (h0 : RuleIn w p loose mean mg mb (nw ++ kp) r0 n0 v0) (h1 : RuleIn w p loose mean mg mb (nw ++ kp) r1 n1 v1) (h2 : RuleIn w p loose mean mg mb (nw ++ kp) r2 n2 v2)
    (hne : ∀ q ∈ nw, q.1 ≠ 137) (hfr : ∀ q ∈ nw, ∀ p ∈ (ln, on) :: (lv, ov) :: news, p.1 < q.1) (h137 : @LT.lt Nat _ 137 dx) (hfd : ∀ p ∈ (ln, on) :: (lv, ov) :: news, p.1 < dx) (o1 : @LT.lt Nat _ dx x) (o2 : @LT.lt Nat _ x ua) (o3 : @LT.lt Nat _ ua rl) :
    Q (.ref x) { s with heap := h, toks := tk } := by
  have g2 : @LT.lt Nat _ dx ua := Nat.lt_trans o1 o2
  have g3 : @LT.lt Nat _ dx rl := Nat.lt_trans g2 o3
  have sub : ∀ q ∈ nw ++ kp, q ∈ ((rl, W.listOf #[.ref r0, .ref r1, .ref r2] cr) :: (ua, W.listOf #[.str (S n0) t0, .str (S n1) t1] cu) :: (x, instObj 52 dx) :: (dx, dictOf (recDict x1 x2 x3 x4 k1 k2 k3 k4 ua rl) n) :: nw) ++ kp := fun q hq => .tail _ (.tail _ (.tail _ (.tail _ hq)))
  refine hret x ((rl, W.listOf #[.ref r0, .ref r1, .ref r2] cr) :: (ua, W.listOf #[.str (S n0) t0, .str (S n1) t1] cu) :: (x, instObj 52 dx) :: (dx, dictOf (recDict x1 x2 x3 x4 k1 k2 k3 k4 ua rl) n) :: nw) ps h tk F (fun q hq => N q ?_) ?_ ?_ (hT.mono sub)
    ⟨dx, ua, rl, x1, x2, x3, x4, k1, k2, k3, k4, n, cu, cr, t0, t1, r0, r1, r2, .tail _ (.tail _ (.head _)), .tail _ (.tail _ (.tail _ (.head _))), .tail _ (.head _), .head _, h0.mono sub, h1.mono sub, h2.mono sub⟩
  · simp only [List.cons_append, List.mem_cons, List.mem_append] at hq ⊢
    rcases hq with h | h | h | h | h | h | h | h | h <;> simp [h]
  · intro q hq
    simp only [List.mem_cons] at hq
    rcases hq with rfl | rfl | rfl | rfl | hq
    · exact Nat.ne_of_gt (Nat.lt_trans h137 g3)
    · exact Nat.ne_of_gt (Nat.lt_trans h137 g2)
    · exact Nat.ne_of_gt (Nat.lt_trans h137 o1)
    · exact Nat.ne_of_gt h137
    · exact hne q hq
  · intro q hq p hp
    simp only [List.mem_cons] at hq
    rcases hq with rfl | rfl | rfl | rfl | hq
    · exact Nat.lt_trans (hfd p hp) g3
    · exact Nat.lt_trans (hfd p hp) g2
    · exact Nat.lt_trans (hfd p hp) o1
    · exact hfd p hp
    · exact hfr q hq p hp
end

section
variable {w : World} {p : Program} {loose : List Str} {mean : ExcName → Option Value} {mg mb : Str → Option Value}
local macro_rules | `(tactic| k_room) => `(tactic| ktr_room)
local macro_rules | `(tactic| k_all) => `(tactic| assumption)
local macro_rules | `(tactic| walk_at "call ref") => `(tactic| ((with_reducible show wpAny _ _ (call (Value.ref 142) _) _ _ _); refine stopAt ?_))
section
variable {h₀ h : Heap} {L : Addr} {a1 a2 a3 a4 a5 a6 t b1 b2 : Addr × Obj} {new news : List (Addr × Obj)}
theorem reordA (N : News h₀ L h (a1 :: a2 :: a3 :: a4 :: a5 :: a6 :: t :: b1 :: b2 :: news)) : News h₀ L h (t :: (a1 :: a2 :: a3 :: a4 :: a5 :: a6 :: b1 :: b2 :: news)) := fun q hq => N q (by
  simp only [List.mem_cons] at hq ⊢
  rcases hq with h | h | h | h | h | h | h | h | h | h <;> simp [h])
theorem reordB (N : News h₀ L h (t :: (new ++ (a1 :: a2 :: a3 :: a4 :: a5 :: a6 :: b1 :: b2 :: news)))) : News h₀ L h (a1 :: a2 :: a3 :: a4 :: a5 :: a6 :: t :: b1 :: b2 :: (new ++ news)) := fun q hq => N q (by
  simp only [List.mem_cons, List.mem_append] at hq ⊢
  rcases hq with h | h | h | h | h | h | h | h | h | h | h <;> simp [h])
end
theorem all8 {x1 x2 x3 x4 x5 x6 x7 x8 z : Addr} {o1 o2 o3 o4 o5 o6 o7 o8 : Obj} {l : List (Addr × Obj)} (e1 : x1 ≠ z) (e2 : x2 ≠ z) (e3 : x3 ≠ z) (e4 : x4 ≠ z) (e5 : x5 ≠ z) (e6 : x6 ≠ z) (e7 : x7 ≠ z) (e8 : x8 ≠ z) (h : ∀ q ∈ l, q.1 ≠ z) :
    ∀ q ∈ (x1, o1) :: (x2, o2) :: (x3, o3) :: (x4, o4) :: (x5, o5) :: (x6, o6) :: (x7, o7) :: (x8, o8) :: l, q.1 ≠ z := fun q hq => by
  simp only [List.mem_cons] at hq
  rcases hq with rfl | rfl | rfl | rfl | rfl | rfl | rfl | rfl | hq <;> first | assumption | exact h q hq
theorem six {α : Type} {x a1 a2 a3 a4 a5 a6 : α} {l : List α} (h : x ∈ l) : x ∈ a1 :: a2 :: a3 :: a4 :: a5 :: a6 :: l := .tail _ (.tail _ (.tail _ (.tail _ (.tail _ (.tail _ h)))))
theorem two {α : Type} {x a1 a2 : α} {l l' : List α} (hs : ∀ q ∈ l, q ∈ l') (h : x ∈ a1 :: a2 :: l) : x ∈ a1 :: a2 :: l' := by
  rcases List.mem_cons.mp h with rfl | h
  · exact .head _
  · rcases List.mem_cons.mp h with rfl | h
    · exact .tail _ (.head _)
    · exact .tail _ (.tail _ (hs _ h))
theorem tabMono {news : List (Addr × Obj)} {ps : Array Value} (h : ps = #[] ∨ TabIn news ps) {news' : List (Addr × Obj)} (hs : ∀ q ∈ news, q ∈ news') : ps = #[] ∨ TabIn news' ps := h.imp id fun h => h.mono hs
set_option maxRecDepth 100000 in
set_option maxHeartbeats 8000000 in
theorem record_ok (news kp : List (Addr × Obj)) (n0 n1 n2 : List Nat) (t0 t1 t2 : Tok) (v0 v1 v2 : Bool) (ln lv : Addr) (cn9 cv9 : Nat)
  (dp un : Nat) (gd : Option (List Code)) (cn : Str) (cs : Scope) (a : Addr) (ccd : Value) (cl : List (Str × Addr)) (outer : List Env) (A₀ : Around) (base h₀ : Heap) (L : Addr) (m : Str → Option Value) (s : Shared) (Q E : Value → Shared → Prop)
  (hB : Below A₀ base outer h₀) (hF : Fr h₀ L s.heap m) (hX : (hd.heap_39 w.params).In h₀) (ps : Array Value) (hN : News h₀ L s.heap ((137, tabObj ps) :: (ln, W.listOf #[.str (S n0) t0, .str (S n1) t1, .str (S n2) t2] cn9) :: (lv, W.listOf #[.bool v0, .bool v1, .bool v2] cv9) :: news)) (hTab : ps = #[] ∨ TabIn kp ps) (hT : Top p loose mean mg mb h₀) (hcs : cs.kind = .function)
  (hC : CodeHd base 141 137) (hne : ∀ q ∈ news, q.1 ≠ 137)
  (hneA : ln ≠ 137) (hneB : lv ≠ 137)
  (hdp : dp + 20 < recursionLimit) (hun : un + 200 < cLine) (hl0 : n0.length ≤ 1000) (hl1 : n1.length ≤ 1000) (hl2 : n2.length ≤ 1000)
  (hret : ∀ x new ps h' tk', Fr h₀ L h' m → News h₀ L h' ((137, tabObj ps) :: (new ++ ((ln, W.listOf #[.str (S n0) t0, .str (S n1) t1, .str (S n2) t2] cn9) :: (lv, W.listOf #[.bool v0, .bool v1, .bool v2] cv9) :: news))) → (∀ q ∈ new, q.1 ≠ 137) → (∀ q ∈ new, ∀ p ∈ (ln, W.listOf #[.str (S n0) t0, .str (S n1) t1, .str (S n2) t2] cn9) :: (lv, W.listOf #[.bool v0, .bool v1, .bool v2] cv9) :: news, p.1 < q.1) → TabIn (new ++ kp) ps → RecIn w p loose mean mg mb (new ++ kp) x n0 n1 n2 v0 v1 v2 → Q (.ref x) { s with heap := h', toks := tk' }) :
  wpAny (model PySem.Challenge.rw_ny0077_01.row.prog w) (ktrTop dp un gd cn cs L a ccd cl outer) (call (.ref 149) [.ref ln, .ref lv]) Q E s := by
  w_on
  revert hX; k_fill; intro hX
  refine wpAny_call ?_
  w_strict (k_dflt cell_enter)
  k_steps
  rename News _ _ _ _ => N1
  rename Fr _ _ _ _ => F1
  have hlt1 := fun q hq => Heap.lt_size (N1 q hq).1
  refine extend_led (pre := [_, _]) F1 N1 ?e1 ?e2 (N1 _ (.head _)).1 (by show 2 ≤ 1000; decide) ?_
  case e1 => k_all
  case e2 => k_all
  intro h2 c2 F2 N2
  simp only [List.cons_append, List.nil_append] at N2
  clear F1 N1 hlt1
  rename (@LT.lt Nat _ 137 _ ∧ ln < _ ∧ lv < _ ∧ AllLt _ news) => fD
  obtain ⟨h137, fD1, fD2, fD3⟩ := fD
  have hfd := kst_ltOf (l := (ln, W.listOf #[.str (S n0) t0, .str (S n1) t1, .str (S n2) t2] cn9) :: (lv, W.listOf #[.bool v0, .bool v1, .bool v2] cv9) :: news) ⟨fD1, fD2, fD3⟩
  obtain ⟨x1, x2, x3, x4, k1, k2, k3, k4, nd, N2⟩ : ∃ x1 x2 x3 x4 k1 k2 k3 k4 nd, News _ _ _ (_ :: _ :: _ :: _ :: (_, dictOf (recDict x1 x2 x3 x4 k1 k2 k3 k4 _ _) nd) :: _) := ⟨_, _, _, _, _, _, _, _, _, N2⟩
  dsimp only
  k_steps
  refine StopAt.out ?_
  rename News _ _ _ _ => N3
  rename Fr _ _ _ _ => F3
  rename (_ ∧ _ ∧ _ ∧ _ ∧ _ ∧ _ ∧ _ ∧ _ ∧ AllLt _ news) => lI
  rename (_ ∧ _ ∧ _ ∧ _ ∧ _ ∧ _ ∧ AllLt _ news) => lR
  rename (_ ∧ _ ∧ _ ∧ _ ∧ _ ∧ AllLt _ news) => lU
  rename (_ ∧ _ ∧ _ ∧ _ ∧ _ ∧ _ ∧ _ ∧ AllLt _ news) => lD
  have nI := Nat.ne_of_gt lI.2.2.2.2.2.1
  have nD := Nat.ne_of_gt lD.2.2.2.2.1
  have nR := Nat.ne_of_gt lR.2.2.2.1
  have nU := Nat.ne_of_gt lU.2.2.1
  have nDx := Nat.ne_of_gt h137
  have hI := kst_ltOf lI.2.2.2.2.2.2.2.2
  have hR := kst_ltOf lR.2.2.2.2.2.2
  k_dflt (refine' rule_ok _ kp n0 t0 v0 _ _ _ _ _ _ _ _ _ _ _ _ _ _ _ _ _ ?mB F3 ?mX ps (reordA N3) hTab ?mT rfl hC ?m2 ?m3 ?m4 hl0 ?_; (case mB => k_asm); (case mX => k_asm); (case mT => k_asm))
  case m3 => ktr_room
  case m4 => ktr_units
  case m2 => exact all8 nI nD nR nU (Nat.ne_of_gt (Nat.lt_trans h137 (by assumption))) nDx hneA hneB hne
  intro r0 new0 ps0 h4 tk4 F4 N4 hn40 hg4 hT0 hR0
  have N5 := reordB N4
  have eI0 := fun p (hp : p ∈ new0 ++ news) => (List.mem_append.mp hp).elim (fun h => Nat.ne_of_gt (hg4 p h _ (.head _))) (fun h => Nat.ne_of_lt (hI p h))
  have eR0 := fun p (hp : p ∈ new0 ++ news) => (List.mem_append.mp hp).elim (fun h => Nat.ne_of_gt (hg4 p h _ (.tail _ (.tail _ (.head _))))) (fun h => Nat.ne_of_lt (hR p h))
  have eT0 := fun p (hp : p ∈ new0 ++ news) => (List.mem_append.mp hp).elim (fun h => hn40 p h) (fun h => hne p h)
  dsimp only at eI0 eR0 eT0
  have hsub0 : ∀ p ∈ news, p ∈ new0 ++ news := fun p h => List.mem_append_right _ h
  have fr0 : ∀ q ∈ new0, ∀ p ∈ (ln, W.listOf #[.str (S n0) t0, .str (S n1) t1, .str (S n2) t2] cn9) :: (lv, W.listOf #[.bool v0, .bool v1, .bool v2] cv9) :: news, p.1 < q.1 := fun q hq p hp => hg4 q hq p (six hp)
  generalize hn1 : new0 ++ news = news1 at N5 eI0 eR0 eT0 hsub0
  generalize hk1 : new0 ++ kp = kp1 at hT0 hR0
  clear N4 hg4 F3 N3
  k_steps
  rename News _ _ _ _ => NU1
  rename Fr _ _ _ _ => FU1
  refine UnrEnd.intro FU1 NU1 _ (fun _ h => h) (all8 (Nat.ne_of_lt lI.1) (Nat.ne_of_lt lI.2.1) (Nat.ne_of_lt lI.2.2.1) (Nat.ne_of_lt lI.2.2.2.1) (Nat.ne_of_lt lI.2.2.2.2.1) (Nat.ne_of_lt lI.2.2.2.2.2.1) (Nat.ne_of_lt lI.2.2.2.2.2.2.1) (Nat.ne_of_lt lI.2.2.2.2.2.2.2.1) eI0) ?_
  refine RangeRest.succ ?_
  intro tq1 hq1 tkq1 FQ1 NQ1
  clear FU1 NU1
  k_steps
  refine StopAt.out ?_
  rename News _ _ _ _ => N3
  rename Fr _ _ _ _ => F3
  k_dflt (refine' rule_ok _ kp1 n1 t1 v1 _ _ _ _ _ _ _ _ _ _ _ _ _ _ _ _ _ ?mB F3 ?mX ps0 (reordA N3) (.inr hT0) ?mT rfl hC ?m2 ?m3 ?m4 hl1 ?_; (case mB => k_asm); (case mX => k_asm); (case mT => k_asm))
  case m3 => ktr_room
  case m4 => ktr_units
  case m2 => exact all8 nI nD nR nU (Nat.ne_of_gt (Nat.lt_trans h137 (by assumption))) nDx hneA hneB eT0
  intro r1 new1 ps1 h41 tk41 F41 N4 hn41 hg4 hT1 hR1
  have N51 := reordB N4
  have eI1 := fun p (hp : p ∈ new1 ++ news1) => (List.mem_append.mp hp).elim (fun h => Nat.ne_of_gt (hg4 p h _ (.head _))) (fun h => eI0 p h)
  have eR1 := fun p (hp : p ∈ new1 ++ news1) => (List.mem_append.mp hp).elim (fun h => Nat.ne_of_gt (hg4 p h _ (.tail _ (.tail _ (.head _))))) (fun h => eR0 p h)
  have eT1 := fun p (hp : p ∈ new1 ++ news1) => (List.mem_append.mp hp).elim (fun h => hn41 p h) (fun h => eT0 p h)
  have hsub1 : ∀ p ∈ news1, p ∈ new1 ++ news1 := fun p h => List.mem_append_right _ h
  dsimp only at eI1 eR1 eT1
  clear eI0 eR0 eT0
  have fr1 : ∀ q ∈ new1, ∀ p ∈ (ln, W.listOf #[.str (S n0) t0, .str (S n1) t1, .str (S n2) t2] cn9) :: (lv, W.listOf #[.bool v0, .bool v1, .bool v2] cv9) :: news, p.1 < q.1 := fun q hq p hp => hg4 q hq p (six (two hsub0 hp))
  generalize hn2 : new1 ++ news1 = news2 at N51 eI1 eR1 eT1 hsub1
  generalize hk2 : new1 ++ kp1 = kp2 at hT1 hR1
  clear N4 hg4 F3 N3
  k_steps
  rename News _ _ _ _ => NU2
  rename Fr _ _ _ _ => FU2
  refine UnrEnd.intro FU2 NU2 _ (fun _ h => h) (all8 (Nat.ne_of_lt lI.1) (Nat.ne_of_lt lI.2.1) (Nat.ne_of_lt lI.2.2.1) (Nat.ne_of_lt lI.2.2.2.1) (Nat.ne_of_lt lI.2.2.2.2.1) (Nat.ne_of_lt lI.2.2.2.2.2.1) (Nat.ne_of_lt lI.2.2.2.2.2.2.1) (Nat.ne_of_lt lI.2.2.2.2.2.2.2.1) eI1) ?_
  refine RangeRest.succ ?_
  intro tq2 hq2 tkq2 FQ2 NQ2
  clear FU2 NU2
  k_steps
  refine StopAt.out ?_
  rename News _ _ _ _ => N3
  rename Fr _ _ _ _ => F3
  k_dflt (refine' rule_ok _ kp2 n2 t2 v2 _ _ _ _ _ _ _ _ _ _ _ _ _ _ _ _ _ ?mB F3 ?mX ps1 (reordA N3) (.inr hT1) ?mT rfl hC ?m2 ?m3 ?m4 hl2 ?_; (case mB => k_asm); (case mX => k_asm); (case mT => k_asm))
  case m3 => ktr_room
  case m4 => ktr_units
  case m2 => exact all8 nI nD nR nU (Nat.ne_of_gt (Nat.lt_trans h137 (by assumption))) nDx hneA hneB eT1
  intro r2 new2 ps2 h42 tk42 F42 N4 hn42 hg4 hT2 hR2
  have N52 := reordB N4
  have eI2 := fun p (hp : p ∈ new2 ++ news2) => (List.mem_append.mp hp).elim (fun h => Nat.ne_of_gt (hg4 p h _ (.head _))) (fun h => eI1 p h)
  have eR2 := fun p (hp : p ∈ new2 ++ news2) => (List.mem_append.mp hp).elim (fun h => Nat.ne_of_gt (hg4 p h _ (.tail _ (.tail _ (.head _))))) (fun h => eR1 p h)
  have eT2 := fun p (hp : p ∈ new2 ++ news2) => (List.mem_append.mp hp).elim (fun h => hn42 p h) (fun h => eT1 p h)
  have hsub2 : ∀ p ∈ news2, p ∈ new2 ++ news2 := fun p h => List.mem_append_right _ h
  dsimp only at eI2 eR2 eT2
  clear eI1 eR1 eT1
  have fr2 : ∀ q ∈ new2, ∀ p ∈ (ln, W.listOf #[.str (S n0) t0, .str (S n1) t1, .str (S n2) t2] cn9) :: (lv, W.listOf #[.bool v0, .bool v1, .bool v2] cv9) :: news, p.1 < q.1 := fun q hq p hp => hg4 q hq p (six (two (fun q h => hsub1 q (hsub0 q h)) hp))
  generalize hn3 : new2 ++ news2 = news3 at N52 eI2 eR2 eT2 hsub2
  generalize hk3 : new2 ++ kp2 = kp3 at hT2 hR2
  clear N4 hg4 F3 N3
  k_steps
  rename News _ _ _ _ => NU3
  rename Fr _ _ _ _ => FU3
  refine UnrEnd.intro FU3 NU3 _ (fun _ h => h) (all8 (Nat.ne_of_lt lI.1) (Nat.ne_of_lt lI.2.1) (Nat.ne_of_lt lI.2.2.1) (Nat.ne_of_lt lI.2.2.2.1) (Nat.ne_of_lt lI.2.2.2.2.1) (Nat.ne_of_lt lI.2.2.2.2.2.1) (Nat.ne_of_lt lI.2.2.2.2.2.2.1) (Nat.ne_of_lt lI.2.2.2.2.2.2.2.1) eI2) ?_
  refine RangeRest.zero ?_
  intro hq3 tkq3 FQ3 NQ3
  clear FU3 NU3
  k_steps
  rename News _ _ _ _ => NE
  subst hn3 hn2 hn1 hk3 hk2 hk1
  have e1 : ∀ z : List (Addr × Obj), new2 ++ (new1 ++ (new0 ++ z)) = (new2 ++ (new1 ++ new0)) ++ z := fun z => by simp only [List.append_assoc]
  have hR0' := hR0.mono (news' := new2 ++ (new1 ++ (new0 ++ kp))) fun q h => List.mem_append_right _ (List.mem_append_right _ h)
  have hR1' := hR1.mono (news' := new2 ++ (new1 ++ (new0 ++ kp))) fun q h => List.mem_append_right _ h
  rw [e1] at NE hT2 hR2 hR0' hR1'
  refine rec_fin hret (by k_asm) NE hT2 hR0' hR1' hR2 (fun q hq => ?_) (fun q hq => ?_) h137 hfd (by assumption) ?_ ?_
  · rcases List.mem_append.mp hq with h | h
    · exact hn42 q h
    · rcases List.mem_append.mp h with h | h
      · exact hn41 q h
      · exact hn40 q h
  · rcases List.mem_append.mp hq with h | h
    · exact fr2 q h
    · rcases List.mem_append.mp h with h | h
      · exact fr1 q h
      · exact fr0 q h
  · exact lU.1
  · exact lR.1
end

section
variable {w : World} {p : Program} {loose : List Str} {mean : ExcName → Option Value} {mg mb : Str → Option Value}
local macro_rules | `(tactic| walk_at "pyIter ref") => `(tactic| refine stopAt ?_)
local macro_rules | `(tactic| k_all) => `(tactic| assumption)
set_option maxRecDepth 100000 in
set_option maxHeartbeats 8000000 in
theorem applies_ok (news : List (Addr × Obj)) (x : Addr) (n0 n1 n2 : List Nat) (v0 v1 v2 : Bool) (u : List Nat) (t : Tok)
  (dp un : Nat) (gd : Option (List Code)) (cn : Str) (cs : Scope) (a : Addr) (ccd : Value) (cl : List (Str × Addr)) (outer : List Env) (A₀ : Around) (base h₀ : Heap) (L : Addr) (m : Str → Option Value) (s : Shared) (Q E : Value → Shared → Prop)
  (hB : Below A₀ base outer h₀) (hF : Fr h₀ L s.heap m) (hX : (hd.heap_39 w.params).In h₀) (hN : News h₀ L s.heap news) (hR : RecIn w p loose mean mg mb news x n0 n1 n2 v0 v1 v2) (hT : Top p loose mean mg mb h₀) (hcs : cs.kind = .function)
  (hdp : dp + 20 < recursionLimit) (hun : un + 200 < cLine) (hl0 : n0.length ≤ 1000) (hl1 : n1.length ≤ 1000) (hu : u.length ≤ 1000) (ha0 : ∀ c ∈ n0, c < 128) (ha1 : ∀ c ∈ n1, c < 128) (hau : ∀ c ∈ u, c < 128)
  (hret : ∀ (b : Bool) h' tk', (b = true ↔ inL (n0.map lo1) ((u.takeWhile (· != 47)).map lo1) ∨ inL (n1.map lo1) ((u.takeWhile (· != 47)).map lo1)) → Fr h₀ L h' m → News h₀ L h' news → Q (.bool b) { s with heap := h', toks := tk' })
  (hs0 : n0 ≠ [42]) (hs1 : n1 ≠ [42]) :
  wpAny (model PySem.Challenge.rw_ny0077_01.row.prog w) (ktrTop dp un gd cn cs L a ccd cl outer) (call (.ref 42) [.ref x, .str (S u) t]) Q E s := by
  w_on
  revert hX; k_fill; intro hX
  obtain ⟨dx, ua, rl, x1, x2, x3, x4, k1, k2, k3, k4, n, cu, cr, t0, t1, r0, r1, r2, m1, m2, m3, m4, h0, h1, h2⟩ := hR
  have htw : (u.takeWhile (· != 47)).length ≤ 1000 := Nat.le_trans (List.takeWhile_prefix _).length_le hu
  have hatw : ∀ c ∈ u.takeWhile (· != 47), c < 128 := fun c hc => hau c ((List.takeWhile_prefix _).subset hc)
  have hN2 : News h₀ L s.heap ((x, instObj 52 dx) :: (dx, dictOf (recDict x1 x2 x3 x4 k1 k2 k3 k4 ua rl) n) :: (ua, W.listOf #[.str (S n0) t0, .str (S n1) t1] cu) :: news) := fun q hq => by
    simp only [List.mem_cons] at hq
    rcases hq with rfl | rfl | rfl | hq
    · exact hN _ m1
    · exact hN _ m2
    · exact hN _ m3
    · exact hN _ hq
  clear hN
  refine wpAny_call ?_
  w_strict (k_dflt cell_enter)
  k_steps
  refine StopAt.out ?_
  rename News _ _ _ _ => N1
  rename Fr _ _ _ _ => F1
  refine iter_listUnr (vs := [_, _]) rfl F1 N1 (.tail _ (.tail _ (.tail _ (.head _)))) rfl rfl (fun I hI => ?_)
  refine ListRest.succ ?_
  intro it1 h1' tk1 hit1 F2 N2
  clear F1 N1
  k_steps
  · rename (_ = true ↔ _) => hb
    exact hret true _ _ (iff_of_true rfl (.inl (hb.mp (by assumption)))) (by k_asm) (cb_drop (by assumption) fun q h => by simp [h])
  rename (_ = true ↔ _) => hb0
  have hb0' : ¬ inL (n0.map lo1) ((u.takeWhile (· != 47)).map lo1) := fun h => absurd (hb0.mpr h) (by rw [Bool.not_eq_true]; assumption)
  rename News _ _ _ _ => N3
  rename Fr _ _ _ _ => F3
  refine UnrEnd.intro F3 N3 _ (fun _ h => h) (fun q hq => Nat.ne_of_lt (hI q hq)) ⟨.tail _ (.tail _ (.tail _ (.head _))), ?_⟩
  refine ListRest.succ ?_
  intro it2 h2' tk2 hit2 F4 N4
  clear F3 N3
  k_steps
  · rename (_ = true ↔ inL (n1.map lo1) _) => hb
    exact hret true _ _ (iff_of_true rfl (.inr (hb.mp (by assumption)))) (by k_asm) (cb_drop (by assumption) fun q h => by simp [h])
  rename (_ = true ↔ inL (n1.map lo1) _) => hb1
  have hb1' : ¬ inL (n1.map lo1) ((u.takeWhile (· != 47)).map lo1) := fun h => absurd (hb1.mpr h) (by rw [Bool.not_eq_true]; assumption)
  rename News _ _ _ _ => N5
  rename Fr _ _ _ _ => F5
  refine UnrEnd.intro F5 N5 _ (fun _ h => h) (fun q hq => Nat.ne_of_lt (hI q hq)) ⟨.tail _ (.tail _ (.tail _ (.head _))), ?_⟩
  refine ListRest.zero ?_
  intro h3' tk3 F6 N6
  clear F5 N5
  k_steps
  exact hret false _ _ (iff_of_false (by decide) (fun h => h.elim hb0' hb1')) (by k_asm) (cb_drop (by assumption) fun q h => by simp [h])
end

section
variable {w : World} {p : Program} {loose : List Str} {mean : ExcName → Option Value} {mg mb : Str → Option Value}
local macro_rules | `(tactic| walk_at "pyIter ref") => `(tactic| refine stopAt ?_)
local macro_rules | `(tactic| walk_at "getMethod ref") => `(tactic| refine stopAt ?_)
local macro_rules | `(tactic| walk_at "getAttr ref") => `(tactic| ((with_reducible show wpAny _ _ (getAttr _ (Str.ofString "allowance") _) _ _ _); refine stopAt ?_))
local macro_rules | `(tactic| walk_at "JEnd") => `(tactic| refine stopAt ?_)
local macro_rules | `(tactic| walk_at "JPost") => `(tactic| dsimp only [JPost])
local macro_rules | `(tactic| walk_at "call ref") => `(tactic| refine stopAt ?_)
def alStep (u : List Nat) (st : Int × Bool) (l : List Nat) (v : Bool) : Int × Bool :=
  if l <+: u then (if (l.length : Int) + 1 > st.1 then ((l.length : Int) + 1, v) else if (l.length : Int) + 1 = st.1 ∧ st.2 = false then (st.1, v) else st) else st
def alRun (u : List Nat) : List (Addr × List Nat × Bool) → Int × Bool → Int × Bool
  | [], st => st
  | b :: r, st => alRun u r (alStep u st b.2.1 b.2.2)
local macro_rules | `(tactic| k_all) => `(tactic| assumption)
set_option maxRecDepth 100000 in
set_option maxHeartbeats 8000000 in
theorem allowance_ok (news : List (Addr × Obj)) (x : Addr) (n0 n1 n2 : List Nat) (v0 v1 v2 : Bool) (u : List Nat) (t : Tok)
  (dp un : Nat) (gd : Option (List Code)) (cn : Str) (cs : Scope) (a : Addr) (ccd : Value) (cl : List (Str × Addr)) (outer : List Env) (A₀ : Around) (base h₀ : Heap) (L : Addr) (m : Str → Option Value) (s : Shared) (Q E : Value → Shared → Prop)
  (hB : Below A₀ base outer h₀) (hF : Fr h₀ L s.heap m) (hX : (hd.heap_39 w.params).In h₀) (hN : News h₀ L s.heap news) (hR : RecIn w p loose mean mg mb news x n0 n1 n2 v0 v1 v2) (hT : Top p loose mean mg mb h₀) (hcs : cs.kind = .function)
  (hdp : dp + 20 < recursionLimit) (hun : un + 200 < cLine) (hl0 : n0.length ≤ 1000) (hl1 : n1.length ≤ 1000) (hl2 : n2.length ≤ 1000) (hu : u.length ≤ 1000)
  (hret : ∀ h' tk', Fr h₀ L h' m → News h₀ L h' news → Q (.bool (alRun u [(0, n0, v0), (0, n1, v1), (0, n2, v2)] (-1, true)).2) { s with heap := h', toks := tk' }) :
  wpAny (model PySem.Challenge.rw_ny0077_01.row.prog w) (ktrTop dp un gd cn cs L a ccd cl outer) (call (.ref 49) [.ref x, .str (S u) t]) Q E s := by
  w_on
  revert hX; k_fill; intro hX
  obtain ⟨dx, ua, rl, x1, x2, x3, x4, k1, k2, k3, k4, n, cu, cr, t0, t1, r0, r1, r2, m1, m2, m3, m4, h0, h1, h2⟩ := hR
  have hN2 : News h₀ L s.heap ((x, instObj 52 dx) :: (dx, dictOf (recDict x1 x2 x3 x4 k1 k2 k3 k4 ua rl) n) :: (rl, W.listOf #[.ref r0, .ref r1, .ref r2] cr) :: news) := fun q hq => by
    simp only [List.mem_cons] at hq
    rcases hq with rfl | rfl | rfl | hq
    · exact hN _ m1
    · exact hN _ m2
    · exact hN _ m4
    · exact hN _ hq
  clear hN
  refine wpAny_call ?_
  w_strict (k_dflt cell_enter)
  rename_i g'0 L'0 _ _ _ _ _ _ _
  k_steps
  refine StopAt.out ?_
  rename News _ _ _ _ => N1
  rename Fr _ _ _ _ => F1
  refine loopVals (σ := Int × Tok × Bool) (β := Addr × List Nat × Bool) (fun c => [(Str.ofString "best_match", .int c.1 c.2.1), (Str.ofString "allowance", .bool c.2.2)]) [Str.ofString "m"] (fun b => .ref b.1) [(r0, n0, v0), (r1, n1, v1), (r2, n2, v2)]
    (fun rest c => (∀ b ∈ rest, RuleIn w p loose mean mg mb news b.1 b.2.1 b.2.2 ∧ b.2.1.length ≤ 1000) ∧ alRun u rest (c.1, c.2.2) = alRun u [(r0, n0, v0), (r1, n1, v1), (r2, n2, v2)] (-1, true)) (-1, ?t1, true) rfl F1 N1 (.tail _ (.tail _ (.head _))) ?hk ?hp ?turn ?done
  case hk => kst_all
  case hp =>
    refine ⟨fun b hb => ?_, rfl⟩
    simp only [List.mem_cons, List.not_mem_nil, or_false] at hb
    rcases hb with rfl | rfl | rfl
    · exact ⟨h0, hl0⟩
    · exact ⟨h1, hl1⟩
    · exact ⟨h2, hl2⟩
  case turn =>
    rintro I ⟨r, l, v⟩ rest ⟨best, tb, al⟩ u9 it h9 tk9 hI ⟨hru, hrun⟩ F2 N2
    obtain ⟨hrule, hll⟩ := hru (r, l, v) (.head _)
    obtain ⟨fd, d, y1, j1, y2, j2, nn, g, objs, q1, q2, q3, hlam, og, fdg, q4, eg⟩ := hrule
    have hFn : ∀ h, News g'0 L'0 h ((I, it) :: (x, instObj 52 dx) :: (dx, dictOf (recDict x1 x2 x3 x4 k1 k2 k3 k4 ua rl) n) :: (rl, W.listOf #[.ref r0, .ref r1, .ref r2] cr) :: news) → FnAt g h := fun h N => by
      obtain ⟨oc, od, dt, sl⟩ := og
      dsimp only at eg
      subst eg
      exact FnAt.of N (.tail _ (.tail _ (.tail _ (.tail _ q4))))
    dsimp only at *
    clear F1 N1
    k_steps
    refine StopAt.out ?_
    refine fn_method (N2 _ (.tail _ (.tail _ (.tail _ (.tail _ q1))))).1 (N2 _ (.tail _ (.tail _ (.tail _ (.tail _ q2))))).1 (by with_unfolding_all rfl) rfl fn_no_applies ?_
    dsimp only
    refine callWith_F (hFn _ N2) ?_
    k_steps
    · exact hFn _ N2
    refine StopAt.out ?_
    have hsub9 : ∀ q ∈ objs, q ∈ (I, it) :: (x, instObj 52 dx) :: (dx, dictOf (recDict x1 x2 x3 x4 k1 k2 k3 k4 ua rl) n) :: (rl, W.listOf #[.ref r0, .ref r1, .ref r2] cr) :: news := fun q hq => .tail _ (.tail _ (.tail _ (.tail _ (q3 q hq))))
    unfold LamOk at hlam
    k_dflt (refine' hlam _ u t _ _ _ _ _ _ _ _ _ _ _ _ _ _ _ _ _ hsub9 ?mB F2 ?mX N2 ?mT rfl hu ?m3 ?m4 ?_; (case mB => k_asm); (case mX => k_asm); (case mT => k_asm); (case m3 => ktr_room); (case m4 => ktr_units))
    intro tm hm tkm F3 N3
    dsimp only
    clear F2 N2 hlam
    by_cases hpre : l <+: u
    · rw [if_pos hpre]
      have hst : ∀ st, alStep u (best, al) l v = st → alRun u rest st = alRun u [(r0, n0, v0), (r1, n1, v1), (r2, n2, v2)] (-1, true) := fun st e => by rw [← e]; exact hrun
      unfold alStep at hst
      rw [if_pos hpre] at hst
      k_steps
      · refine StopAt.out ?_
        rename News _ _ _ _ => N4
        refine fn_get (N4 _ (.tail _ (.tail _ (.tail _ (.tail _ q1))))).1 (N4 _ (.tail _ (.tail _ (.tail _ (.tail _ q2))))).1 (by with_unfolding_all rfl) rfl fn_no_allowance ?_
        dsimp only
        k_steps
        refine StopAt.out ?_
        exact jEnd (_, _, _) (by assumption) (by assumption) ⟨fun b hb => hru b (.tail _ hb), hst _ (by rw [if_pos (by assumption)])⟩ (by kst_all) (by kst_same)
      · refine StopAt.out ?_
        exact jEnd (_, _, _) (by assumption) (by assumption) ⟨fun b hb => hru b (.tail _ hb), hst _ (by rw [if_neg (by dsimp only; omega), if_neg (fun h => by simp_all)])⟩ (by kst_all) (by kst_same)
      · refine StopAt.out ?_
        rename News _ _ _ _ => N4
        refine fn_get (N4 _ (.tail _ (.tail _ (.tail _ (.tail _ q1))))).1 (N4 _ (.tail _ (.tail _ (.tail _ (.tail _ q2))))).1 (by with_unfolding_all rfl) rfl fn_no_allowance ?_
        dsimp only
        k_steps
        refine StopAt.out ?_
        exact jEnd (_, _, _) (by assumption) (by assumption) ⟨fun b hb => hru b (.tail _ hb), hst _ (by rw [if_neg (by dsimp only; omega), if_pos ⟨by assumption, by assumption⟩])⟩ (by kst_all) (by kst_same)
      · refine StopAt.out ?_
        exact jEnd (_, _, _) (by assumption) (by assumption) ⟨fun b hb => hru b (.tail _ hb), hst _ (by rw [if_neg (by dsimp only; omega), if_neg (fun h => absurd h.1 (by assumption))])⟩ (by kst_all) (by kst_same)
      · exfalso; omega
    · rw [if_neg hpre]
      have hst : alRun u rest (best, al) = alRun u [(r0, n0, v0), (r1, n1, v1), (r2, n2, v2)] (-1, true) := by
        rw [← hrun]
        show _ = alRun u rest (alStep u (best, al) l v)
        unfold alStep
        rw [if_neg hpre]
      k_steps
      refine StopAt.out ?_
      exact jEnd (_, _, _) (by assumption) (by assumption) ⟨fun b hb => hru b (.tail _ hb), hst⟩ (by kst_all) (by kst_same)
  case done =>
    rintro ⟨best, tb, al⟩ u9 h9 tk9 ⟨-, hrun⟩ F2 N2
    dsimp only at *
    clear F1 N1
    k_steps
    have e : al = (alRun u [(0, n0, v0), (0, n1, v1), (0, n2, v2)] (-1, true)).2 := congrArg Prod.snd hrun
    rw [e]
    exact hret _ _ (by k_asm) (cb_drop (by assumption) fun q h => by simp [h])
end

section
variable {w : World} {p : Program} {loose : List Str} {mean : ExcName → Option Value} {mg mb : Str → Option Value}
local macro_rules | `(tactic| walk_at "exec For Name Call cons nil") => `(tactic| (k_here; (rename Fr _ _ _ _ => lF'); (with_unfolding_all refine' For_invVF lF' ?k1 ?k2 ?_; (case k1 => exact rfl); (case k2 => exact rfl); k_whole)))
local macro_rules | `(tactic| walk_at "exec For Name Name cons nil") => `(tactic| (k_here; (rename Fr _ _ _ _ => lF'); (with_unfolding_all refine' For_invVF lF' ?k1 ?k2 ?_; (case k1 => exact rfl); (case k2 => exact rfl); k_whole)))
local macro_rules | `(tactic| walk_at "exec For Name Subscript cons nil") => `(tactic| (k_here; (rename Fr _ _ _ _ => lF'); (with_unfolding_all refine' For_invVF lF' ?k1 ?k2 ?_; (case k1 => exact rfl); (case k2 => exact rfl); k_whole)))
local macro_rules | `(tactic| walk_at "pyIter str") => `(tactic| refine stopAt ?_)
local macro_rules | `(tactic| walk_at "pyIter ref") => `(tactic| refine stopAt ?_)
local macro_rules | `(tactic| walk_at "InvEndN") => `(tactic| refine stopAt ?_)
local macro_rules | `(tactic| k_all) => `(tactic| assumption)
local macro_rules | `(tactic| walk_at "subscriptTail Name Slice str ref") => `(tactic| (k_here; (with_reducible rename Fr _ _ _ _ => F'); (with_reducible rename News _ _ _ _ => N'); ((with_reducible show wpAny _ _ (subscriptTail _ (Expr.Slice (some _) (some _) none _) _ _) _ _ _); (refine sl_ssP (s := ⟨_, _, _, _, _⟩) ?a0 F' N' ?a1 ?a2 ?a3 ?_); (case a0 => (dsimp only; omega)); (case a1 => size_fits); (case a2 => size_fits); (case a3 => size_fits)); intro h' t9' k9' hk9' F' N'))
local macro_rules | `(tactic| walk_at "CompEnd") => `(tactic| (k_here; (with_reducible rename News _ _ _ _ => nC'); refine LCg.CompEnd.intro (by assumption) nC' _ (fun _ h => h) (by assumption) (by first | exact True.intro | lcg_src) ⟨rfl, ?_⟩))
def frontL : List Nat → List Nat
  | [] => []
  | c :: r => if c = 47 then [] else (if c = 65 then 97 else c) :: frontL r
theorem frontL_len : ∀ l : List Nat, (frontL l).length ≤ l.length
  | [] => Nat.le_refl _
  | c :: r => by
    have := frontL_len r
    by_cases h : c = 47 <;> simp [frontL, h] <;> omega
def hitL (a f : List Nat) : Prop := ∃ j, j < f.length + 1 ∧ (f.drop j).take a.length = subL 65 [97] a
theorem hit_yes {f ag : List Nat} {st : Bool} {k : Int} {i : Nat} (he : k = 0 + (i : Int)) (hp : (f.drop k.toNat).take ((k + (ag.length : Int)).toNat - k.toNat) = subL 65 [97] ag) :
    true = true ↔ (st = true ∨ ∃ j, j < i + 1 ∧ (f.drop j).take ag.length = subL 65 [97] ag) := by
  have e1 : k.toNat = i := by omega
  have e2 : (k + (ag.length : Int)).toNat - i = ag.length := by omega
  rw [e1, e2] at hp
  exact iff_of_true rfl (.inr ⟨i, Nat.lt_succ_self _, hp⟩)
theorem hit_no {f ag : List Nat} {st c : Bool} {k : Int} {i : Nat} (he : k = 0 + (i : Int)) (hp : ¬ (f.drop k.toNat).take ((k + (ag.length : Int)).toNat - k.toNat) = subL 65 [97] ag) (hi : c = true ↔ (st = true ∨ ∃ j, j < i ∧ (f.drop j).take ag.length = subL 65 [97] ag)) :
    c = true ↔ (st = true ∨ ∃ j, j < i + 1 ∧ (f.drop j).take ag.length = subL 65 [97] ag) := by
  have e1 : k.toNat = i := by omega
  have e2 : (k + (ag.length : Int)).toNat - i = ag.length := by omega
  rw [e1, e2] at hp
  rw [hi]
  constructor
  · rintro (h | ⟨j, hj, h⟩)
    · exact .inl h
    · exact .inr ⟨j, Nat.lt_succ_of_lt hj, h⟩
  · rintro (h | ⟨j, hj, h⟩)
    · exact .inl h
    · by_cases e : j = i
      · subst e; exact absurd h hp
      · exact .inr ⟨j, by omega, h⟩
theorem hit_step {f ag n0 n1 : List Nat} {tag : Tok} {rest : List (List Nat × Tok)} {st c : Bool} (hi : c = true ↔ (st = true ∨ ∃ j, j < ((f.length : Int) + 1 - 0).toNat ∧ (f.drop j).take ag.length = subL 65 [97] ag))
    (hrun : (st = true ∨ ∃ b, b ∈ (ag, tag) :: rest ∧ hitL b.1 f) ↔ (hitL n0 f ∨ hitL n1 f)) : (c = true ∨ ∃ b, b ∈ rest ∧ hitL b.1 f) ↔ (hitL n0 f ∨ hitL n1 f) := by
  rw [← hrun, hi]
  have e : ((f.length : Int) + 1 - 0).toNat = f.length + 1 := by omega
  rw [e]
  constructor
  · rintro ((h | h) | ⟨b, hb, h⟩)
    · exact .inl h
    · exact .inr ⟨(ag, tag), .head _, h⟩
    · exact .inr ⟨b, .tail _ hb, h⟩
  · rintro (h | ⟨b, hb, h⟩)
    · exact .inl (.inl h)
    · rcases List.mem_cons.mp hb with rfl | hb
      · exact .inl (.inr h)
      · exact .inr ⟨b, hb, h⟩
local macro_rules | `(tactic| walk_at "JEnd") => `(tactic| refine stopAt ?_)
local macro_rules | `(tactic| walk_at "JPost") => `(tactic| dsimp only [JPost])
local macro_rules | `(tactic| walk_at "eval ListComp") => `(tactic| refine stopAt ?_)
local macro_rules | `(tactic| walk_at "call builtin:max") => `(tactic| refine stopAt ?_)
local macro_rules | `(tactic| walk_at "binaryOp Add ref ref") => `(tactic| refine stopAt ?_)
local macro_rules | `(tactic| walk_at "compareOp Eq ref ref") => `(tactic| refine stopAt ?_)
local macro_rules | `(tactic| walk_at "compareOp In bool ref") => `(tactic| refine stopAt ?_)
local macro_rules | `(tactic| walk_at "CompSrcT") => `(tactic| refine stopAt ?_)
local macro_rules | `(tactic| walk_at "CompSrc") => `(tactic| refine stopAt ?_)
set_option maxRecDepth 100000 in
set_option maxHeartbeats 8000000 in
theorem due_ok (news : List (Addr × Obj)) (ln lv : Addr) (n0 n1 n2 : List Nat) (t0 t1 t2 : Tok) (v0 v1 v2 : Bool) (cn0 cv0 : Nat) (l : List Nat) (t : Tok)
  (dp un : Nat) (gd : Option (List Code)) (cn : Str) (cs : Scope) (a : Addr) (ccd : Value) (cl : List (Str × Addr)) (outer : List Env) (A₀ : Around) (base h₀ : Heap) (L : Addr) (m : Str → Option Value) (s : Shared) (Q E : Value → Shared → Prop)
  (hB : Below A₀ base outer h₀) (hF : Fr h₀ L s.heap m) (hX : (hd.heap_39 w.params).In h₀) (hN : News h₀ L s.heap ((ln, W.listOf #[.str (S n0) t0, .str (S n1) t1, .str (S n2) t2] cn0) :: (lv, W.listOf #[.bool v0, .bool v1, .bool v2] cv0) :: news)) (hT : Top p loose mean mg mb h₀) (hcs : cs.kind = .function)
  (hdp : dp + 20 < recursionLimit) (hun : un + 200 < cLine) (hl0 : n0.length ≤ 1000) (hl1 : n1.length ≤ 1000) (hl2 : n2.length ≤ 1000) (hu : l.length ≤ 1000)
  (hret : ∀ b st sd c h' tk', (st = true ↔ hitL n0 (frontL l) ∨ hitL n1 (frontL l)) → (sd = true ↔ Due l n0 n1 n2 v0 v1 v2) → Fr h₀ L h' m → News h₀ L h' ((b, W.listOf #[.bool st, .bool sd] c) :: (ln, W.listOf #[.str (S n0) t0, .str (S n1) t1, .str (S n2) t2] cn0) :: (lv, W.listOf #[.bool v0, .bool v1, .bool v2] cv0) :: news) → Q (.ref b) { s with heap := h', toks := tk' }) :
  wpAny (model PySem.Challenge.rw_ny0077_01.row.prog w) (ktrTop dp un gd cn cs L a ccd cl outer) (call (.ref 161) [.ref ln, .ref lv, .str (S l) t]) Q E s := by
  have hfl := frontL_len l
  w_on
  revert hX; k_fill; intro hX
  refine wpAny_call ?_
  w_strict (k_dflt (refine' code_defC ?k1 ?k2 ?k3 ?k4 ?k5 ?kA ?kF ?kK ?k6 ?k7 ?k8 ?k9 ?kB ?kD ?_ ?c2 ?c3 ?c4; (case kA => exact rfl); (case kF => exact rfl); (case kK => assumption); (case k1 => k_asm); (case k2 => k_asm); (case k3 => k_asm); (case k4 => k_asm); (case k5 => k_asm); (case k6 => k_is); (case k7 => k_is); (case k8 => ktr_room); (case k9 => exact BindsTo.of_eq rfl); (case kB => exact rfl); (case kD => decide +kernel); (case c2 => exact rfl); (case c3 => exact rfl); (case c4 => exact rfl); k_whole; intro g' L' h' tk' cells' FG' F' N' Y' B' X' T' l1; k_cells Y'; (try simp only [List.cons_append, List.nil_append] at N'); (try dsimp only); (try k_lift B'); (try k_fold)))
  k_steps
  refine StopAt.out ?_
  rename Fr _ _ _ _ => F0
  rename News _ _ _ _ => N0
  refine loopTextB (σ := List Nat × Tok) _ (fun c => [(Str.ofString "front", .str (S c.1) c.2)]) []
    (fun pre c => c.1.length ≤ pre.length ∧ ∀ post, frontL (pre ++ post) = c.1 ++ frontL post) (fun c => c.1 = frontL l) ([], ?t1) rfl F0 N0 ?hk ?hp ?turn ?hD ?done
  case hk =>
    intro q hq
    simp only [List.mem_cons, List.not_mem_nil, or_false] at hq
    subst hq
    rw [show S [] = Str.ofString "" from by decide +kernel]; rfl
  case hp => exact ⟨Nat.le_refl _, fun _ => rfl⟩
  case hD =>
    rintro ⟨d, td⟩ ⟨-, h2⟩
    have h3 := h2 []
    rw [List.append_nil] at h3
    rw [h3]; exact (List.append_nil _).symm
  case turn =>
    rintro Q1 hdone ⟨d, td⟩ pre post c tc u9 h9 tk9 own he hoff ⟨hi1, hi2⟩ F1 N1
    have hle : pre.length ≤ l.length := by rw [he]; simp
    dsimp only at *
    clear F0 N0 hret
    k_steps
    · rename Fr _ _ _ _ => Fb
      refine hdone (d, td) _ _ _ ?_ (kst_frOut (stored := []) (by kst_all) (by kst_same) Fb) (cb_drop (by assumption) fun p h => List.mem_append_left _ h)
      have e := hi2 (c :: post)
      rw [← he, frontL, if_pos (by simp_all), List.append_nil] at e
      exact e.symm
    · refine StopAt.out ?_
      rename News _ _ _ _ => nE'
      refine loopText_end (_, _) (by assumption) nE' (fun p h => List.mem_append_left _ h) (fun p h => List.mem_append_right _ h) (by kst_all) (by kst_same) ⟨by simp only [List.length_append, List.length_cons, List.length_nil]; omega, ?_⟩
      intro post'
      have e := hi2 (c :: post')
      have hc : c = 65 := by simp_all
      rw [frontL, if_neg (by simp_all), if_pos hc] at e
      rw [List.append_assoc, List.singleton_append, e, List.append_assoc]
      rfl
    · refine StopAt.out ?_
      rename News _ _ _ _ => nE'
      refine loopText_end (_, _) (by assumption) nE' (fun p h => List.mem_append_left _ h) (fun p h => List.mem_append_right _ h) (by kst_all) (by kst_same) ⟨by simp only [List.length_append, List.length_cons, List.length_nil]; omega, ?_⟩
      intro post'
      have e := hi2 (c :: post')
      have hc : ¬ c = 65 := by simp_all
      rw [frontL, if_neg (by simp_all), if_neg hc] at e
      rw [List.append_assoc, List.singleton_append, e, List.append_assoc]
      rfl
  case done =>
    rintro ⟨d, td⟩ u9 h9 tk9 hdd F1 N1
    dsimp only at hdd
    subst hdd
    dsimp only at *
    clear F0 N0
    k_steps
    refine StopAt.out ?_
    rename Fr _ _ _ _ => F2
    rename News _ _ _ _ => N2
    refine loopVals (n := 0) (σ := Bool) (β := List Nat × Tok) (fun c => [(Str.ofString "stands", .bool c)]) [Str.ofString "place"] (fun b => .str (S b.1) b.2) [(n0, t0), (n1, t1)]
      (fun rest c => (∀ b ∈ rest, b.1.length ≤ 1000) ∧ ((c = true ∨ ∃ b ∈ rest, hitL b.1 (frontL l)) ↔ (hitL n0 (frontL l) ∨ hitL n1 (frontL l)))) false rfl F2 N2 ?hm ?hk ?hp ?turn ?done
    case hm => exact .head _
    case hk => kst_all
    case hp =>
      simp [hl0, hl1]
    case turn =>
      rintro I ⟨ag, tag⟩ rest st u8 it h8 tk8 hI ⟨hru, hrun⟩ F3 N3
      have hlag := hru (ag, tag) (.head _)
      dsimp only at *
      clear F2 N2 hret
      k_steps
      refine StopAt.out ?_
      rename Fr _ _ _ _ => F4
      rename News _ _ _ _ => N4
      refine loopRange (σ := Bool) _ (fun c => [(Str.ofString "stands", .bool c)]) [] (fun i c => c = true ↔ (st = true ∨ ∃ j, j < i ∧ ((frontL l).drop j).take ag.length = subL 65 [97] ag)) st rfl (by assumption) (by omega) (by omega) (by omega) (by omega) F4 N4 ?hk2 ?hp2 ?turn2 ?done2
      case hk2 => kst_all
      case hp2 => simp
      case turn2 =>
        intro c i k tc u7 h7 tk7 own he hlt hoff hi F5 N5 q hq
        dsimp only at *
        clear F4 N4
        k_steps
        · refine StopAt.out ?_
          rename News _ _ _ _ => nE'
          rename @Eq (List Nat) (List.take _ _) _ => hp9
          refine loopRange_end _ (by assumption) nE' (fun p h => List.mem_append_left _ h) (fun p h => List.mem_append_right _ h) (by kst_all) (by kst_same) hq ?_
          exact hit_yes he hp9
        · refine StopAt.out ?_
          rename News _ _ _ _ => nE'
          rename (¬ @Eq (List Nat) (List.take _ _) _) => hp9
          refine loopRange_end _ (by assumption) nE' (fun p h => List.mem_append_left _ h) (fun p h => List.mem_append_right _ h) (by kst_all) (by kst_same) hq ?_
          exact hit_no he hp9 hi
      case done2 =>
        intro c u7 h7 tk7 hi F5 N5
        dsimp only at *
        clear F4 N4
        k_steps
        refine StopAt.out ?_
        exact jEnd _ (by assumption) (by assumption) ⟨fun b hb => hru b (.tail _ hb), hit_step hi hrun⟩ (by kst_all) (by kst_same)
    case done =>
      rintro st u8 h8 tk8 ⟨-, hrun⟩ F3 N3
      simp only [List.not_mem_nil, false_and, exists_false, or_false] at hrun
      dsimp only at *
      obtain ⟨m9, F9⟩ := fr_gen (x := Str.ofString "stands") (v := .bool st) F3 (by rfl)
      clear F2 N2 F1 N1 F3
      k_steps
      refine StopAt.out ?_
      rename Fr _ _ _ _ => F4
      rename News _ _ _ _ => N4
      refine LCt.CompSrcT.range (n := 3) rfl F4 N4 (by assumption) (by decide) (by decide) (by decide) ?_
      intro g1
      refine restT_inv 3 (fun i ys => ∃ ks : List (Nat × Tok), ys = ks.map (fun k => Value.int k.1 k.2) ∧ ks.map (·.1) = headsK l n0 n1 n2 i) ?turn3 ?fin3 3 0 [] rfl ⟨[], rfl, rfl⟩
      case turn3 =>
        intro i ys v I oI C oC D m₂ h tk E' hi hJ hv hC hx F5 N5 off ne
        obtain ⟨ks, rfl, hks⟩ := hJ
        obtain ⟨tv, rfl⟩ := hv
        clear F4 N4 hret
        rcases (by omega : i = 0 ∨ i = 1 ∨ i = 2) with rfl | rfl | rfl
        · k_steps
          · rename (List.take _ _ = _) => hp9
            exact StopAt.out ⟨ks ++ [(0, tv)], by simp, by rw [List.map_append, hks]; exact (heads_succ_pos (i := 0) hp9).symm⟩
          · rename (¬ List.take _ _ = _) => hp9
            exact StopAt.out ⟨ks, rfl, by rw [hks]; exact (heads_succ_neg (i := 0) hp9).symm⟩
        · k_steps
          · rename (List.take _ _ = _) => hp9
            exact StopAt.out ⟨ks ++ [(1, tv)], by simp, by rw [List.map_append, hks]; exact (heads_succ_pos (i := 1) hp9).symm⟩
          · rename (¬ List.take _ _ = _) => hp9
            exact StopAt.out ⟨ks, rfl, by rw [hks]; exact (heads_succ_neg (i := 1) hp9).symm⟩
        · k_steps
          · rename (List.take _ _ = _) => hp9
            exact StopAt.out ⟨ks ++ [(2, tv)], by simp, by rw [List.map_append, hks]; exact (heads_succ_pos (i := 2) hp9).symm⟩
          · rename (¬ List.take _ _ = _) => hp9
            exact StopAt.out ⟨ks, rfl, by rw [hks]; exact (heads_succ_neg (i := 2) hp9).symm⟩
      case fin3 =>
        rintro ys ⟨ks, rfl, hks⟩
        have hkl := heads_len hks
        clear F4 N4
        unfold LCg.FinA
        intro Dh hh tkh Fh Nh oh
        have ohc := oh.2.1
        clear oh
        dsimp only at *
        k_steps
        refine StopAt.out ?_
        k_dflt (refine LCg.ListComp_U (F₀ := by k_asm) (by with_unfolding_all rfl) (by decide) (by rfl) (by decide) (by rfl) ?_)
        k_steps
        refine StopAt.out ?_
        rename Fr _ _ _ _ => F5
        rename News _ _ _ _ => N5
        refine LCg.CompSrc.ledger (its := (ks.map fun k => Value.int (k.1 : Int) k.2).toArray) rfl F5 N5 (by k_mem) (by rw [sizeLine_eq]; simp; omega) ?_
        intro g2
        refine restU_inv _ (fun i ys => IntsAre ys ((ks.take i).map fun k => ((nm3 n0 n1 n2 k.1).length : Int))) ?turn4 ?fin4 _ 0 [] (Nat.zero_add _) .nil
        case turn4 =>
          intro i ys v I oI C oC D m₂ h tk E' hi hJ hv hC hx F6 N6 off ne
          obtain ⟨⟨kk, tv⟩, rfl, htk, hkm⟩ := turn_at hv
          have hk3 := heads_lt hks hkm
          clear F5 N5 hret
          dsimp only at *
          rcases (by omega : kk = 0 ∨ kk = 1 ∨ kk = 2) with rfl | rfl | rfl
          · k_steps
            exact StopAt.out (lens_snoc (f := fun k => ((nm3 n0 n1 n2 k).length : Int)) htk rfl hJ)
          · k_steps
            exact StopAt.out (lens_snoc (f := fun k => ((nm3 n0 n1 n2 k).length : Int)) htk rfl hJ)
          · k_steps
            exact StopAt.out (lens_snoc (f := fun k => ((nm3 n0 n1 n2 k).length : Int)) htk rfl hJ)
        case fin4 =>
          intro zs hzs
          rw [List.take_of_length_le (by simp)] at hzs
          clear F5 N5
          k_steps
          refine StopAt.out ?_
          rename Fr _ _ _ _ => F7
          rename News _ _ _ _ => N7
          refine kmk_add_ints (vs := [Value.int 0 _]) (ws := zs) F7 N7 (News.isList N7 (.tail _ (.head _))) (News.isList N7 (.head _)) (.cons 0 _ .nil) hzs ?_ (by rw [sizeLine_eq]; simp; omega)
          intro D us h7 F8 N8 l8 hus
          clear F7 N7
          k_steps
          refine StopAt.out ?_
          rename Fr _ _ _ _ => F7
          rename News _ _ _ _ => N7
          refine kso_max F7 N7 (News.isList N7 (.head _)) hus (by simp) rfl ?_
          intro h10 M tM tk10 F9 N9 hM hle
          clear F7 N7 l8 hus
          rw [List.singleton_append] at hM hle
          have N11 := news_pick N9
          clear N9
          refine storeX_C F9 N11 rfl (UpdF.head (cell_apart l1 ohc)) (by assumption) ?_
          intro h12 oL F12 N12 hoL
          clear F9 N11
          dsimp only at *
          k_steps
          refine StopAt.out ?_
          rename Fr _ _ _ _ => F10
          rename News _ _ _ _ => N10
          refine LCt.CompSrcT.ledger (its := (ks.map fun k => Value.int (k.1 : Int) k.2).toArray) rfl F10 N10 (by k_mem) (by rw [sizeLine_eq]; simp; omega) ?_
          intro g3
          refine restT_inv _ (fun i ys => ys = ((ks.take i).filter fun k => decide (((nm3 n0 n1 n2 k.1).length : Int) = M)).map fun k => Value.bool (nm3 v0 v1 v2 k.1)) ?turn5 ?fin5 _ 0 [] (Nat.zero_add _) rfl
          case turn5 =>
            intro i ys v I oI C oC D m₂ h tk E' hi hJ hv hC hx F6 N6 off ne
            obtain ⟨⟨kk, tv⟩, rfl, htk, hkm⟩ := turn_at hv
            have hk3 := heads_lt hks hkm
            clear F10 N10 hret
            dsimp only at *
            rcases (by omega : kk = 0 ∨ kk = 1 ∨ kk = 2) with rfl | rfl | rfl
            · k_steps
              · rename @Eq Int _ M => hp9
                exact StopAt.out (said_pos (f := fun k => ((nm3 n0 n1 n2 k).length : Int)) (g := nm3 v0 v1 v2) htk hp9 rfl hJ)
              · rename @Ne Int _ M => hp9
                exact StopAt.out (said_neg (f := fun k => ((nm3 n0 n1 n2 k).length : Int)) (g := nm3 v0 v1 v2) htk hp9 hJ)
            · k_steps
              · rename @Eq Int _ M => hp9
                exact StopAt.out (said_pos (f := fun k => ((nm3 n0 n1 n2 k).length : Int)) (g := nm3 v0 v1 v2) htk hp9 rfl hJ)
              · rename @Ne Int _ M => hp9
                exact StopAt.out (said_neg (f := fun k => ((nm3 n0 n1 n2 k).length : Int)) (g := nm3 v0 v1 v2) htk hp9 hJ)
            · k_steps
              · rename @Eq Int _ M => hp9
                exact StopAt.out (said_pos (f := fun k => ((nm3 n0 n1 n2 k).length : Int)) (g := nm3 v0 v1 v2) htk hp9 rfl hJ)
              · rename @Ne Int _ M => hp9
                exact StopAt.out (said_neg (f := fun k => ((nm3 n0 n1 n2 k).length : Int)) (g := nm3 v0 v1 v2) htk hp9 hJ)
          case fin5 =>
            intro bs hbs
            rw [List.take_of_length_le (by simp)] at hbs
            obtain ⟨BS, rfl, hdue⟩ := due_fin hks hM hle hbs
            clear F10 N10 hM hle hbs hkl
            k_steps
            refine StopAt.out ?_
            rename News _ _ _ _ => N13
            cases BS with
            | nil =>
              refine eq_nils (News.isList N13 (.tail _ (.head _))) (News.isList N13 (.head _)) (by ktr_units) ?_
              k_steps
              exact hret _ st true 0 _ _ hrun (iff_of_true rfl (hdue.mp (.inl rfl))) (by k_asm) (cb_drop (by assumption) fun p h => by simp only [List.mem_cons] at h ⊢; rcases h with h | h | h | h <;> simp [h])
            | cons b0 BS =>
              refine PySem.SeqAt.eq_list_lengthsAt (News.isList N13 (.tail _ (.head _))) (News.isList N13 (.head _)) (by simp) (by ktr_units) ?_
              k_steps
              refine StopAt.out ?_
              refine in_bools (bs := b0 :: BS) (News.isList N13 (.tail _ (.head _))) ?_
              k_steps
              exact hret _ st _ 0 _ _ hrun (by rw [← hdue]; exact ⟨.inr, fun h => h.resolve_left (by simp)⟩) (by k_asm) (cb_drop (by assumption) fun p h => by simp only [List.mem_cons] at h ⊢; rcases h with h | h | h | h <;> simp [h])
end

/-! ### the plain law: words -/
abbrev cutL (la : List Nat) (i : Nat) : List Nat := (dqL la ++ [34]).take i
theorem parse_cons {c : Nat} (h : c ≠ 34) : ∀ X : List Nat, parseL (c :: X) = c :: parseL X
  | [] => by simp [parseL, h]
  | d :: r => by rw [parseL, if_neg h]
theorem cut_come : ∀ {la : List Nat} (i : Nat), parseL (cutL la i) = comeL la (i : Int)
  | [], 0 => rfl
  | [], i + 1 => by simp [cutL, dqL, parseL, comeL]
  | c :: r, i => by
    by_cases h : c = 34
    · subst h
      match i with
      | 0 => simp [cutL, parseL, comeL]
      | 1 => simp [cutL, dqL, parseL, comeL]
      | j + 2 =>
        have ih := cut_come (la := r) j
        have e1 : cutL (34 :: r) (j + 2) = 34 :: 34 :: cutL r j := by simp [cutL, dqL]
        have e2 : ((j + 2 : Nat) : Int) - 2 = (j : Int) := by omega
        rw [e1, parseL, if_pos rfl, if_pos rfl, ih, comeL, if_pos rfl, e2, if_neg (by omega)]
    · match i with
      | 0 => simp [cutL, parseL, comeL, h]
      | j + 1 =>
        have ih := cut_come (la := r) j
        have e1 : cutL (c :: r) (j + 1) = c :: cutL r j := by simp [cutL, dqL, h]
        have e2 : ((j + 1 : Nat) : Int) - 1 = (j : Int) := by omega
        rw [e1, parse_cons h, ih, comeL, if_neg h, e2, if_neg (by omega)]
theorem cut_shape : ∀ (la : List Nat) (i : Nat), ∃ z, (z = [] ∨ z = [34]) ∧ cutL la i = dqL (comeL la (i : Int)) ++ z
  | [], 0 => ⟨[], .inl rfl, rfl⟩
  | [], i + 1 => ⟨[34], .inr rfl, by simp [cutL, dqL, comeL]⟩
  | c :: r, i => by
    by_cases h : c = 34
    · subst h
      match i with
      | 0 => exact ⟨[], .inl rfl, by simp [cutL, comeL, dqL]⟩
      | 1 => exact ⟨[34], .inr rfl, by simp [cutL, dqL, comeL]⟩
      | j + 2 =>
        obtain ⟨z, hz, ih⟩ := cut_shape r j
        have e1 : cutL (34 :: r) (j + 2) = 34 :: 34 :: cutL r j := by simp [cutL, dqL]
        have e2 : ((j + 2 : Nat) : Int) - 2 = (j : Int) := by omega
        refine ⟨z, hz, ?_⟩
        rw [e1, ih, comeL, if_pos rfl, e2, if_neg (by omega)]; simp [dqL]
    · match i with
      | 0 => exact ⟨[], .inl rfl, by simp [cutL, comeL, dqL, h]⟩
      | j + 1 =>
        obtain ⟨z, hz, ih⟩ := cut_shape r j
        have e1 : cutL (c :: r) (j + 1) = c :: cutL r j := by simp [cutL, dqL, h]
        have e2 : ((j + 1 : Nat) : Int) - 1 = (j : Int) := by omega
        refine ⟨z, hz, ?_⟩
        rw [e1, ih, comeL, if_neg h, e2, if_neg (by omega)]; simp [dqL, h]
theorem come_pre : ∀ (la : List Nat) (n : Int), comeL la n <+: la
  | [], _ => List.prefix_refl _
  | c :: r, n => by
    unfold comeL
    generalize (if c = 34 then (2 : Int) else 1) = q
    by_cases h : n - q < 0
    · rw [if_pos h]; exact List.nil_prefix
    · rw [if_neg h]; exact (List.cons_prefix_cons).mpr ⟨rfl, come_pre r _⟩
theorem come_good {la : List Nat} (h : Ok la) (i : Nat) : Ok (comeL la (i : Int)) ∧ (comeL la (i : Int)).length ≤ la.length :=
  ⟨fun c hc => h c ((come_pre la i).subset hc), (come_pre la i).length_le⟩
/-! ### doubling and escaping keep 'begins with' and 'lies in' -/
theorem dq_pre {z : List Nat} (hz : z = [] ∨ z = [34]) : ∀ (n l : List Nat), dqL n <+: dqL l ++ z ↔ n <+: l
  | [], l => by simp [dqL]
  | c :: n, [] => by
    refine iff_of_false ?_ (by simp)
    by_cases h : c = 34
    · subst h; rcases hz with rfl | rfl <;> simp [dqL]
    · rcases hz with rfl | rfl
      · simp [dqL, h]
      · simp only [dqL, if_neg h, List.nil_append]
        intro hp
        exact h (List.cons_prefix_cons.mp hp).1
  | c :: n, d :: l => by
    have ih := dq_pre hz n l
    by_cases h : c = 34 <;> by_cases h' : d = 34
    · subst h h'; simp [dqL, List.cons_prefix_cons, ih]
    · subst h; simp [dqL, h', List.cons_prefix_cons, Ne.symm h']
    · subst h'; simp [dqL, h, List.cons_prefix_cons]
    · simp [dqL, h, h', List.cons_prefix_cons, ih]
theorem esc_pre : ∀ (n l : List Nat), escL n <+: escL l ↔ n <+: l
  | [], l => by simp [escL]
  | c :: n, [] => by
    refine iff_of_false ?_ (by simp)
    by_cases h : c = 92 ∨ c = 46 <;> simp [escL, h]
  | c :: n, d :: l => by
    have ih := esc_pre n l
    by_cases h : c = 92 ∨ c = 46 <;> by_cases h' : d = 92 ∨ d = 46
    · simp [escL, h, h', List.cons_prefix_cons, ih]
    · have e1 : ¬ 92 = d := fun e => h' (.inl e.symm)
      have e2 : ¬ c = d := fun e => h' (e ▸ h)
      simp [escL, h, h', List.cons_prefix_cons, e1, e2]
    · have e1 : ¬ c = 92 := fun e => h (.inl e)
      have e2 : ¬ c = d := fun e => h (e ▸ h')
      have e3 : ¬ c = 46 := fun e => h (.inr e)
      simp [escL, h', List.cons_prefix_cons, e1, e2, e3]
    · simp [escL, h, h', List.cons_prefix_cons, ih]
theorem dq_odd {z : List Nat} (hz : z = [] ∨ z = [34]) : ∀ (a f : List Nat), dqL a <+: 34 :: (dqL f ++ z) → a <+: 34 :: f
  | [], _, _ => List.nil_prefix
  | c :: a, f, hp => by
    by_cases h : c = 34
    · subst h
      simp only [dqL, if_true, List.cons_prefix_cons, true_and] at hp
      refine List.cons_prefix_cons.mpr ⟨rfl, ?_⟩
      cases f with
      | nil =>
        rcases hz with rfl | rfl
        · simp [dqL] at hp
        · simp only [dqL, List.nil_append, List.cons_prefix_cons, true_and, List.prefix_nil] at hp
          cases a with
          | nil => exact List.nil_prefix
          | cons b a => by_cases hb : b = 34 <;> simp [dqL, hb] at hp
      | cons e f =>
        by_cases he : e = 34
        · subst he
          simp only [dqL, if_true, List.cons_append, List.cons_prefix_cons, true_and] at hp
          exact dq_odd hz a f hp
        · simp only [dqL, if_neg he, List.cons_append, List.cons_prefix_cons] at hp
          exact absurd hp.1.symm he
    · simp only [dqL, if_neg h, List.cons_prefix_cons] at hp
      exact absurd hp.1 h
theorem esc_odd : ∀ (a f : List Nat) (c : Nat), (c = 92 ∨ c = 46) → escL a <+: c :: escL f → a <+: c :: f
  | [], _, _, _, _ => List.nil_prefix
  | b :: a, f, c, hc, hp => by
    by_cases h : b = 92 ∨ b = 46
    · simp only [escL, if_pos h, List.cons_prefix_cons] at hp
      obtain ⟨rfl, hp⟩ := hp
      cases f with
      | nil => simp [escL] at hp
      | cons e f =>
        by_cases he : e = 92 ∨ e = 46
        · simp only [escL, if_pos he, List.cons_prefix_cons] at hp
          obtain ⟨rfl, hp⟩ := hp
          exact List.cons_prefix_cons.mpr ⟨rfl, esc_odd a f e he hp⟩
        · simp only [escL, if_neg he, List.cons_prefix_cons] at hp
          exact absurd (hp.1 ▸ h) he
    · simp only [escL, if_neg h, List.cons_prefix_cons] at hp
      exact absurd (hp.1 ▸ hc) h
theorem inf_cons {a f : List Nat} {d : Nat} : a <:+: d :: f ↔ a <+: d :: f ∨ a <:+: f := List.infix_cons_iff
theorem dq_nil {a : List Nat} (h : dqL a = []) : a = [] := by
  cases a with
  | nil => rfl
  | cons b a => by_cases hb : b = 34 <;> simp [dqL, hb] at h
theorem esc_nil {a : List Nat} (h : escL a = []) : a = [] := by
  cases a with
  | nil => rfl
  | cons b a => by_cases hb : b = 92 ∨ b = 46 <;> simp [escL, hb] at h
theorem dq_in {z : List Nat} (hz : z = [] ∨ z = [34]) (a : List Nat) : ∀ f : List Nat, dqL a <:+: dqL f ++ z ↔ a <:+: f
  | [] => by
    constructor
    · intro h
      have : a = [] := by
        rcases hz with rfl | rfl
        · exact dq_nil (by simpa [dqL] using h)
        · simp only [dqL, List.nil_append] at h
          rcases inf_cons.mp h with h | h
          · have := (dq_pre (.inr rfl) a []).mp (by simpa [dqL] using h)
            simpa using this
          · exact dq_nil (by simpa using h)
      rw [this]; exact List.nil_infix
    · intro h
      have : a = [] := by simpa using h
      rw [this]; exact List.nil_infix
  | d :: f => by
    have ih := dq_in hz a f
    have hp := dq_pre hz a (d :: f)
    by_cases h : d = 34
    · subst h
      have e : dqL (34 :: f) ++ z = 34 :: 34 :: (dqL f ++ z) := by simp [dqL]
      rw [e] at hp ⊢
      rw [inf_cons, inf_cons, hp, ih, inf_cons]
      constructor
      · rintro (h | h | h)
        · exact .inl h
        · exact .inl (dq_odd hz a f h)
        · exact .inr h
      · rintro (h | h)
        · exact .inl h
        · exact .inr (.inr h)
    · have e : dqL (d :: f) ++ z = d :: (dqL f ++ z) := by simp [dqL, h]
      rw [e] at hp ⊢
      rw [inf_cons, hp, ih, inf_cons]
theorem esc_in (a : List Nat) : ∀ f : List Nat, escL a <:+: escL f ↔ a <:+: f
  | [] => by
    constructor
    · intro h
      have : a = [] := esc_nil (by simpa [escL] using h)
      rw [this]; exact List.nil_infix
    · intro h
      have : a = [] := by simpa using h
      rw [this]; exact List.nil_infix
  | d :: f => by
    have ih := esc_in a f
    have hp := esc_pre a (d :: f)
    by_cases h : d = 92 ∨ d = 46
    · have e : escL (d :: f) = 92 :: d :: escL f := by simp [escL, h]
      rw [e] at hp ⊢
      rw [inf_cons, inf_cons, hp, ih, inf_cons]
      constructor
      · rintro (h1 | h1 | h1)
        · exact .inl h1
        · exact .inl (esc_odd a f d h h1)
        · exact .inr h1
      · rintro (h1 | h1)
        · exact .inl h1
        · exact .inr (.inr h1)
    · have e : escL (d :: f) = d :: escL f := by simp [escL, h]
      rw [e] at hp ⊢
      rw [inf_cons, hp, ih, inf_cons]
/-! ### great and small letters, the front -/
def loA (c : Nat) : Nat := if c = 65 then 97 else c
theorem lo_map {l : List Nat} (h : Ok l) : l.map lo1 = l.map loA := by
  refine List.map_congr_left fun c hc => ?_
  rcases h c hc with rfl | rfl | rfl | rfl | rfl | rfl <;> decide
theorem sub_lo : ∀ l : List Nat, subL 65 [97] l = l.map loA
  | [] => rfl
  | c :: r => by
    have ih := sub_lo r
    by_cases h : c = 65 <;> simp [subL, loA, h, ih]
theorem front_lo : ∀ l : List Nat, frontL l = (l.takeWhile (· != 47)).map loA
  | [] => rfl
  | c :: r => by
    have ih := front_lo r
    by_cases h : c = 47
    · subst h; simp [frontL]
    · simp [frontL, h, ih, loA]
theorem dq_lo : ∀ l : List Nat, (dqL l).map loA = dqL (l.map loA)
  | [] => rfl
  | c :: r => by
    have ih := dq_lo r
    by_cases h : c = 34
    · subst h; simp [dqL, loA, ih]
    · have h2 : ¬ loA c = 34 := by unfold loA; split <;> simp_all
      simp [dqL, h, h2, ih]
theorem esc_lo : ∀ l : List Nat, (escL l).map loA = escL (l.map loA)
  | [] => rfl
  | c :: r => by
    have ih := esc_lo r
    by_cases h : c = 92 ∨ c = 46
    · have h3 : loA c = c := by rcases h with rfl | rfl <;> decide
      have h4 : loA 92 = 92 := by decide
      simp [escL, h, h3, h4, ih]
    · have h2 : ¬ (loA c = 92 ∨ loA c = 46) := by
        unfold loA
        split
        · decide
        · exact h
      simp [escL, h, h2, ih]
theorem tw_dq {z : List Nat} (hz : z = [] ∨ z = [34]) : ∀ l : List Nat, ∃ z', (z' = [] ∨ z' = [34]) ∧ (dqL l ++ z).takeWhile (· != 47) = dqL (l.takeWhile (· != 47)) ++ z'
  | [] => ⟨z, hz, by rcases hz with rfl | rfl <;> rfl⟩
  | c :: r => by
    obtain ⟨z', hz', ih⟩ := tw_dq hz r
    by_cases h : c = 47
    · subst h; exact ⟨[], .inl rfl, by simp [dqL]⟩
    · refine ⟨z', hz', ?_⟩
      by_cases h2 : c = 34
      · subst h2; simp [dqL, ih]
      · simp [dqL, h, h2, ih]
theorem tw_esc : ∀ l : List Nat, (escL l).takeWhile (· != 47) = escL (l.takeWhile (· != 47))
  | [] => rfl
  | c :: r => by
    have ih := tw_esc r
    by_cases h : c = 47
    · subst h; simp [escL]
    · by_cases h2 : c = 92 ∨ c = 46
      · simp [escL, h, h2, ih]
      · simp [escL, h, h2, ih]
theorem inL_iff (a l : List Nat) : inL a l ↔ a <:+: l := by
  constructor
  · rintro ⟨i, h1, h2⟩
    refine ⟨l.take i, (l.drop i).drop a.length, ?_⟩
    rw [List.append_assoc]
    conv => lhs; rhs; lhs; rw [← h2]
    rw [List.take_append_drop, List.take_append_drop]
  · rintro ⟨s, t, rfl⟩
    refine ⟨s.length, by simp only [List.length_append]; omega, ?_⟩
    rw [List.append_assoc, List.drop_left, List.take_left]
theorem hit_iff (n f : List Nat) : hitL n f ↔ n.map loA <:+: f := by
  rw [← inL_iff]
  unfold hitL inL
  rw [sub_lo]
  constructor
  · rintro ⟨j, h1, h2⟩
    refine ⟨j, ?_, by rw [List.length_map]; exact h2⟩
    have e := congrArg List.length h2
    rw [List.length_take, List.length_drop, List.length_map] at e
    rw [List.length_map]
    omega
  · rintro ⟨j, h1, h2⟩
    rw [List.length_map] at h1 h2
    exact ⟨j, by omega, h2⟩
theorem okTw {l : List Nat} (h : Ok l) : Ok (l.takeWhile (· != 47)) := fun c hc => h c ((List.takeWhile_prefix _).subset hc)
abbrev AppIs (N0 N1 U : List Nat) (P : Prop) : Prop := (inL (N0.map lo1) ((U.takeWhile (· != 47)).map lo1) ∨ inL (N1.map lo1) ((U.takeWhile (· != 47)).map lo1)) ↔ P
theorem app0_1 {n l : List Nat} (h0 : Ok n) (hl : Ok l) : inL (n.map lo1) ((l.takeWhile (· != 47)).map lo1) ↔ hitL n (frontL l) := by
  rw [hit_iff, inL_iff, lo_map h0, lo_map (okTw hl), front_lo]
theorem app0 {n0 n1 l : List Nat} (h0 : Ok n0) (h1 : Ok n1) (hl : Ok l) : AppIs n0 n1 l (hitL n0 (frontL l) ∨ hitL n1 (frontL l)) :=
  or_congr (app0_1 h0 hl) (app0_1 h1 hl)
theorem app1_1 {n la : List Nat} (h0 : Ok n) (hl : Ok la) (i : Nat) : inL ((dqL n).map lo1) (((cutL la i).takeWhile (· != 47)).map lo1) ↔ hitL n (frontL (comeL la i)) := by
  obtain ⟨z, hz, e⟩ := cut_shape la i
  obtain ⟨z', hz', e'⟩ := tw_dq hz (comeL la i)
  rw [hit_iff, inL_iff, lo_map (okDq h0), lo_map (okTw (okCut hl i)), show List.take i (dqL la ++ [34]) = dqL (comeL la i) ++ z from e, e', List.map_append, dq_lo, dq_lo, front_lo]
  have ez : z'.map loA = z' := by rcases hz' with rfl | rfl <;> rfl
  rw [ez]
  exact dq_in hz' _ _
theorem app1 {n0 n1 la : List Nat} (h0 : Ok n0) (h1 : Ok n1) (hl : Ok la) (i : Nat) : AppIs (dqL n0) (dqL n1) (cutL la i) (hitL n0 (frontL (comeL la i)) ∨ hitL n1 (frontL (comeL la i))) :=
  or_congr (app1_1 h0 hl i) (app1_1 h1 hl i)
theorem app2_1 {n l : List Nat} (h0 : Ok n) (hl : Ok l) : inL ((escL n).map lo1) (((escL l).takeWhile (· != 47)).map lo1) ↔ hitL n (frontL l) := by
  rw [hit_iff, inL_iff, lo_map (okEsc h0), lo_map (okTw (okEsc hl)), tw_esc, esc_lo, esc_lo, front_lo]
  exact esc_in _ _
theorem app2 {n0 n1 l : List Nat} (h0 : Ok n0) (h1 : Ok n1) (hl : Ok l) : AppIs (escL n0) (escL n1) (escL l) (hitL n0 (frontL l) ∨ hitL n1 (frontL l)) :=
  or_congr (app2_1 h0 hl) (app2_1 h1 hl)
/-! ### the longest one says -/
def AInv (u : List Nat) (D : List (Addr × List Nat × Bool)) (st : Int × Bool) : Prop :=
  ((∀ b ∈ D, ¬ b.2.1 <+: u) ∧ st = (-1, true)) ∨ ∃ M : Nat, st.1 = (M : Int) + 1 ∧ (∃ b ∈ D, b.2.1 <+: u ∧ b.2.1.length = M) ∧ (∀ b ∈ D, b.2.1 <+: u → b.2.1.length ≤ M) ∧ (st.2 = true ↔ ∃ b ∈ D, b.2.1 <+: u ∧ b.2.1.length = M ∧ b.2.2 = true)
theorem ainv_step {u : List Nat} {D : List (Addr × List Nat × Bool)} {st : Int × Bool} (b : Addr × List Nat × Bool) (h : AInv u D st) : AInv u (D ++ [b]) (alStep u st b.2.1 b.2.2) := by
  unfold alStep
  by_cases hp : b.2.1 <+: u
  · rw [if_pos hp]
    rcases h with ⟨h1, rfl⟩ | ⟨M, h1, h2, h3, h4⟩
    · rw [if_pos (by show (b.2.1.length : Int) + 1 > -1; omega)]
      refine .inr ⟨b.2.1.length, rfl, ⟨b, by simp, hp, rfl⟩, fun c hc hcp => ?_, ?_⟩
      · rcases List.mem_append.mp hc with hc | hc
        · exact absurd hcp (h1 c hc)
        · rw [List.mem_singleton.mp hc]; exact Nat.le_refl _
      · constructor
        · intro hv; exact ⟨b, by simp, hp, rfl, hv⟩
        · rintro ⟨c, hc, hcp, _, hv⟩
          rcases List.mem_append.mp hc with hc | hc
          · exact absurd hcp (h1 c hc)
          · rw [List.mem_singleton.mp hc] at hv; exact hv
    · obtain ⟨c0, hc0, hcp0, hcl0⟩ := h2
      by_cases hgt : (b.2.1.length : Int) + 1 > st.1
      · rw [if_pos hgt]
        refine .inr ⟨b.2.1.length, rfl, ⟨b, by simp, hp, rfl⟩, fun c hc hcp => ?_, ?_⟩
        · rcases List.mem_append.mp hc with hc | hc
          · have := h3 c hc hcp; omega
          · rw [List.mem_singleton.mp hc]; exact Nat.le_refl _
        · constructor
          · intro hv; exact ⟨b, by simp, hp, rfl, hv⟩
          · rintro ⟨c, hc, hcp, hcl, hv⟩
            rcases List.mem_append.mp hc with hc | hc
            · have := h3 c hc hcp; omega
            · rw [List.mem_singleton.mp hc] at hv; exact hv
      · rw [if_neg hgt]
        have hle : ∀ c ∈ D ++ [b], c.2.1 <+: u → c.2.1.length ≤ M := fun c hc hcp => by
          rcases List.mem_append.mp hc with hc | hc
          · exact h3 c hc hcp
          · rw [List.mem_singleton.mp hc]; omega
        have hex : ∃ c ∈ D ++ [b], c.2.1 <+: u ∧ c.2.1.length = M := ⟨c0, List.mem_append_left _ hc0, hcp0, hcl0⟩
        by_cases hq : (b.2.1.length : Int) + 1 = st.1 ∧ st.2 = false
        · rw [if_pos hq]
          refine .inr ⟨M, h1, hex, hle, ?_⟩
          constructor
          · intro hv; exact ⟨b, by simp, hp, by omega, hv⟩
          · rintro ⟨c, hc, hcp, hcl, hv⟩
            rcases List.mem_append.mp hc with hc | hc
            · have := h4.mpr ⟨c, hc, hcp, hcl, hv⟩
              rw [hq.2] at this; cases this
            · rw [List.mem_singleton.mp hc] at hv; exact hv
        · rw [if_neg hq]
          refine .inr ⟨M, h1, hex, hle, ?_⟩
          constructor
          · intro hv
            obtain ⟨c, hc, r⟩ := h4.mp hv
            exact ⟨c, List.mem_append_left _ hc, r⟩
          · rintro ⟨c, hc, hcp, hcl, hv⟩
            rcases List.mem_append.mp hc with hc | hc
            · exact h4.mpr ⟨c, hc, hcp, hcl, hv⟩
            · rw [List.mem_singleton.mp hc] at hcl
              by_cases hs : st.2 = true
              · exact hs
              · exact absurd ⟨by omega, by simpa using hs⟩ hq
  · rw [if_neg hp]
    rcases h with ⟨h1, rfl⟩ | ⟨M, h1, ⟨c0, hc0, h2⟩, h3, h4⟩
    · refine .inl ⟨fun c hc => ?_, rfl⟩
      rcases List.mem_append.mp hc with hc | hc
      · exact h1 c hc
      · rw [List.mem_singleton.mp hc]; exact hp
    · refine .inr ⟨M, h1, ⟨c0, List.mem_append_left _ hc0, h2⟩, fun c hc hcp => ?_, ?_⟩
      · rcases List.mem_append.mp hc with hc | hc
        · exact h3 c hc hcp
        · rw [List.mem_singleton.mp hc] at hcp; exact absurd hcp hp
      · rw [h4]
        constructor
        · rintro ⟨c, hc, r⟩; exact ⟨c, List.mem_append_left _ hc, r⟩
        · rintro ⟨c, hc, r⟩
          rcases List.mem_append.mp hc with hc | hc
          · exact ⟨c, hc, r⟩
          · rw [List.mem_singleton.mp hc] at r; exact absurd r.1 hp
theorem al0 {n0 n1 n2 l : List Nat} {v0 v1 v2 : Bool} : (alRun l [(0, n0, v0), (0, n1, v1), (0, n2, v2)] (-1, true)).2 = true ↔ Due l n0 n1 n2 v0 v1 v2 := by
  have i0 : AInv l [] (-1, true) := .inl ⟨fun _ h => (nomatch h), rfl⟩
  have i1 := ainv_step (0, n0, v0) i0
  have i2 := ainv_step (0, n1, v1) i1
  have i3 := ainv_step (0, n2, v2) i2
  have e : alRun l [(0, n0, v0), (0, n1, v1), (0, n2, v2)] (-1, true) = alStep l (alStep l (alStep l (-1, true) n0 v0) n1 v1) n2 v2 := rfl
  rw [e]
  dsimp only at i3
  generalize alStep l (alStep l (alStep l (-1, true) n0 v0) n1 v1) n2 v2 = st at *
  have hm : ∀ P : List Nat → Bool → Prop, (∃ b ∈ ([] ++ [((0 : Addr), n0, v0)] ++ [(0, n1, v1)] ++ [(0, n2, v2)] : List (Addr × List Nat × Bool)), P b.2.1 b.2.2) ↔ ∃ k, k < 3 ∧ P (nm3 n0 n1 n2 k) (nm3 v0 v1 v2 k) := fun P => by
    constructor
    · rintro ⟨b, hb, h⟩
      simp only [List.nil_append, List.cons_append, List.mem_cons, List.not_mem_nil, or_false] at hb
      rcases hb with rfl | rfl | rfl
      · exact ⟨0, by omega, h⟩
      · exact ⟨1, by omega, h⟩
      · exact ⟨2, by omega, h⟩
    · rintro ⟨k, hk, h⟩
      rcases (by omega : k = 0 ∨ k = 1 ∨ k = 2) with rfl | rfl | rfl
      · exact ⟨(0, n0, v0), by simp, h⟩
      · exact ⟨(0, n1, v1), by simp, h⟩
      · exact ⟨(0, n2, v2), by simp, h⟩
  have ha : ∀ P : List Nat → Prop, (∀ b ∈ ([] ++ [((0 : Addr), n0, v0)] ++ [(0, n1, v1)] ++ [(0, n2, v2)] : List (Addr × List Nat × Bool)), P b.2.1) ↔ ∀ k, k < 3 → P (nm3 n0 n1 n2 k) := fun P => by
    constructor
    · intro h k hk
      rcases (by omega : k = 0 ∨ k = 1 ∨ k = 2) with rfl | rfl | rfl
      · exact h (0, n0, v0) (by simp)
      · exact h (0, n1, v1) (by simp)
      · exact h (0, n2, v2) (by simp)
    · intro h b hb
      simp only [List.nil_append, List.cons_append, List.mem_cons, List.not_mem_nil, or_false] at hb
      rcases hb with rfl | rfl | rfl
      · exact h 0 (by omega)
      · exact h 1 (by omega)
      · exact h 2 (by omega)
  rcases i3 with ⟨h1, rfl⟩ | ⟨M, h1, h2, h3, h4⟩
  · refine iff_of_true rfl (.inl ?_)
    exact (ha (fun n => ¬ n <+: l)).mp h1
  · have h2' := (hm (fun n _ => n <+: l ∧ n.length = M)).mp h2
    have h3' := (ha (fun n => n <+: l → n.length ≤ M)).mp h3
    have h4' := h4.trans (hm (fun n v => n <+: l ∧ n.length = M ∧ v = true))
    rw [h4']
    constructor
    · rintro ⟨k, hk, hp, hl, hv⟩
      exact .inr ⟨k, hk, hp, hv, fun j hj hjp => by rw [hl]; exact h3' j hj hjp⟩
    · rintro (h | ⟨k, hk, hp, hv, hmax⟩)
      · obtain ⟨k, hk, hp, _⟩ := h2'
        exact absurd hp (h k hk)
      · obtain ⟨j, hj, hjp, hjl⟩ := h2'
        have a1 := hmax j hj hjp
        have a2 := h3' k hk hp
        exact ⟨k, hk, hp, by omega, hv⟩
theorem due_dress {g : List Nat → List Nat} {U l n0 n1 n2 : List Nat} {v0 v1 v2 : Bool} (hp : ∀ n, g n <+: U ↔ n <+: l) (hg : ∀ n k, g n <+: g k ↔ n <+: k) : Due U (g n0) (g n1) (g n2) v0 v1 v2 ↔ Due l n0 n1 n2 v0 v1 v2 := by
  have e : ∀ k, nm3 (g n0) (g n1) (g n2) k = g (nm3 n0 n1 n2 k) := fun k => by
    unfold nm3
    by_cases h0 : k = 0
    · rw [if_pos h0, if_pos h0]
    · rw [if_neg h0, if_neg h0]
      by_cases h1 : k = 1
      · rw [if_pos h1, if_pos h1]
      · rw [if_neg h1, if_neg h1]
  have hlen : ∀ a b, a <+: l → b <+: l → ((g a).length ≤ (g b).length ↔ a.length ≤ b.length) := fun a b ha hb => by
    constructor
    · intro h
      exact ((hg a b).mp (List.prefix_of_prefix_length_le ((hp a).mpr ha) ((hp b).mpr hb) h)).length_le
    · intro h
      exact ((hg a b).mpr (List.prefix_of_prefix_length_le ha hb h)).length_le
  unfold Due
  simp only [e, hp]
  refine or_congr Iff.rfl (exists_congr fun k => and_congr_right fun hk => and_congr_right fun hkp => and_congr_right fun _ => forall_congr' fun j => forall_congr' fun hj => forall_congr' fun hjp => hlen _ _ hjp hkp)
theorem al1 {n0 n1 n2 la : List Nat} {v0 v1 v2 : Bool} (i : Nat) : (alRun (cutL la i) [(0, dqL n0, v0), (0, dqL n1, v1), (0, dqL n2, v2)] (-1, true)).2 = true ↔ Due (comeL la i) n0 n1 n2 v0 v1 v2 := by
  obtain ⟨z, hz, e⟩ := cut_shape la i
  refine al0.trans (due_dress (fun n => by rw [e]; exact dq_pre hz n _) fun n k => ?_)
  have h := dq_pre (.inl rfl) n k
  rwa [List.append_nil] at h
theorem al2 {n0 n1 n2 l : List Nat} {v0 v1 v2 : Bool} : (alRun (escL l) [(0, escL n0, v0), (0, escL n1, v1), (0, escL n2, v2)] (-1, true)).2 = true ↔ Due l n0 n1 n2 v0 v1 v2 :=
  al0.trans (due_dress (fun n => esc_pre n l) esc_pre)
section
theorem dq3 {n0 n1 n2 l : List Nat} (h0 : n0.length ≤ 3) (h1 : n1.length ≤ 3) (h2 : n2.length ≤ 3) (hl : l = dqL n0 ∨ l = dqL n1 ∨ l = dqL n2) : l.length ≤ 6 := by
  have a := dqL_len n0
  have b := dqL_len n1
  have c := dqL_len n2
  rcases hl with rfl | rfl | rfl <;> omega
theorem esc3 {n0 n1 n2 l : List Nat} (h0 : n0.length ≤ 3) (h1 : n1.length ≤ 3) (h2 : n2.length ≤ 3) (hl : l = 46 :: 42 :: escL n0 ∨ l = 46 :: 42 :: escL n1 ∨ l = 46 :: 42 :: escL n2) : l.length ≤ 8 ∧ 2 ≤ l.length := by
  have a := escL_len n0
  have b := escL_len n1
  have c := escL_len n2
  rcases hl with rfl | rfl | rfl <;> simp only [List.length_cons] <;> omega
theorem dqle {n : List Nat} (h : n.length ≤ 3) : (dqL n).length ≤ 1000 := by have := dqL_len n; omega
theorem escle {n : List Nat} (h : n.length ≤ 3) : (escL n).length ≤ 1000 := by have := escL_len n; omega
theorem tell_go : ∀ (l r : List Nat), parseL (dqL l ++ 34 :: 32 :: r) = l := by
  intro l
  induction l with
  | nil => intro r; simp [dqL, parseL]
  | cons c l ih =>
    intro r
    by_cases h : c = 34
    · subst h; simp [dqL, parseL, ih]
    · cases hd : dqL l ++ 34 :: 32 :: r with
      | nil => simp at hd
      | cons d z =>
        have e : dqL (c :: l) ++ 34 :: 32 :: r = c :: d :: z := by simp [dqL, h, hd]
        rw [e, parseL, if_neg h, ← hd, ih]
theorem tell (l : List Nat) : parseL (dqL l ++ [34, 32, 34] ++ dqL l) = l := by
  rw [List.append_assoc]; exact tell_go l _
local macro_rules | `(tactic| walk_at "call ref") => `(tactic| refine stopAt ?_)
local macro_rules | `(tactic| walk_at "compareOp NotEq ref ref") => `(tactic| refine stopAt ?_)
local macro_rules | `(tactic| walk_at "compareOp NotEq str str") => `(tactic| (k_here; with_reducible refine neSame ?_))
local macro_rules | `(tactic| walk_at "exec For Name Call cons nil") => `(tactic| (k_here; (rename Fr _ _ _ _ => lF'); (with_unfolding_all refine' For_invVF lF' ?k1 ?k2 ?_; (case k1 => exact rfl); (case k2 => exact rfl); k_whole)))
local macro_rules | `(tactic| walk_at "pyIter ref") => `(tactic| refine stopAt ?_)
local macro_rules | `(tactic| walk_at "InvEndN") => `(tactic| refine stopAt ?_)
local macro_rules | `(tactic| walk_at "CompSrc") => `(tactic| refine stopAt ?_)
local macro_rules | `(tactic| walk_at "CompEnd") => `(tactic| (k_here; (with_reducible rename News _ _ _ _ => nC'); refine LCg.CompEnd.intro (by assumption) nC' _ (fun _ h => h) (by assumption) (by first | exact True.intro | lcg_src) ⟨rfl, ?_⟩))
set_option maxRecDepth 100000 in
set_option maxHeartbeats 8000000 in
theorem law_ok : PySem.Challenge.rw_ny0077_01.Holds := by
  refine hd.head (by rfl) (by rfl) (by rfl) ?_
  w_strict k_go0
  rename Frag.In _ _ => hX
  rename Top _ _ _ _ _ (ghostOf _ _) => hT
  rename Below _ _ _ _ => hB
  rename Fr _ _ _ _ => F0
  rename News _ _ _ _ => N0
  rename Heap.IsList _ _ _ => hS
  rename IntsAre _ _ => hI
  rename (¬ _ < _) => h63
  rename (@LT.lt Nat _ 137 _) => h137
  rename (Obj.data _ = Data.cell _) => hcell
  rename Heap.CodeRec _ _ _ => q1
  rename Dflts _ _ _ _ _ _ => q2
  rename CellsAre _ _ _ => q3
  rename Ground _ _ _ _ _ _ _ _ _ => q4
  rename Flt.MathXP _ _ _ => q5
  rename LooseAre _ _ _ => q6
  rename Tables _ _ _ _ => q7
  rename TopE _ _ _ _ => q8
  rename TopW _ _ _ => q9
  clear q1 q2 q3 q5 q6 q7 q8 q9 q4 hT8 hT9
  obtain ⟨m0, F1⟩ := fr_gen (x := Str.ofString "script") F0 (by rfl)
  clear F0
  obtain ⟨vc, hcell0⟩ : ∃ v0, Obj.data _ = Data.cell v0 := ⟨_, hcell⟩
  clear hcell
  generalize ghostOf _ _ = gh at *
  k_steps
  refine StopAt.out ?_
  rename Fr _ _ _ _ => F1
  rename News _ _ _ _ => N1
  k_dflt (refine' numbers_ok _ _ _ _ _ _ _ _ _ _ _ _ _ _ _ _ _ _ _ _ _ hB F1 hX N1 hT rfl hS hI ?m1 ?m2 ?m3 ?_)
  case m1 => omega
  case m2 => ktr_room
  case m3 => ktr_units
  intro b i0 ti0 i1 ti1 i2 ti2 i3 ti3 cb h1 tk1 F2 N2 lb
  k_lt lb
  clear F1 N1
  k_steps
  refine StopAt.out ?_
  rename Fr _ _ _ _ => F1
  rename News _ _ _ _ => N1
  refine LCg.CompSrc.ledger (its := #[.int i0 ti0, .int i1 ti1, .int i2 ti2]) rfl F1 N1 (by k_mem) (by show 3 ≤ sizeLine; decide) ?_
  intro g1
  refine rest3 (fun _ y => ∃ l t, y = .str (S l) t ∧ Ok l ∧ l.length ≤ 3) ?turn1 ?fin1
  case turn1 =>
    intro ys v I oI C oC D m₂ h tk E' hv hC hx F3 N3 off ne
    obtain ⟨num, tn, rfl⟩ : ∃ num tn, v = Value.int num tn := by rcases hv with rfl | rfl | rfl <;> exact ⟨_, _, rfl⟩
    clear F1 N1
    k_steps
    refine StopAt.out ?_
    k_dflt (refine' name_ok _ _ _ 3 _ (by decide) _ _ _ _ _ _ _ _ _ _ _ _ _ _ _ _ _ hB F3 hX N3 hT rfl ?m1 ?m2 ?_)
    case m1 => ktr_room
    case m2 => ktr_units
    intro l hOk hlen
    dsimp only [CbRet]
    intro t9 h9 tk9 F4 N4
    clear F3 N3
    k_steps
    exact StopAt.out ⟨l, t9, rfl, hOk, hlen⟩
  case fin1 =>
    rintro _ _ _ ⟨n0, t0, rfl, ok0, ln0⟩ ⟨n1, t1, rfl, ok1, ln1⟩ ⟨n2, t2, rfl, ok2, ln2⟩
    clear F1 N1
    k_steps
    refine StopAt.out ?_
    rename Fr _ _ _ _ => F1
    rename News _ _ _ _ => N1
    refine LCg.CompSrc.ledger (its := #[.int i0 ti0, .int i1 ti1, .int i2 ti2]) rfl F1 N1 (by k_mem) (by show 3 ≤ sizeLine; decide) ?_
    intro g2
    refine rest3 (fun _ y => ∃ b, y = .bool b) ?turn2 ?fin2
    case turn2 =>
      intro ys v I oI C oC D m₂ h tk E' hv hC hx F3 N3 off ne
      obtain ⟨num, tn, rfl⟩ : ∃ num tn, v = Value.int num tn := by rcases hv with rfl | rfl | rfl <;> exact ⟨_, _, rfl⟩
      clear F1 N1
      k_steps
      exact StopAt.out ⟨_, rfl⟩
    case fin2 =>
      rintro _ _ _ ⟨v0, rfl⟩ ⟨v1, rfl⟩ ⟨v2, rfl⟩
      clear F1 N1
      k_steps
      refine StopAt.out ?_
      rename Fr _ _ _ _ => F1
      rename News _ _ _ _ => N1
      k_dflt (refine' name_ok _ _ _ 6 _ (by decide) _ _ _ _ _ _ _ _ _ _ _ _ _ _ _ _ _ hB F1 hX N1 hT rfl ?m3 ?m4 ?_)
      case m3 => ktr_room
      case m4 => ktr_units
      intro la okl lnl
      dsimp only [CbRet]
      intro tla h9 tk9 F2 N2
      clear F1 N1
      k_steps
      refine StopAt.out ?_
      rename Fr _ _ _ _ => F1
      rename News _ _ _ _ => N1
      refine LCg.CompSrc.ledger (its := #[.str (S n0) t0, .str (S n1) t1, .str (S n2) t2]) rfl F1 N1 (by k_mem) (by show 3 ≤ sizeLine; decide) ?_
      intro g3
      refine rest3T dqL ?turn3 ?fin3
      case turn3 =>
        intro ys l t I oI C oC D m₂ h tk E' hl hC hx F3 N3 off ne
        have hll : l.length ≤ 3 := by rcases hl with rfl | rfl | rfl <;> assumption
        clear F1 N1
        k_steps
        refine StopAt.out ?_
        k_dflt (refine' cb_use (doubled_ok _ l _) hB F3 hX N3 hT rfl (by omega) ?m5 ?m6 ?_)
        case m5 => ktr_room
        case m6 => ktr_units
        intro t9 h9 tk9 F4 N4
        clear F3 N3
        k_steps
        exact StopAt.out ⟨_, rfl⟩
      case fin3 =>
        intro w0 w1 w2
        clear F1 N1
        k_steps
        refine StopAt.out ?_
        rename Fr _ _ _ _ => F1
        rename News _ _ _ _ => N1
        refine LCg.CompSrc.ledger (its := #[.str (S (dqL n0)) w0, .str (S (dqL n1)) w1, .str (S (dqL n2)) w2]) rfl F1 N1 (by k_mem) (by show 3 ≤ sizeLine; decide) ?_
        intro g4
        refine rest3T (fun l => parseL (l ++ [34, 32, 34] ++ l)) ?turn4 ?fin4
        case turn4 =>
          intro ys l t I oI C oC D m₂ h tk E' hl hC hx F3 N3 off ne
          have hll : l.length ≤ 6 := dq3 ln0 ln1 ln2 hl
          clear F1 N1
          k_steps
          refine StopAt.out ?_
          rename News _ _ _ _ => N3
          rename Fr _ _ _ _ => F3
          k_dflt (refine' cb_use (parse_ok _ (l ++ [34, 32, 34] ++ l) _) hB F3 hX N3 hT rfl (by simp only [List.length_append, List.length_cons, List.length_nil]; omega) ?m7 ?m8 ?_)
          case m7 => ktr_room
          case m8 => ktr_units
          intro t9 h9 tk9 F4 N4
          clear F3 N3
          k_steps
          exact StopAt.out ⟨_, rfl⟩
        case fin4 =>
          intro p0 p1 p2
          rw [tell, tell, tell]
          clear F1 N1
          k_steps
          refine StopAt.out ?_
          rename Fr _ _ _ _ => F1
          rename News _ _ _ _ => N1
          refine LCg.CompSrc.ledger (its := #[.str (S n0) t0, .str (S n1) t1, .str (S n2) t2]) rfl F1 N1 (by k_mem) (by show 3 ≤ sizeLine; decide) ?_
          intro g5
          refine rest3T (fun l => 46 :: 42 :: escL l) ?turn5 ?fin5
          case turn5 =>
            intro ys l t I oI C oC D m₂ h tk E' hl hC hx F3 N3 off ne
            have hll : l.length ≤ 3 := by rcases hl with rfl | rfl | rfl <;> assumption
            have hok : Ok l := by rcases hl with rfl | rfl | rfl <;> assumption
            clear F1 N1
            k_steps
            refine StopAt.out ?_
            k_dflt (refine' my_use (translate_pattern_ok _ l _) hB F3 hX N3 hT rfl ⟨by omega, hok⟩ ?m9 ?m10 ?_)
            case m9 => ktr_room
            case m10 => ktr_units
            intro t9 h9 tk9 F4 N4
            clear F3 N3
            k_steps
            exact StopAt.out ⟨_, rfl⟩
          case fin5 =>
            intro q0 q1 q2
            clear F1 N1
            k_steps
            refine StopAt.out ?_
            rename News _ _ _ _ => N1
            refine ne_texts3 (News.isList N1 (by k_mem)) (News.isList N1 (by k_mem)) (by ktr_units) ?_
            k_steps
            refine StopAt.out ?_
            rename Fr _ _ _ _ => F1
            rename News _ _ _ _ => N1
            refine LCg.CompSrc.ledger (its := #[.str (S n0) t0, .str (S n1) t1, .str (S n2) t2]) rfl F1 N1 (by k_mem) (by show 3 ≤ sizeLine; decide) ?_
            intro g6
            refine rest3T (fun l => 46 :: 42 :: escL l) ?turn6 ?fin6
            case turn6 =>
              intro ys l t I oI C oC D m₂ h tk E' hl hC hx F3 N3 off ne
              have hll : l.length ≤ 3 := by rcases hl with rfl | rfl | rfl <;> assumption
              clear F1 N1
              k_steps
              refine StopAt.out ?_
              k_dflt (refine' cb_use (pattern_ok _ l _) hB F3 hX N3 hT rfl (by omega) ?m11 ?m12 ?_)
              case m11 => ktr_room
              case m12 => ktr_units
              intro t9 h9 tk9 F4 N4
              clear F3 N3
              k_steps
              exact StopAt.out ⟨_, rfl⟩
            case fin6 =>
              intro r0 r1 r2
              clear F1 N1
              k_steps
              refine StopAt.out ?_
              rename News _ _ _ _ => N1
              refine ne_texts3 (News.isList N1 (by k_mem)) (News.isList N1 (by k_mem)) (by ktr_units) ?_
              k_steps
              refine StopAt.out ?_
              rename Fr _ _ _ _ => F1
              rename News _ _ _ _ => N1
              refine LCg.CompSrc.ledger (its := #[.str (S (46 :: 42 :: escL n0)) q0, .str (S (46 :: 42 :: escL n1)) q1, .str (S (46 :: 42 :: escL n2)) q2]) rfl F1 N1 (by k_mem) (by show 3 ≤ sizeLine; decide) ?_
              intro g7
              refine rest3T (fun l => l.drop 2) ?turn7 ?fin7
              case turn7 =>
                intro ys l t I oI C oC D m₂ h tk E' hl hC hx F3 N3 off ne
                have hll : l.length ≤ 8 ∧ 2 ≤ l.length := esc3 ln0 ln1 ln2 hl
                clear F1 N1
                k_steps
                exact StopAt.out ⟨_, rfl⟩
              case fin7 =>
                intro e0 e1 e2
                rw [show List.drop 2 (46 :: 42 :: escL n0) = escL n0 from rfl, show List.drop 2 (46 :: 42 :: escL n1) = escL n1 from rfl, show List.drop 2 (46 :: 42 :: escL n2) = escL n2 from rfl]
                clear F1 N1
                k_steps
                refine StopAt.out ?_
                rename Fr _ _ _ _ => F1
                rename News _ _ _ _ => N1
                rename (Obj.data _ = Data.cell (some _)) => hcl
                have N2 := recPick N1
                have hK := recK N2 ⟨_, _, rfl⟩ ⟨_, _, rfl⟩ ⟨_, _, rfl⟩ ⟨_, _, rfl⟩ ⟨_, _, rfl⟩ ⟨_, _, rfl⟩ ⟨_, hcl⟩
                refine LCg.CompSrc.ledger (its := #[_, _, _]) rfl F1 N2 (.tail _ (.head _)) (by show 3 ≤ sizeLine; decide) ?_
                intro g8
                show LCg.CompRest _ _ _ _ _ _ _ _ _ _ _ _ _ _ _ 3 0 [] _
                clear F1 N1 N2
                refine LCg.CompRest.succ ?_
                intro v I oI C oC D m₂ h tk E' hv hC hx F3 N3 off ne
                obtain rfl := Option.some.inj hv
                k_steps
                refine StopAt.out ?_
                rename Fr _ _ _ _ => F3
                rename News _ _ _ _ => N3
                k_dflt (refine' record_ok _ [] n0 n1 n2 p0 p1 p2 v0 v1 v2 _ _ 3 3 _ _ _ _ _ _ _ _ _ _ _ _ _ _ _ _ _ hB F3 hX #[] (recA N3 (.tail _ (.tail _ (.head _))) (.tail _ (.tail _ (.tail _ (.tail _ (.head _)))))) (.inl rfl) hT rfl codeHd (rec137 off hK) (hK _ (.tail _ (.tail _ (.head _)))) (hK _ (.tail _ (.tail _ (.tail _ (.tail _ (.head _)))))) ?m21 ?m22 (by omega) (by omega) (by omega) ?_)
                case m21 => ktr_room
                case m22 => ktr_units
                intro x0 new0 ps0 h9 tk9 F4 N4 hn4 hf4 hT0 hR0
                refine LCg.CompEnd.intro F4 (recB N4) _ (fun _ h => h) (recOff off hf4) (.inr ⟨_, .tail _ (.head _), rfl, _, rfl⟩) ?_
                have hK0 := rec137' hn4 hK
                clear F3 N3 F4 N4 hf4 hn4 off ne hC hx
                generalize hacc0 : new0 ++ [] = acc0 at *
                refine LCg.CompRest.succ ?_
                intro v I oI C oC D m₂ h tk E' hv hC hx F3 N3 off ne
                obtain rfl := Option.some.inj hv
                k_steps
                refine StopAt.out ?_
                rename Fr _ _ _ _ => F3
                rename News _ _ _ _ => N3
                k_dflt (refine' record_ok _ acc0 (dqL n0) (dqL n1) (dqL n2) w0 w1 w2 v0 v1 v2 _ _ 3 3 _ _ _ _ _ _ _ _ _ _ _ _ _ _ _ _ _ hB F3 hX ps0 (recA N3 (.tail _ (.tail _ (.tail _ (.head _)))) (.tail _ (.tail _ (.tail _ (.tail _ (.head _)))))) (.inr hT0) hT rfl codeHd (rec137 off hK0) (hK0 _ (.tail _ (.tail _ (.tail _ (.head _))))) (hK0 _ (.tail _ (.tail _ (.tail _ (.tail _ (.head _)))))) ?m21 ?m22 (dqle ln0) (dqle ln1) (dqle ln2) ?_)
                case m21 => ktr_room
                case m22 => ktr_units
                intro x1 new1 ps1 h9 tk9 F4 N4 hn4 hf4 hT1 hR1
                refine LCg.CompEnd.intro F4 (recB N4) _ (fun _ h => h) (recOff off hf4) (.inr ⟨_, .tail _ (.head _), rfl, _, rfl⟩) ?_
                have hK1 := rec137' hn4 hK0
                clear F3 N3 F4 N4 hf4 hn4 off ne hC hx
                generalize hacc1 : new1 ++ acc0 = acc1 at *
                refine LCg.CompRest.succ ?_
                intro v I oI C oC D m₂ h tk E' hv hC hx F3 N3 off ne
                obtain rfl := Option.some.inj hv
                k_steps
                refine StopAt.out ?_
                rename Fr _ _ _ _ => F3
                rename News _ _ _ _ => N3
                k_dflt (refine' record_ok _ acc1 (escL n0) (escL n1) (escL n2) e0 e1 e2 v0 v1 v2 _ _ 3 3 _ _ _ _ _ _ _ _ _ _ _ _ _ _ _ _ _ hB F3 hX ps1 (recA N3 (.tail _ (.head _)) (.tail _ (.tail _ (.tail _ (.tail _ (.head _)))))) (.inr hT1) hT rfl codeHd (rec137 off hK1) (hK1 _ (.tail _ (.head _))) (hK1 _ (.tail _ (.tail _ (.tail _ (.tail _ (.head _)))))) ?m21 ?m22 (escle ln0) (escle ln1) (escle ln2) ?_)
                case m21 => ktr_room
                case m22 => ktr_units
                intro x2 new2 ps2 h9 tk9 F4 N4 hn4 hf4 hT2 hR2
                refine LCg.CompEnd.intro F4 (recB N4) _ (fun _ h => h) (recOff off hf4) (.inr ⟨_, .tail _ (.head _), rfl, _, rfl⟩) ?_
                have hK2 := rec137' hn4 hK1
                clear F3 N3 F4 N4 hf4 hn4 off ne hC hx
                generalize hacc2 : new2 ++ acc1 = acc2 at *
                refine LCg.CompRest.zero ?_
                unfold LCg.FinA
                intro dR h9 tk9 F2 N2 o1
                have hRec0 := (hR0.mono (news' := acc1) (fun q h => hacc1 ▸ List.mem_append_right _ h)).mono (news' := acc2) (fun q h => hacc2 ▸ List.mem_append_right _ h)
                have hRec2 := hR2
                have hRec1 := hR1.mono (news' := acc2) (fun q h => hacc2 ▸ List.mem_append_right _ h)
                have N3 := recLast N2
                clear N2 hT0 hT1 hT2 hK hK0 hK1 hK2 hR0 hR1 hR2 o1
                obtain ⟨m9, F3⟩ := fr_gen3 (x1 := Str.ofString "records") (x2 := Str.ofString "names") (x3 := Str.ofString "last") F2 (by rfl) (by rfl) (by rfl)
                clear F2
                simp only [List.nil_append, List.cons_append, List.singleton_append] at N3
                dsimp only
                k_steps
                refine StopAt.out ?_
                rename Fr _ _ _ _ => F4
                rename News _ _ _ _ => N4
                k_dflt (refine' cb_use (doubled_ok _ la _) hB F4 hX N4 hT rfl (by omega) ?m23 ?m24 ?_)
                case m23 => ktr_room
                case m24 => ktr_units
                intro t9 h10 tk10 F5 N5
                have hdl := dqL_len la
                clear F4 N4
                k_steps
                refine StopAt.out ?_
                rename Fr _ _ _ _ => F6
                rename News _ _ _ _ => N6
                refine loopRange (σ := Unit) _ (fun _ => []) [Str.ofString "come", Str.ofString "pattern", Str.ofString "due", Str.ofString "asked", Str.ofString "k"] (fun _ _ => True) () rfl (by assumption) (by size_fits) (by size_fits) (by size_fits) (by size_fits) F6 N6 ?hk8 ?hp8 ?turn8 ?done8
                case hk8 => exact fun _ h => nomatch h
                case hp8 => trivial
                case turn8 =>
                  intro c i k tc u7 h7 tk7 own he hlt hoff _ F7 N7 q hq
                  clear F6 N6
                  simp only [List.cons_append] at N7
                  have hk5 : 5 ≤ k := by omega
                  obtain ⟨okc, lnc⟩ := come_good okl i
                  have lnc6 : (comeL la (i : Int)).length ≤ 6 := Nat.le_trans lnc lnl
                  have hel := escL_len (comeL la (i : Int))
                  have lcut : (cutL la i).length ≤ 13 := by
                    show (List.take i (dqL la ++ [34])).length ≤ 13
                    rw [List.length_take, List.length_append, List.length_singleton]; omega
                  k_steps
                  refine StopAt.out ?_
                  rw [cut_take la i he]
                  rename Fr _ _ _ _ => F8
                  rename News _ _ _ _ => N8
                  k_dflt (refine' cb_use (parse_ok _ (cutL la i) _) hB F8 hX N8 hT rfl (by omega) ?m25 ?m26 ?_)
                  case m25 => ktr_room
                  case m26 => ktr_units
                  intro t10 h11 tk11 F9 N9
                  rw [cut_come]
                  clear F8 N8
                  k_steps
                  refine StopAt.out ?_
                  rename Fr _ _ _ _ => F8
                  rename News _ _ _ _ => N8
                  k_dflt (refine' my_use (translate_pattern_ok _ (comeL la (i : Int)) _) hB F8 hX N8 hT rfl ⟨by omega, okc⟩ ?m27 ?m28 ?_)
                  case m27 => ktr_room
                  case m28 => ktr_units
                  intro t11 h12 tk12 F9 N9
                  clear F8 N8
                  k_steps
                  refine StopAt.out ?_
                  rename Fr _ _ _ _ => F8
                  rename News _ _ _ _ => N8
                  rw [show k - 5 = (i : Int) by omega]
                  k_dflt (refine' cb_use (come_ok _ la _ (i : Int) _) hB F8 hX N8 hT rfl (by omega) ?m29 ?m30 ?_)
                  case m29 => ktr_room
                  case m30 => ktr_units
                  intro t12 h13 tk13 F9 N9
                  clear F8 N8
                  k_steps
                  refine StopAt.out ?_
                  rename Fr _ _ _ _ => F8
                  rename News _ _ _ _ => N8
                  k_dflt (refine' cb_use (pattern_ok _ (comeL la (i : Int)) _) hB F8 hX N8 hT rfl (by omega) ?m31 ?m32 ?_)
                  case m31 => ktr_room
                  case m32 => ktr_units
                  intro t13 h14 tk14 F9 N9
                  clear F8 N8
                  k_steps
                  refine StopAt.out ?_
                  rename Fr _ _ _ _ => F8
                  rename News _ _ _ _ => N8
                  k_dflt (refine' due_ok _ _ _ n0 n1 n2 t0 t1 t2 v0 v1 v2 3 3 (comeL la (i : Int)) _ _ _ _ _ _ _ _ _ _ _ _ _ _ _ _ _ _ hB F8 hX N8 hT rfl ?m33 ?m34 (by omega) (by omega) (by omega) (by omega) ?_)
                  case m33 => ktr_room
                  case m34 => ktr_units
                  intro bd st sd cbd h15 tk15 hst hsd F9 N9
                  clear F8 N8
                  k_steps
                  refine StopAt.out ?_
                  rename Fr _ _ _ _ => F10
                  rename News _ _ _ _ => N10
                  rw [cut_drop la i he, show List.drop (2 : Int).toNat (46 :: 42 :: escL (comeL la (i : Int))) = escL (comeL la (i : Int)) from rfl] at N10
                  obtain ⟨dx0, ua0, rl0, a10, a20, a30, a40, b10, b20, b30, b40, nn0, cu0, cr0, z00, z10, y00, y10, y20, mx0, md0, -⟩ := id hRec0
                  obtain ⟨dx1, ua1, rl1, a11, a21, a31, a41, b11, b21, b31, b41, nn1, cu1, cr1, z01, z11, y01, y11, y21, mx1, md1, -⟩ := id hRec1
                  obtain ⟨dx2, ua2, rl2, a12, a22, a32, a42, b12, b22, b32, b42, nn2, cu2, cr2, z02, z12, y02, y12, y22, mx2, md2, -⟩ := id hRec2
                  have N11 := news_add2 N10 (in7 (List.mem_append_left own mx0)) (in7 (List.mem_append_left own md0))
                  have N11 := news_add2 N11 (in2 (in7 (List.mem_append_left own mx1))) (in2 (in7 (List.mem_append_left own md1)))
                  have N11 := news_add2 N11 (in2 (in2 (in7 (List.mem_append_left own mx2)))) (in2 (in2 (in7 (List.mem_append_left own md2))))
                  clear N10 mx0 md0 mx1 md1 mx2 md2
                  refine loopRange (σ := Unit) _ (fun _ => []) [] (fun _ _ => True) () rfl (by assumption) (by omega) (by omega) (by omega) (by omega) F10 N11 ?hk9 ?hp9 ?turn9 ?done9
                  case hk9 => exact fun _ h => nomatch h
                  case hp9 => trivial
                  case turn9 =>
                    intro c' j k' tc' u6 h6 tk6 own' he' hlt' hoff' _ F11 N12 q' hq'
                    clear F10 N11
                    simp only [List.cons_append] at N12
                    rcases (by omega : k' = 0 ∨ k' = 1 ∨ k' = 2) with rfl | rfl | rfl
                    · k_steps
                      refine StopAt.out ?_
                      rename Fr _ _ _ _ => F13
                      rename News _ _ _ _ => N13
                      k_dflt (refine' applies_ok _ x0 n0 n1 n2 v0 v1 v2 (comeL la (i : Int)) _ _ _ _ _ _ _ _ _ _ _ _ _ _ _ _ _ _ hB F13 hX N13 (hRec0.mono fun q h => ?hmm) hT rfl ?m41 ?m42 (by omega) (by omega) (by omega) (ok128 ok0) (ok128 ok1) (ok128 okc) ?_ (ok42 ok0) (ok42 ok1))
                      case hmm => first | exact in13 (List.mem_append_left _ (List.mem_append_left _ h)) | exact List.Mem.tail _ (in13 (List.mem_append_left _ (List.mem_append_left _ h)))
                      case m41 => ktr_room
                      case m42 => ktr_units
                      intro ba h16 tk16 hba F14 N14
                      obtain rfl : ba = st := Bool.eq_iff_iff.mpr (hba.trans ((app0 ok0 ok1 okc).trans hst.symm))
                      clear F13 N13
                      k_steps
                      refine StopAt.out ?_
                      rename Fr _ _ _ _ => F13
                      rename News _ _ _ _ => N13
                      k_dflt (refine' allowance_ok _ x0 n0 n1 n2 v0 v1 v2 (comeL la (i : Int)) _ _ _ _ _ _ _ _ _ _ _ _ _ _ _ _ _ _ hB F13 hX N13 (hRec0.mono fun q h => ?hmm) hT rfl ?m41 ?m42 (by omega) (by omega) (by omega) (by omega) ?_)
                      case hmm => first | exact in13 (List.mem_append_left _ (List.mem_append_left _ h)) | exact List.Mem.tail _ (in13 (List.mem_append_left _ (List.mem_append_left _ h)))
                      case m41 => ktr_room
                      case m42 => ktr_units
                      intro h17 tk17 F14 N14
                      rw [show (alRun (comeL la (i : Int)) _ (-1, true)).2 = sd from Bool.eq_iff_iff.mpr ((al0).trans hsd.symm)]
                      clear F13 N13
                      k_steps
                      refine StopAt.out ?_
                      rename News _ _ _ _ => N13
                      refine ne_bools2 (News.isList N13 (.head _)) (News.isList N13 (by k_mem)) (by ktr_units) ?_
                      k_steps
                      refine StopAt.out ?_
                      rename News _ _ _ _ => nE
                      refine loopRange_end () (by assumption) nE (fun p h => ?hma) (fun p h => ?hmb) (fun _ h => nomatch h) (by kst_same) hq' trivial
                      case hma => exact List.Mem.tail _ (app13 h)
                      case hmb => exact List.Mem.tail _ (in13 (List.mem_append_right _ h))
                    · k_steps
                      refine StopAt.out ?_
                      rename Fr _ _ _ _ => F13
                      rename News _ _ _ _ => N13
                      k_dflt (refine' applies_ok _ x1 (dqL n0) (dqL n1) (dqL n2) v0 v1 v2 (cutL la i) _ _ _ _ _ _ _ _ _ _ _ _ _ _ _ _ _ _ hB F13 hX N13 (hRec1.mono fun q h => ?hmm) hT rfl ?m41 ?m42 (dqle ln0) (dqle ln1) (by omega) (ok128 (okDq ok0)) (ok128 (okDq ok1)) (ok128 (okCut okl i)) ?_ (ok42 (okDq ok0)) (ok42 (okDq ok1)))
                      case hmm => first | exact in13 (List.mem_append_left _ (List.mem_append_left _ h)) | exact List.Mem.tail _ (in13 (List.mem_append_left _ (List.mem_append_left _ h)))
                      case m41 => ktr_room
                      case m42 => ktr_units
                      intro ba h16 tk16 hba F14 N14
                      obtain rfl : ba = st := Bool.eq_iff_iff.mpr (hba.trans ((app1 ok0 ok1 okl i).trans hst.symm))
                      clear F13 N13
                      k_steps
                      refine StopAt.out ?_
                      rename Fr _ _ _ _ => F13
                      rename News _ _ _ _ => N13
                      k_dflt (refine' allowance_ok _ x1 (dqL n0) (dqL n1) (dqL n2) v0 v1 v2 (cutL la i) _ _ _ _ _ _ _ _ _ _ _ _ _ _ _ _ _ _ hB F13 hX N13 (hRec1.mono fun q h => ?hmm) hT rfl ?m41 ?m42 (dqle ln0) (dqle ln1) (dqle ln2) (by omega) ?_)
                      case hmm => first | exact in13 (List.mem_append_left _ (List.mem_append_left _ h)) | exact List.Mem.tail _ (in13 (List.mem_append_left _ (List.mem_append_left _ h)))
                      case m41 => ktr_room
                      case m42 => ktr_units
                      intro h17 tk17 F14 N14
                      rw [show (alRun (cutL la i) _ (-1, true)).2 = sd from Bool.eq_iff_iff.mpr ((al1 i).trans hsd.symm)]
                      clear F13 N13
                      k_steps
                      refine StopAt.out ?_
                      rename News _ _ _ _ => N13
                      refine ne_bools2 (News.isList N13 (.head _)) (News.isList N13 (by k_mem)) (by ktr_units) ?_
                      k_steps
                      refine StopAt.out ?_
                      rename News _ _ _ _ => nE
                      refine loopRange_end () (by assumption) nE (fun p h => ?hma) (fun p h => ?hmb) (fun _ h => nomatch h) (by kst_same) hq' trivial
                      case hma => exact List.Mem.tail _ (app13 h)
                      case hmb => exact List.Mem.tail _ (in13 (List.mem_append_right _ h))
                    · k_steps
                      refine StopAt.out ?_
                      rename Fr _ _ _ _ => F13
                      rename News _ _ _ _ => N13
                      k_dflt (refine' applies_ok _ x2 (escL n0) (escL n1) (escL n2) v0 v1 v2 (escL (comeL la (i : Int))) _ _ _ _ _ _ _ _ _ _ _ _ _ _ _ _ _ _ hB F13 hX N13 (hRec2.mono fun q h => ?hmm) hT rfl ?m41 ?m42 (escle ln0) (escle ln1) (by omega) (ok128 (okEsc ok0)) (ok128 (okEsc ok1)) (ok128 (okEsc okc)) ?_ (ok42 (okEsc ok0)) (ok42 (okEsc ok1)))
                      case hmm => first | exact in13 (List.mem_append_left _ (List.mem_append_left _ h)) | exact List.Mem.tail _ (in13 (List.mem_append_left _ (List.mem_append_left _ h)))
                      case m41 => ktr_room
                      case m42 => ktr_units
                      intro ba h16 tk16 hba F14 N14
                      obtain rfl : ba = st := Bool.eq_iff_iff.mpr (hba.trans ((app2 ok0 ok1 okc).trans hst.symm))
                      clear F13 N13
                      k_steps
                      refine StopAt.out ?_
                      rename Fr _ _ _ _ => F13
                      rename News _ _ _ _ => N13
                      k_dflt (refine' allowance_ok _ x2 (escL n0) (escL n1) (escL n2) v0 v1 v2 (escL (comeL la (i : Int))) _ _ _ _ _ _ _ _ _ _ _ _ _ _ _ _ _ _ hB F13 hX N13 (hRec2.mono fun q h => ?hmm) hT rfl ?m41 ?m42 (escle ln0) (escle ln1) (escle ln2) (by omega) ?_)
                      case hmm => first | exact in13 (List.mem_append_left _ (List.mem_append_left _ h)) | exact List.Mem.tail _ (in13 (List.mem_append_left _ (List.mem_append_left _ h)))
                      case m41 => ktr_room
                      case m42 => ktr_units
                      intro h17 tk17 F14 N14
                      rw [show (alRun (escL (comeL la (i : Int))) _ (-1, true)).2 = sd from Bool.eq_iff_iff.mpr ((al2).trans hsd.symm)]
                      clear F13 N13
                      k_steps
                      refine StopAt.out ?_
                      rename News _ _ _ _ => N13
                      refine ne_bools2 (News.isList N13 (.head _)) (News.isList N13 (by k_mem)) (by ktr_units) ?_
                      k_steps
                      refine StopAt.out ?_
                      rename News _ _ _ _ => nE
                      refine loopRange_end () (by assumption) nE (fun p h => ?hma) (fun p h => ?hmb) (fun _ h => nomatch h) (by kst_same) hq' trivial
                      case hma => exact List.Mem.tail _ (app13 h)
                      case hmb => exact List.Mem.tail _ (in13 (List.mem_append_right _ h))
                  case done9 =>
                    intro c' u6 h6 tk6 _ F11 N12
                    clear F10 N11
                    k_steps
                    refine StopAt.out ?_
                    rename News _ _ _ _ => nE
                    refine loopRange_end () (by assumption) nE (fun p h => ?hma) (fun p h => ?hmb) (fun _ h => nomatch h) (by kst_same) hq trivial
                    case hma => exact in8 (app5 h)
                    case hmb => exact in13 (List.mem_append_right _ h)
                case done8 =>
                  intro c u7 h7 tk7 _ F7 N7
                  clear F6 N6
                  walk1
                  walk1
                  walk1
                  dsimp only
                  refine ⟨goodW_bool F7 (by assumption) (raisesW_false ?hn) ?hp, GrownAt.of N7 (.tail _ (.tail _ (.tail _ (.tail _ (.head _))))), trivial⟩
                  case hn => wrow_none_raised
                  case hp => wrow_post
end

end Mine
theorem PySem.Challenge.cw_ny0077_01_holds : PySem.Challenge.rw_ny0077_01.Holds := by
  exact Mine.law_ok

