import PyProof.Rows.All
import Wide.All
import OpenK.AllK
import Wide.FinOn
import Lean
import PySem.Challenge.RW_tl0035_01
set_option Elab.async false
set_option autoImplicit false
set_option maxRecDepth 100000
set_option maxHeartbeats 8000000

-- N0
namespace Mine
open PySem PySem.W PyProof.Rows

/-- the statements of the text, by their places -/
noncomputable def nth : List Stmt → Nat → Option Stmt
  | [], _ => none
  | s :: _, 0 => some s
  | _ :: r, n + 1 => nth r n
noncomputable def topS (i : Nat) : Option Stmt := nth PySem.Challenge.pw_tl0035_01.main.body i
noncomputable def clsS (i : Nat) : Option Stmt := match topS 2 with
  | some (.ClassDef _ _ _ b _ _ _ _ _ _ _) => nth b i
  | _ => none
/-- the object of a def -/
noncomputable def fnO (nm qual md : Str) (pt : Tok) (cd : Addr) (s : Option Stmt) : Obj := match s with
  | some (.FunctionDef _ ps body _ _ _ sc _ _ _) => { cls := .type "function", data := .func (fnOf nm qual ps body sc .none .none .none (.str md pt) none (.ref cd) .none) }
  | _ => default
/-- and of its code, before the def is run -/
noncomputable def prO (nm qual : Str) (s : Option Stmt) : Obj := match s with
  | some (.FunctionDef _ ps body _ _ _ sc _ _ _) => { cls := .none, data := .func { name := nm, qualname := qual, params := ps, body := .stmts body, scope := sc, globals := 0, closure := [], defaults := .none, kwdefaults := .none } }
  | _ => default
noncomputable def ob43 (_ : Params) : Obj := { cls := Value.type "tuple", data := Data.seq #[] }
noncomputable def ob44 (_ : Params) : Obj := { cls := Value.none, data := Data.fields #[] }
noncomputable def ob45 (_ : Params) : Obj := { cls := Value.type "code",   data :=     Data.fields       #[Value.str (Str.ofString "<module>") 182, Value.str (Str.ofString "<module>") 183,         Value.str (Str.ofString "/claim/cut.py") 184, Value.int 1 0, Value.int 0 0, Value.int 0 0, Value.int 0 0,         Value.int 0 0, Value.ref 11, Value.bool false, Value.int 181 0, Value.ref 12, Value.none, Value.none,         Value.none, Value.none, Value.int 185 0, Value.int 1 0, Value.str (Str.ofString "/claim/cut.py") 186] }
noncomputable def ob46 (_ : Params) : Obj := { cls := Value.type "frame",   slots :=     #[some (Value.ref 13), some (Value.ref 3), some (Value.ref 3), none, some (Value.str (Str.ofString "__main__") 164),       none, some (Value.ref 0)] }
noncomputable def ob49 (P : Params) : Obj := { cls := Value.type "dict",   data :=     Data.dict       #[{ hash := PyData.keyHash P (Str.ofString "__name__"), key := Value.str (Str.ofString "__name__") 165,           val := Value.str (Str.ofString "cpy313.tabnanny") 194 },         { hash := PyData.keyHash P (Str.ofString "__doc__"), key := Value.str (Str.ofString "__doc__") 166,           val := Value.none },         { hash := PyData.keyHash P (Str.ofString "__package__"), key := Value.str (Str.ofString "__package__") 167,           val := Value.none },         { hash := PyData.keyHash P (Str.ofString "__loader__"), key := Value.str (Str.ofString "__loader__") 168,           val := Value.builtin "__main__.__loader__#opaque" },         { hash := PyData.keyHash P (Str.ofString "__spec__"), key := Value.str (Str.ofString "__spec__") 169,           val := Value.none },         { hash := PyData.keyHash P (Str.ofString "__annotations__"),           key := Value.str (Str.ofString "__annotations__") 170, val := Value.ref 6 },         { hash := PyData.keyHash P (Str.ofString "__builtins__"), key := Value.str (Str.ofString "__builtins__") 171,           val := Value.ref 4 },         { hash := PyData.keyHash P (Str.ofString "__file__"), key := Value.str (Str.ofString "__file__") 173,           val := Value.str (Str.ofString "/claim/cut.py") 172 },         { hash := PyData.keyHash P (Str.ofString "__cached__"), key := Value.str (Str.ofString "__cached__") 174,           val := Value.none },         { hash := PyData.keyHash P (Str.ofString "_wall"), key := Value.str (Str.ofString "_wall") 193,           val := Value.ref 21 }]       10 }
noncomputable def ob50 (_ : Params) : Obj := { cls := Value.none, data := Data.fields #[Value.int 1 0, Value.int 0 0, Value.ref 20] }
noncomputable def ob51 (_ : Params) : Obj := { cls := Value.type "tuple", data := Data.seq #[] }
noncomputable def ob52 (_ : Params) : Obj := { cls := Value.none, data := Data.fields #[] }
noncomputable def ob53 (_ : Params) : Obj := { cls := Value.type "tuple", data := Data.seq #[Value.str (Str.ofString "k") 190] }
noncomputable def ob54 (_ : Params) : Obj := { cls := Value.type "tuple", data := Data.seq #[] }
noncomputable def ob56 (_ : Params) : Obj := { cls := Value.type "code",   data :=     Data.fields       #[Value.str (Str.ofString "_wall") 187, Value.str (Str.ofString "_wall") 188,         Value.str (Str.ofString "/claim/cut.py") 189, Value.int 1 0, Value.int 1 0, Value.int 0 0, Value.int 0 0,         Value.int 3 0, Value.ref 15, Value.bool true, Value.int 181 0, Value.ref 16, Value.none, Value.ref 17,         Value.ref 18, Value.ref 19, Value.int 191 0, Value.int 1 0, Value.str (Str.ofString "/claim/cut.py") 192] }
noncomputable def ob58 (P : Params) : Obj := { cls := Value.type "dict",   data :=     Data.dict       #[{ hash := PyData.keyHash P (Str.ofString "__name__"), key := Value.str (Str.ofString "__name__") 165,           val := Value.str (Str.ofString "cpy313.tabnanny") 194 },         { hash := PyData.keyHash P (Str.ofString "__doc__"), key := Value.str (Str.ofString "__doc__") 166,           val := Value.none },         { hash := PyData.keyHash P (Str.ofString "__package__"), key := Value.str (Str.ofString "__package__") 167,           val := Value.none },         { hash := PyData.keyHash P (Str.ofString "__loader__"), key := Value.str (Str.ofString "__loader__") 168,           val := Value.builtin "__main__.__loader__#opaque" },         { hash := PyData.keyHash P (Str.ofString "__spec__"), key := Value.str (Str.ofString "__spec__") 169,           val := Value.none },         { hash := PyData.keyHash P (Str.ofString "__annotations__"),           key := Value.str (Str.ofString "__annotations__") 170, val := Value.ref 6 },         { hash := PyData.keyHash P (Str.ofString "__builtins__"), key := Value.str (Str.ofString "__builtins__") 171,           val := Value.ref 4 },         { hash := PyData.keyHash P (Str.ofString "__file__"), key := Value.str (Str.ofString "__file__") 173,           val := Value.str (Str.ofString "/claim/cut.py") 172 },         { hash := PyData.keyHash P (Str.ofString "__cached__"), key := Value.str (Str.ofString "__cached__") 174,           val := Value.none },         { hash := PyData.keyHash P (Str.ofString "_wall"), key := Value.str (Str.ofString "_wall") 193,           val := Value.ref 21 },         { hash := PyData.keyHash P (Str.ofString "Whitespace"), key := Value.str (Str.ofString "Whitespace") 295,           val := Value.ref 83 }]       11 }
noncomputable def ob59 (_ : Params) : Obj := { cls := Value.none,   data := Data.fields #[Value.int 1 0, Value.int 0 0, Value.ref 20, Value.int 5 0, Value.int 0 0, Value.ref 27] }
noncomputable def ob60 (_ : Params) : Obj := { cls := Value.type "tuple", data := Data.seq #[] }
noncomputable def ob61 (_ : Params) : Obj := { cls := Value.type "builtin_function_or_method",   data := Data.fields #[Value.builtin "type.__prepare__", Value.type "type"] }
noncomputable def ob62 (P : Params) : Obj := { cls := Value.type "dict",   data :=     Data.dict       #[{ hash := PyData.keyHash P (Str.ofString "__module__"), key := Value.str (Str.ofString "__module__") 203,           val := Value.str (Str.ofString "cpy313.tabnanny") 194 },         { hash := PyData.keyHash P (Str.ofString "__qualname__"), key := Value.str (Str.ofString "__qualname__") 205,           val := Value.str (Str.ofString "Whitespace") 204 },         { hash := PyData.keyHash P (Str.ofString "__firstlineno__"),           key := Value.str (Str.ofString "__firstlineno__") 207, val := Value.int 5 206 },         { hash := PyData.keyHash P (Str.ofString "S"), key := Value.str (Str.ofString "S") 211,           val := Value.str (Str.ofString " ") 209 },         { hash := PyData.keyHash P (Str.ofString "T"), key := Value.str (Str.ofString "T") 212,           val := Value.str (Str.ofString "\t") 210 },         { hash := PyData.keyHash P (Str.ofString "__init__"), key := Value.str (Str.ofString "__init__") 227,           val := Value.ref 38 },         { hash := PyData.keyHash P (Str.ofString "longest_run_of_spaces"),           key := Value.str (Str.ofString "longest_run_of_spaces") 236, val := Value.ref 45 },         { hash := PyData.keyHash P (Str.ofString "indent_level"), key := Value.str (Str.ofString "indent_level") 248,           val := Value.ref 52 },         { hash := PyData.keyHash P (Str.ofString "equal"), key := Value.str (Str.ofString "equal") 256,           val := Value.ref 59 },         { hash := PyData.keyHash P (Str.ofString "not_equal_witness"),           key := Value.str (Str.ofString "not_equal_witness") 264, val := Value.ref 66 },         { hash := PyData.keyHash P (Str.ofString "less"), key := Value.str (Str.ofString "less") 274,           val := Value.ref 73 },         { hash := PyData.keyHash P (Str.ofString "not_less_witness"),           key := Value.str (Str.ofString "not_less_witness") 282, val := Value.ref 80 },         { hash := PyData.keyHash P (Str.ofString "__static_attributes__"),           key := Value.str (Str.ofString "__static_attributes__") 288, val := Value.ref 81 }]       13 }
noncomputable def ob63 (_ : Params) : Obj := { cls := Value.type "tuple", data := Data.seq #[] }
noncomputable def ob64 (_ : Params) : Obj := { cls := Value.none,   data :=     Data.fields       #[Value.int 8 0, Value.int 4 0, Value.ref 37, Value.int 31 0, Value.int 4 0, Value.ref 44, Value.int 35 0,         Value.int 4 0, Value.ref 51, Value.int 42 0, Value.int 4 0, Value.ref 58, Value.int 45 0, Value.int 4 0,         Value.ref 65, Value.int 48 0, Value.int 4 0, Value.ref 72, Value.int 59 0, Value.int 4 0, Value.ref 79] }
noncomputable def ob65 (_ : Params) : Obj := { cls := Value.type "code",   data :=     Data.fields       #[Value.str (Str.ofString "Whitespace") 198, Value.str (Str.ofString "Whitespace") 199,         Value.str (Str.ofString "/claim/cut.py") 200, Value.int 5 0, Value.int 0 0, Value.int 0 0, Value.int 0 0,         Value.int 0 0, Value.ref 25, Value.bool false, Value.int 181 0, Value.ref 26, Value.none, Value.none,         Value.none, Value.none, Value.int 201 0, Value.int 5 0, Value.str (Str.ofString "/claim/cut.py") 202] }
noncomputable def ob66 (_ : Params) : Obj := { cls := Value.type "frame",   slots :=     #[some (Value.ref 27), some (Value.ref 3), some (Value.ref 24), none,       some (Value.str (Str.ofString "cpy313.tabnanny") 194), none, some (Value.ref 0)] }
noncomputable def ob67 (_ : Params) : Obj := { cls := Value.type "str_ascii_iterator", data := Data.fields #[Value.none, Value.int 2 0] }
noncomputable def ob68 (_ : Params) : Obj := { cls := Value.type "tuple", data := Data.seq #[] }
noncomputable def ob69 (_ : Params) : Obj := { cls := Value.type "StopIteration",   data := Data.fields #[Value.ref 30, Value.none, Value.none, Value.none, Value.bool false, Value.none] }
noncomputable def ob70 (_ : Params) : Obj := { cls := Value.type "tuple", data := Data.seq #[] }
noncomputable def ob71 (_ : Params) : Obj := { cls := Value.none, data := Data.fields #[] }
noncomputable def ob72 (_ : Params) : Obj := { cls := Value.type "tuple",   data :=     Data.seq       #[Value.str (Str.ofString "self") 216, Value.str (Str.ofString "ws") 217, Value.str (Str.ofString "S") 218,         Value.str (Str.ofString "T") 219, Value.str (Str.ofString "count") 220, Value.str (Str.ofString "b") 221,         Value.str (Str.ofString "n") 222, Value.str (Str.ofString "nt") 223, Value.str (Str.ofString "ch") 224] }
noncomputable def ob73 (_ : Params) : Obj := { cls := Value.type "tuple", data := Data.seq #[] }
noncomputable def ob75 (_ : Params) : Obj := { cls := Value.type "code",   data :=     Data.fields       #[Value.str (Str.ofString "__init__") 213, Value.str (Str.ofString "Whitespace.__init__") 214,         Value.str (Str.ofString "/claim/cut.py") 215, Value.int 8 0, Value.int 2 0, Value.int 0 0, Value.int 0 0,         Value.int 3 0, Value.ref 32, Value.bool true, Value.int 181 0, Value.ref 33, Value.none, Value.ref 34,         Value.ref 35, Value.ref 36, Value.int 225 0, Value.int 8 0, Value.str (Str.ofString "/claim/cut.py") 226] }
noncomputable def ob77 (_ : Params) : Obj := { cls := Value.type "tuple", data := Data.seq #[] }
noncomputable def ob78 (_ : Params) : Obj := { cls := Value.none, data := Data.fields #[] }
noncomputable def ob79 (_ : Params) : Obj := { cls := Value.type "tuple",   data :=     Data.seq       #[Value.str (Str.ofString "self") 231, Value.str (Str.ofString "count") 232,         Value.str (Str.ofString "trailing") 233] }
noncomputable def ob80 (_ : Params) : Obj := { cls := Value.type "tuple", data := Data.seq #[] }
noncomputable def ob82 (_ : Params) : Obj := { cls := Value.type "code",   data :=     Data.fields       #[Value.str (Str.ofString "longest_run_of_spaces") 228,         Value.str (Str.ofString "Whitespace.longest_run_of_spaces") 229, Value.str (Str.ofString "/claim/cut.py") 230,         Value.int 31 0, Value.int 1 0, Value.int 0 0, Value.int 0 0, Value.int 3 0, Value.ref 39, Value.bool true,         Value.int 181 0, Value.ref 40, Value.none, Value.ref 41, Value.ref 42, Value.ref 43, Value.int 234 0,         Value.int 31 0, Value.str (Str.ofString "/claim/cut.py") 235] }
noncomputable def ob84 (_ : Params) : Obj := { cls := Value.type "tuple", data := Data.seq #[] }
noncomputable def ob85 (_ : Params) : Obj := { cls := Value.none, data := Data.fields #[] }
noncomputable def ob86 (_ : Params) : Obj := { cls := Value.type "tuple",   data :=     Data.seq       #[Value.str (Str.ofString "self") 240, Value.str (Str.ofString "tabsize") 241,         Value.str (Str.ofString "count") 242, Value.str (Str.ofString "trailing") 243,         Value.str (Str.ofString "il") 244, Value.str (Str.ofString "i") 245] }
noncomputable def ob87 (_ : Params) : Obj := { cls := Value.type "tuple", data := Data.seq #[] }
noncomputable def ob89 (_ : Params) : Obj := { cls := Value.type "code",   data :=     Data.fields       #[Value.str (Str.ofString "indent_level") 237, Value.str (Str.ofString "Whitespace.indent_level") 238,         Value.str (Str.ofString "/claim/cut.py") 239, Value.int 35 0, Value.int 2 0, Value.int 0 0, Value.int 0 0,         Value.int 3 0, Value.ref 46, Value.bool true, Value.int 181 0, Value.ref 47, Value.none, Value.ref 48,         Value.ref 49, Value.ref 50, Value.int 246 0, Value.int 35 0, Value.str (Str.ofString "/claim/cut.py") 247] }
noncomputable def ob91 (_ : Params) : Obj := { cls := Value.type "tuple", data := Data.seq #[] }
noncomputable def ob92 (_ : Params) : Obj := { cls := Value.none, data := Data.fields #[] }
noncomputable def ob93 (_ : Params) : Obj := { cls := Value.type "tuple",   data := Data.seq #[Value.str (Str.ofString "self") 252, Value.str (Str.ofString "other") 253] }
noncomputable def ob94 (_ : Params) : Obj := { cls := Value.type "tuple", data := Data.seq #[] }
noncomputable def ob96 (_ : Params) : Obj := { cls := Value.type "code",   data :=     Data.fields       #[Value.str (Str.ofString "equal") 249, Value.str (Str.ofString "Whitespace.equal") 250,         Value.str (Str.ofString "/claim/cut.py") 251, Value.int 42 0, Value.int 2 0, Value.int 0 0, Value.int 0 0,         Value.int 3 0, Value.ref 53, Value.bool true, Value.int 181 0, Value.ref 54, Value.none, Value.ref 55,         Value.ref 56, Value.ref 57, Value.int 254 0, Value.int 42 0, Value.str (Str.ofString "/claim/cut.py") 255] }
noncomputable def ob98 (_ : Params) : Obj := { cls := Value.type "tuple", data := Data.seq #[] }
noncomputable def ob99 (_ : Params) : Obj := { cls := Value.none, data := Data.fields #[] }
noncomputable def ob100 (_ : Params) : Obj := { cls := Value.type "tuple",   data := Data.seq #[Value.str (Str.ofString "self") 260, Value.str (Str.ofString "other") 261] }
noncomputable def ob101 (_ : Params) : Obj := { cls := Value.type "tuple", data := Data.seq #[] }
noncomputable def ob103 (_ : Params) : Obj := { cls := Value.type "code",   data :=     Data.fields       #[Value.str (Str.ofString "not_equal_witness") 257, Value.str (Str.ofString "Whitespace.not_equal_witness") 258,         Value.str (Str.ofString "/claim/cut.py") 259, Value.int 45 0, Value.int 2 0, Value.int 0 0, Value.int 0 0,         Value.int 3 0, Value.ref 60, Value.bool true, Value.int 181 0, Value.ref 61, Value.none, Value.ref 62,         Value.ref 63, Value.ref 64, Value.int 262 0, Value.int 45 0, Value.str (Str.ofString "/claim/cut.py") 263] }
noncomputable def ob105 (_ : Params) : Obj := { cls := Value.type "tuple", data := Data.seq #[] }
noncomputable def ob106 (_ : Params) : Obj := { cls := Value.none, data := Data.fields #[] }
noncomputable def ob107 (_ : Params) : Obj := { cls := Value.type "tuple",   data :=     Data.seq       #[Value.str (Str.ofString "self") 268, Value.str (Str.ofString "other") 269, Value.str (Str.ofString "n") 270,         Value.str (Str.ofString "ts") 271] }
noncomputable def ob108 (_ : Params) : Obj := { cls := Value.type "tuple", data := Data.seq #[] }
noncomputable def ob110 (_ : Params) : Obj := { cls := Value.type "code",   data :=     Data.fields       #[Value.str (Str.ofString "less") 265, Value.str (Str.ofString "Whitespace.less") 266,         Value.str (Str.ofString "/claim/cut.py") 267, Value.int 48 0, Value.int 2 0, Value.int 0 0, Value.int 0 0,         Value.int 3 0, Value.ref 67, Value.bool true, Value.int 181 0, Value.ref 68, Value.none, Value.ref 69,         Value.ref 70, Value.ref 71, Value.int 272 0, Value.int 48 0, Value.str (Str.ofString "/claim/cut.py") 273] }
noncomputable def ob112 (_ : Params) : Obj := { cls := Value.type "tuple", data := Data.seq #[] }
noncomputable def ob113 (_ : Params) : Obj := { cls := Value.none, data := Data.fields #[] }
noncomputable def ob114 (_ : Params) : Obj := { cls := Value.type "tuple",   data := Data.seq #[Value.str (Str.ofString "self") 278, Value.str (Str.ofString "other") 279] }
noncomputable def ob115 (_ : Params) : Obj := { cls := Value.type "tuple", data := Data.seq #[] }
noncomputable def ob117 (_ : Params) : Obj := { cls := Value.type "code",   data :=     Data.fields       #[Value.str (Str.ofString "not_less_witness") 275, Value.str (Str.ofString "Whitespace.not_less_witness") 276,         Value.str (Str.ofString "/claim/cut.py") 277, Value.int 59 0, Value.int 2 0, Value.int 0 0, Value.int 0 0,         Value.int 3 0, Value.ref 74, Value.bool true, Value.int 181 0, Value.ref 75, Value.none, Value.ref 76,         Value.ref 77, Value.ref 78, Value.int 280 0, Value.int 59 0, Value.str (Str.ofString "/claim/cut.py") 281] }
noncomputable def ob119 (_ : Params) : Obj := { cls := Value.type "tuple",   data :=     Data.seq       #[Value.str (Str.ofString "is_simple") 283, Value.str (Str.ofString "n") 284, Value.str (Str.ofString "norm") 285,         Value.str (Str.ofString "nt") 286, Value.str (Str.ofString "raw") 287] }
noncomputable def ob120 (P : Params) : Obj := { cls := Value.type "dict",   data :=     Data.dict       #[{ hash := PyData.keyHash P (Str.ofString "__module__"), key := Value.str (Str.ofString "__module__") 203,           val := Value.str (Str.ofString "cpy313.tabnanny") 194 },         { hash := PyData.keyHash P (Str.ofString "__firstlineno__"),           key := Value.str (Str.ofString "__firstlineno__") 207, val := Value.int 5 206 },         { hash := PyData.keyHash P (Str.ofString "S"), key := Value.str (Str.ofString "S") 211,           val := Value.str (Str.ofString " ") 209 },         { hash := PyData.keyHash P (Str.ofString "T"), key := Value.str (Str.ofString "T") 212,           val := Value.str (Str.ofString "\t") 210 },         { hash := PyData.keyHash P (Str.ofString "__init__"), key := Value.str (Str.ofString "__init__") 227,           val := Value.ref 38 },         { hash := PyData.keyHash P (Str.ofString "longest_run_of_spaces"),           key := Value.str (Str.ofString "longest_run_of_spaces") 236, val := Value.ref 45 },         { hash := PyData.keyHash P (Str.ofString "indent_level"), key := Value.str (Str.ofString "indent_level") 248,           val := Value.ref 52 },         { hash := PyData.keyHash P (Str.ofString "equal"), key := Value.str (Str.ofString "equal") 256,           val := Value.ref 59 },         { hash := PyData.keyHash P (Str.ofString "not_equal_witness"),           key := Value.str (Str.ofString "not_equal_witness") 264, val := Value.ref 66 },         { hash := PyData.keyHash P (Str.ofString "less"), key := Value.str (Str.ofString "less") 274,           val := Value.ref 73 },         { hash := PyData.keyHash P (Str.ofString "not_less_witness"),           key := Value.str (Str.ofString "not_less_witness") 282, val := Value.ref 80 },         { hash := PyData.keyHash P (Str.ofString "__static_attributes__"),           key := Value.str (Str.ofString "__static_attributes__") 288, val := Value.ref 81 },         { hash := PyData.keyHash P (Str.ofString "__dict__"), key := Value.str (Str.ofString "__dict__") 290,           val := Value.ref 84 },         { hash := PyData.keyHash P (Str.ofString "__weakref__"), key := Value.str (Str.ofString "__weakref__") 292,           val := Value.ref 85 },         { hash := PyData.keyHash P (Str.ofString "__doc__"), key := Value.str (Str.ofString "__doc__") 293,           val := Value.none }]       4 }
noncomputable def ob121 (_ : Params) : Obj := { cls := Value.type "type",   data :=     Data.cls       { name := Str.ofString "Whitespace", bases := [Value.type "object"], mro := [Value.ref 83, Value.type "object"],         ns := 82, qualname := Str.ofString "Whitespace" },   slots :=     #[none, none, some (Value.str (Str.ofString "Whitespace") 196), some (Value.str (Str.ofString "Whitespace") 204),       some (Value.builtin "object.__new__"), some (Value.bool true)] }
noncomputable def ob122 (_ : Params) : Obj := { cls := Value.type "getset_descriptor",   data :=     Data.fields       #[Value.str (Str.ofString "__dict__") 289, Value.ref 83, Value.builtin "function.__dict__",         Value.builtin "function.__dict__#set"] }
noncomputable def ob123 (_ : Params) : Obj := { cls := Value.type "getset_descriptor",   data :=     Data.fields       #[Value.str (Str.ofString "__weakref__") 291, Value.ref 83, Value.builtin "ExceptionGroup.__weakref__",         Value.none] }
noncomputable def ob124 (_ : Params) : Obj := { cls := Value.type "super", data := Data.fields #[Value.ref 83, Value.ref 83, Value.ref 83] }
noncomputable def ob125 (_ : Params) : Obj := { cls := Value.type "builtin_function_or_method",   data := Data.fields #[Value.builtin "object.__init_subclass__", Value.ref 83] }
noncomputable def ob128 (P : Params) : Obj := { cls := Value.type "dict",   data :=     Data.dict       #[{ hash := PyData.keyHash P (Str.ofString "__name__"), key := Value.str (Str.ofString "__name__") 165,           val := Value.str (Str.ofString "cpy313.operator") 296 },         { hash := PyData.keyHash P (Str.ofString "__doc__"), key := Value.str (Str.ofString "__doc__") 166,           val := Value.none },         { hash := PyData.keyHash P (Str.ofString "__package__"), key := Value.str (Str.ofString "__package__") 167,           val := Value.none },         { hash := PyData.keyHash P (Str.ofString "__loader__"), key := Value.str (Str.ofString "__loader__") 168,           val := Value.builtin "__main__.__loader__#opaque" },         { hash := PyData.keyHash P (Str.ofString "__spec__"), key := Value.str (Str.ofString "__spec__") 169,           val := Value.none },         { hash := PyData.keyHash P (Str.ofString "__annotations__"),           key := Value.str (Str.ofString "__annotations__") 170, val := Value.ref 6 },         { hash := PyData.keyHash P (Str.ofString "__builtins__"), key := Value.str (Str.ofString "__builtins__") 171,           val := Value.ref 4 },         { hash := PyData.keyHash P (Str.ofString "__file__"), key := Value.str (Str.ofString "__file__") 173,           val := Value.str (Str.ofString "/claim/cut.py") 172 },         { hash := PyData.keyHash P (Str.ofString "__cached__"), key := Value.str (Str.ofString "__cached__") 174,           val := Value.none },         { hash := PyData.keyHash P (Str.ofString "_wall"), key := Value.str (Str.ofString "_wall") 193,           val := Value.ref 21 },         { hash := PyData.keyHash P (Str.ofString "Whitespace"), key := Value.str (Str.ofString "Whitespace") 295,           val := Value.ref 83 },         { hash := PyData.keyHash P (Str.ofString "lt"), key := Value.str (Str.ofString "lt") 305, val := Value.ref 94 },         { hash := PyData.keyHash P (Str.ofString "gt"), key := Value.str (Str.ofString "gt") 313,           val := Value.ref 101 },         { hash := PyData.keyHash P (Str.ofString "mul"), key := Value.str (Str.ofString "mul") 321,           val := Value.ref 108 },         { hash := PyData.keyHash P (Str.ofString "sub"), key := Value.str (Str.ofString "sub") 329,           val := Value.ref 115 },         { hash := PyData.keyHash P (Str.ofString "concat"), key := Value.str (Str.ofString "concat") 338,           val := Value.ref 122 },         { hash := PyData.keyHash P (Str.ofString "getitem"), key := Value.str (Str.ofString "getitem") 346,           val := Value.ref 129 },         { hash := PyData.keyHash P (Str.ofString "indexOf"), key := Value.str (Str.ofString "indexOf") 356,           val := Value.ref 136 },         { hash := PyData.keyHash P (Str.ofString "setitem"), key := Value.str (Str.ofString "setitem") 365,           val := Value.ref 143 },         { hash := PyData.keyHash P (Str.ofString "LPAR"), key := Value.str (Str.ofString "LPAR") 367,           val := Value.int 7 366 },         { hash := PyData.keyHash P (Str.ofString "RPAR"), key := Value.str (Str.ofString "RPAR") 369,           val := Value.int 8 368 },         { hash := PyData.keyHash P (Str.ofString "LSQB"), key := Value.str (Str.ofString "LSQB") 371,           val := Value.int 9 370 },         { hash := PyData.keyHash P (Str.ofString "RSQB"), key := Value.str (Str.ofString "RSQB") 373,           val := Value.int 10 372 },         { hash := PyData.keyHash P (Str.ofString "COLON"), key := Value.str (Str.ofString "COLON") 375,           val := Value.int 11 374 },         { hash := PyData.keyHash P (Str.ofString "COMMA"), key := Value.str (Str.ofString "COMMA") 377,           val := Value.int 12 376 },         { hash := PyData.keyHash P (Str.ofString "SEMI"), key := Value.str (Str.ofString "SEMI") 379,           val := Value.int 13 378 },         { hash := PyData.keyHash P (Str.ofString "PLUS"), key := Value.str (Str.ofString "PLUS") 381,           val := Value.int 14 380 },         { hash := PyData.keyHash P (Str.ofString "MINUS"), key := Value.str (Str.ofString "MINUS") 383,           val := Value.int 15 382 },         { hash := PyData.keyHash P (Str.ofString "STAR"), key := Value.str (Str.ofString "STAR") 385,           val := Value.int 16 384 },         { hash := PyData.keyHash P (Str.ofString "SLASH"), key := Value.str (Str.ofString "SLASH") 387,           val := Value.int 17 386 },         { hash := PyData.keyHash P (Str.ofString "VBAR"), key := Value.str (Str.ofString "VBAR") 389,           val := Value.int 18 388 },         { hash := PyData.keyHash P (Str.ofString "AMPER"), key := Value.str (Str.ofString "AMPER") 391,           val := Value.int 19 390 },         { hash := PyData.keyHash P (Str.ofString "LESS"), key := Value.str (Str.ofString "LESS") 393,           val := Value.int 20 392 },         { hash := PyData.keyHash P (Str.ofString "GREATER"), key := Value.str (Str.ofString "GREATER") 395,           val := Value.int 21 394 },         { hash := PyData.keyHash P (Str.ofString "EQUAL"), key := Value.str (Str.ofString "EQUAL") 397,           val := Value.int 22 396 }]       35 }
noncomputable def ob129 (_ : Params) : Obj := { cls := Value.none,   data :=     Data.fields       #[Value.int 1 0, Value.int 0 0, Value.ref 20, Value.int 5 0, Value.int 0 0, Value.ref 27, Value.int 62 0,         Value.int 0 0, Value.ref 93, Value.int 64 0, Value.int 0 0, Value.ref 100, Value.int 66 0, Value.int 0 0,         Value.ref 107, Value.int 68 0, Value.int 0 0, Value.ref 114, Value.int 70 0, Value.int 0 0, Value.ref 121,         Value.int 75 0, Value.int 0 0, Value.ref 128, Value.int 77 0, Value.int 0 0, Value.ref 135, Value.int 83 0,         Value.int 0 0, Value.ref 142] }
noncomputable def ob130 (_ : Params) : Obj := { cls := Value.type "tuple", data := Data.seq #[] }
noncomputable def ob131 (_ : Params) : Obj := { cls := Value.none, data := Data.fields #[] }
noncomputable def ob132 (_ : Params) : Obj := { cls := Value.type "tuple", data := Data.seq #[Value.str (Str.ofString "a") 301, Value.str (Str.ofString "b") 302] }
noncomputable def ob133 (_ : Params) : Obj := { cls := Value.type "tuple", data := Data.seq #[] }
noncomputable def ob135 (_ : Params) : Obj := { cls := Value.type "code",   data :=     Data.fields       #[Value.str (Str.ofString "lt") 298, Value.str (Str.ofString "lt") 299,         Value.str (Str.ofString "/claim/cut.py") 300, Value.int 62 0, Value.int 2 0, Value.int 0 0, Value.int 0 0,         Value.int 3 0, Value.ref 88, Value.bool true, Value.int 181 0, Value.ref 89, Value.none, Value.ref 90,         Value.ref 91, Value.ref 92, Value.int 303 0, Value.int 62 0, Value.str (Str.ofString "/claim/cut.py") 304] }
noncomputable def ob137 (_ : Params) : Obj := { cls := Value.type "tuple", data := Data.seq #[] }
noncomputable def ob138 (_ : Params) : Obj := { cls := Value.none, data := Data.fields #[] }
noncomputable def ob139 (_ : Params) : Obj := { cls := Value.type "tuple", data := Data.seq #[Value.str (Str.ofString "a") 309, Value.str (Str.ofString "b") 310] }
noncomputable def ob140 (_ : Params) : Obj := { cls := Value.type "tuple", data := Data.seq #[] }
noncomputable def ob142 (_ : Params) : Obj := { cls := Value.type "code",   data :=     Data.fields       #[Value.str (Str.ofString "gt") 306, Value.str (Str.ofString "gt") 307,         Value.str (Str.ofString "/claim/cut.py") 308, Value.int 64 0, Value.int 2 0, Value.int 0 0, Value.int 0 0,         Value.int 3 0, Value.ref 95, Value.bool true, Value.int 181 0, Value.ref 96, Value.none, Value.ref 97,         Value.ref 98, Value.ref 99, Value.int 311 0, Value.int 64 0, Value.str (Str.ofString "/claim/cut.py") 312] }
noncomputable def ob144 (_ : Params) : Obj := { cls := Value.type "tuple", data := Data.seq #[] }
noncomputable def ob145 (_ : Params) : Obj := { cls := Value.none, data := Data.fields #[] }
noncomputable def ob146 (_ : Params) : Obj := { cls := Value.type "tuple", data := Data.seq #[Value.str (Str.ofString "a") 317, Value.str (Str.ofString "b") 318] }
noncomputable def ob147 (_ : Params) : Obj := { cls := Value.type "tuple", data := Data.seq #[] }
noncomputable def ob149 (_ : Params) : Obj := { cls := Value.type "code",   data :=     Data.fields       #[Value.str (Str.ofString "mul") 314, Value.str (Str.ofString "mul") 315,         Value.str (Str.ofString "/claim/cut.py") 316, Value.int 66 0, Value.int 2 0, Value.int 0 0, Value.int 0 0,         Value.int 3 0, Value.ref 102, Value.bool true, Value.int 181 0, Value.ref 103, Value.none, Value.ref 104,         Value.ref 105, Value.ref 106, Value.int 319 0, Value.int 66 0, Value.str (Str.ofString "/claim/cut.py") 320] }
noncomputable def ob151 (_ : Params) : Obj := { cls := Value.type "tuple", data := Data.seq #[] }
noncomputable def ob152 (_ : Params) : Obj := { cls := Value.none, data := Data.fields #[] }
noncomputable def ob153 (_ : Params) : Obj := { cls := Value.type "tuple", data := Data.seq #[Value.str (Str.ofString "a") 325, Value.str (Str.ofString "b") 326] }
noncomputable def ob154 (_ : Params) : Obj := { cls := Value.type "tuple", data := Data.seq #[] }
noncomputable def ob156 (_ : Params) : Obj := { cls := Value.type "code",   data :=     Data.fields       #[Value.str (Str.ofString "sub") 322, Value.str (Str.ofString "sub") 323,         Value.str (Str.ofString "/claim/cut.py") 324, Value.int 68 0, Value.int 2 0, Value.int 0 0, Value.int 0 0,         Value.int 3 0, Value.ref 109, Value.bool true, Value.int 181 0, Value.ref 110, Value.none, Value.ref 111,         Value.ref 112, Value.ref 113, Value.int 327 0, Value.int 68 0, Value.str (Str.ofString "/claim/cut.py") 328] }
noncomputable def ob158 (_ : Params) : Obj := { cls := Value.type "tuple", data := Data.seq #[] }
noncomputable def ob159 (_ : Params) : Obj := { cls := Value.none, data := Data.fields #[] }
noncomputable def ob160 (_ : Params) : Obj := { cls := Value.type "tuple",   data :=     Data.seq #[Value.str (Str.ofString "a") 333, Value.str (Str.ofString "b") 334, Value.str (Str.ofString "msg") 335] }
noncomputable def ob161 (_ : Params) : Obj := { cls := Value.type "tuple", data := Data.seq #[] }
noncomputable def ob163 (_ : Params) : Obj := { cls := Value.type "code",   data :=     Data.fields       #[Value.str (Str.ofString "concat") 330, Value.str (Str.ofString "concat") 331,         Value.str (Str.ofString "/claim/cut.py") 332, Value.int 70 0, Value.int 2 0, Value.int 0 0, Value.int 0 0,         Value.int 3 0, Value.ref 116, Value.bool true, Value.int 181 0, Value.ref 117, Value.none, Value.ref 118,         Value.ref 119, Value.ref 120, Value.int 336 0, Value.int 70 0, Value.str (Str.ofString "/claim/cut.py") 337] }
noncomputable def ob165 (_ : Params) : Obj := { cls := Value.type "tuple", data := Data.seq #[] }
noncomputable def ob166 (_ : Params) : Obj := { cls := Value.none, data := Data.fields #[] }
noncomputable def ob167 (_ : Params) : Obj := { cls := Value.type "tuple", data := Data.seq #[Value.str (Str.ofString "a") 342, Value.str (Str.ofString "b") 343] }
noncomputable def ob168 (_ : Params) : Obj := { cls := Value.type "tuple", data := Data.seq #[] }
noncomputable def ob170 (_ : Params) : Obj := { cls := Value.type "code",   data :=     Data.fields       #[Value.str (Str.ofString "getitem") 339, Value.str (Str.ofString "getitem") 340,         Value.str (Str.ofString "/claim/cut.py") 341, Value.int 75 0, Value.int 2 0, Value.int 0 0, Value.int 0 0,         Value.int 3 0, Value.ref 123, Value.bool true, Value.int 181 0, Value.ref 124, Value.none, Value.ref 125,         Value.ref 126, Value.ref 127, Value.int 344 0, Value.int 75 0, Value.str (Str.ofString "/claim/cut.py") 345] }
noncomputable def ob172 (_ : Params) : Obj := { cls := Value.type "tuple", data := Data.seq #[] }
noncomputable def ob173 (_ : Params) : Obj := { cls := Value.none, data := Data.fields #[] }
noncomputable def ob174 (_ : Params) : Obj := { cls := Value.type "tuple",   data :=     Data.seq       #[Value.str (Str.ofString "a") 350, Value.str (Str.ofString "b") 351, Value.str (Str.ofString "i") 352,         Value.str (Str.ofString "j") 353] }
noncomputable def ob175 (_ : Params) : Obj := { cls := Value.type "tuple", data := Data.seq #[] }
noncomputable def ob177 (_ : Params) : Obj := { cls := Value.type "code",   data :=     Data.fields       #[Value.str (Str.ofString "indexOf") 347, Value.str (Str.ofString "indexOf") 348,         Value.str (Str.ofString "/claim/cut.py") 349, Value.int 77 0, Value.int 2 0, Value.int 0 0, Value.int 0 0,         Value.int 3 0, Value.ref 130, Value.bool true, Value.int 181 0, Value.ref 131, Value.none, Value.ref 132,         Value.ref 133, Value.ref 134, Value.int 354 0, Value.int 77 0, Value.str (Str.ofString "/claim/cut.py") 355] }
noncomputable def ob179 (_ : Params) : Obj := { cls := Value.type "tuple", data := Data.seq #[] }
noncomputable def ob180 (_ : Params) : Obj := { cls := Value.none, data := Data.fields #[] }
noncomputable def ob181 (_ : Params) : Obj := { cls := Value.type "tuple",   data :=     Data.seq #[Value.str (Str.ofString "a") 360, Value.str (Str.ofString "b") 361, Value.str (Str.ofString "c") 362] }
noncomputable def ob182 (_ : Params) : Obj := { cls := Value.type "tuple", data := Data.seq #[] }
noncomputable def ob184 (_ : Params) : Obj := { cls := Value.type "code",   data :=     Data.fields       #[Value.str (Str.ofString "setitem") 357, Value.str (Str.ofString "setitem") 358,         Value.str (Str.ofString "/claim/cut.py") 359, Value.int 83 0, Value.int 3 0, Value.int 0 0, Value.int 0 0,         Value.int 3 0, Value.ref 137, Value.bool true, Value.int 181 0, Value.ref 138, Value.none, Value.ref 139,         Value.ref 140, Value.ref 141, Value.int 363 0, Value.int 83 0, Value.str (Str.ofString "/claim/cut.py") 364] }
noncomputable def ob186 (P : Params) : Obj := { cls := Value.type "dict",   data :=     Data.dict       #[{ hash := PyData.keyHash P (Str.ofString "__name__"), key := Value.str (Str.ofString "__name__") 165,           val := Value.str (Str.ofString "cpy313.operator") 296 },         { hash := PyData.keyHash P (Str.ofString "__doc__"), key := Value.str (Str.ofString "__doc__") 166,           val := Value.none },         { hash := PyData.keyHash P (Str.ofString "__package__"), key := Value.str (Str.ofString "__package__") 167,           val := Value.none },         { hash := PyData.keyHash P (Str.ofString "__loader__"), key := Value.str (Str.ofString "__loader__") 168,           val := Value.builtin "__main__.__loader__#opaque" },         { hash := PyData.keyHash P (Str.ofString "__spec__"), key := Value.str (Str.ofString "__spec__") 169,           val := Value.none },         { hash := PyData.keyHash P (Str.ofString "__annotations__"),           key := Value.str (Str.ofString "__annotations__") 170, val := Value.ref 6 },         { hash := PyData.keyHash P (Str.ofString "__builtins__"), key := Value.str (Str.ofString "__builtins__") 171,           val := Value.ref 4 },         { hash := PyData.keyHash P (Str.ofString "__file__"), key := Value.str (Str.ofString "__file__") 173,           val := Value.str (Str.ofString "/claim/cut.py") 172 },         { hash := PyData.keyHash P (Str.ofString "__cached__"), key := Value.str (Str.ofString "__cached__") 174,           val := Value.none },         { hash := PyData.keyHash P (Str.ofString "_wall"), key := Value.str (Str.ofString "_wall") 193,           val := Value.ref 21 },         { hash := PyData.keyHash P (Str.ofString "Whitespace"), key := Value.str (Str.ofString "Whitespace") 295,           val := Value.ref 83 },         { hash := PyData.keyHash P (Str.ofString "lt"), key := Value.str (Str.ofString "lt") 305, val := Value.ref 94 },         { hash := PyData.keyHash P (Str.ofString "gt"), key := Value.str (Str.ofString "gt") 313,           val := Value.ref 101 },         { hash := PyData.keyHash P (Str.ofString "mul"), key := Value.str (Str.ofString "mul") 321,           val := Value.ref 108 },         { hash := PyData.keyHash P (Str.ofString "sub"), key := Value.str (Str.ofString "sub") 329,           val := Value.ref 115 },         { hash := PyData.keyHash P (Str.ofString "concat"), key := Value.str (Str.ofString "concat") 338,           val := Value.ref 122 },         { hash := PyData.keyHash P (Str.ofString "getitem"), key := Value.str (Str.ofString "getitem") 346,           val := Value.ref 129 },         { hash := PyData.keyHash P (Str.ofString "indexOf"), key := Value.str (Str.ofString "indexOf") 356,           val := Value.ref 136 },         { hash := PyData.keyHash P (Str.ofString "setitem"), key := Value.str (Str.ofString "setitem") 365,           val := Value.ref 143 },         { hash := PyData.keyHash P (Str.ofString "LPAR"), key := Value.str (Str.ofString "LPAR") 367,           val := Value.int 7 366 },         { hash := PyData.keyHash P (Str.ofString "RPAR"), key := Value.str (Str.ofString "RPAR") 369,           val := Value.int 8 368 },         { hash := PyData.keyHash P (Str.ofString "LSQB"), key := Value.str (Str.ofString "LSQB") 371,           val := Value.int 9 370 },         { hash := PyData.keyHash P (Str.ofString "RSQB"), key := Value.str (Str.ofString "RSQB") 373,           val := Value.int 10 372 },         { hash := PyData.keyHash P (Str.ofString "COLON"), key := Value.str (Str.ofString "COLON") 375,           val := Value.int 11 374 },         { hash := PyData.keyHash P (Str.ofString "COMMA"), key := Value.str (Str.ofString "COMMA") 377,           val := Value.int 12 376 },         { hash := PyData.keyHash P (Str.ofString "SEMI"), key := Value.str (Str.ofString "SEMI") 379,           val := Value.int 13 378 },         { hash := PyData.keyHash P (Str.ofString "PLUS"), key := Value.str (Str.ofString "PLUS") 381,           val := Value.int 14 380 },         { hash := PyData.keyHash P (Str.ofString "MINUS"), key := Value.str (Str.ofString "MINUS") 383,           val := Value.int 15 382 },         { hash := PyData.keyHash P (Str.ofString "STAR"), key := Value.str (Str.ofString "STAR") 385,           val := Value.int 16 384 },         { hash := PyData.keyHash P (Str.ofString "SLASH"), key := Value.str (Str.ofString "SLASH") 387,           val := Value.int 17 386 },         { hash := PyData.keyHash P (Str.ofString "VBAR"), key := Value.str (Str.ofString "VBAR") 389,           val := Value.int 18 388 },         { hash := PyData.keyHash P (Str.ofString "AMPER"), key := Value.str (Str.ofString "AMPER") 391,           val := Value.int 19 390 },         { hash := PyData.keyHash P (Str.ofString "LESS"), key := Value.str (Str.ofString "LESS") 393,           val := Value.int 20 392 },         { hash := PyData.keyHash P (Str.ofString "GREATER"), key := Value.str (Str.ofString "GREATER") 395,           val := Value.int 21 394 },         { hash := PyData.keyHash P (Str.ofString "EQUAL"), key := Value.str (Str.ofString "EQUAL") 397,           val := Value.int 22 396 },         { hash := PyData.keyHash P (Str.ofString "DOT"), key := Value.str (Str.ofString "DOT") 399,           val := Value.int 23 398 },         { hash := PyData.keyHash P (Str.ofString "PERCENT"), key := Value.str (Str.ofString "PERCENT") 401,           val := Value.int 24 400 },         { hash := PyData.keyHash P (Str.ofString "LBRACE"), key := Value.str (Str.ofString "LBRACE") 403,           val := Value.int 25 402 },         { hash := PyData.keyHash P (Str.ofString "RBRACE"), key := Value.str (Str.ofString "RBRACE") 405,           val := Value.int 26 404 },         { hash := PyData.keyHash P (Str.ofString "EQEQUAL"), key := Value.str (Str.ofString "EQEQUAL") 407,           val := Value.int 27 406 },         { hash := PyData.keyHash P (Str.ofString "NOTEQUAL"), key := Value.str (Str.ofString "NOTEQUAL") 409,           val := Value.int 28 408 },         { hash := PyData.keyHash P (Str.ofString "LESSEQUAL"), key := Value.str (Str.ofString "LESSEQUAL") 411,           val := Value.int 29 410 },         { hash := PyData.keyHash P (Str.ofString "GREATEREQUAL"), key := Value.str (Str.ofString "GREATEREQUAL") 413,           val := Value.int 30 412 },         { hash := PyData.keyHash P (Str.ofString "TILDE"), key := Value.str (Str.ofString "TILDE") 415,           val := Value.int 31 414 },         { hash := PyData.keyHash P (Str.ofString "CIRCUMFLEX"), key := Value.str (Str.ofString "CIRCUMFLEX") 417,           val := Value.int 32 416 },         { hash := PyData.keyHash P (Str.ofString "LEFTSHIFT"), key := Value.str (Str.ofString "LEFTSHIFT") 419,           val := Value.int 33 418 },         { hash := PyData.keyHash P (Str.ofString "RIGHTSHIFT"), key := Value.str (Str.ofString "RIGHTSHIFT") 421,           val := Value.int 34 420 },         { hash := PyData.keyHash P (Str.ofString "DOUBLESTAR"), key := Value.str (Str.ofString "DOUBLESTAR") 423,           val := Value.int 35 422 },         { hash := PyData.keyHash P (Str.ofString "PLUSEQUAL"), key := Value.str (Str.ofString "PLUSEQUAL") 425,           val := Value.int 36 424 },         { hash := PyData.keyHash P (Str.ofString "MINEQUAL"), key := Value.str (Str.ofString "MINEQUAL") 427,           val := Value.int 37 426 },         { hash := PyData.keyHash P (Str.ofString "STAREQUAL"), key := Value.str (Str.ofString "STAREQUAL") 429,           val := Value.int 38 428 },         { hash := PyData.keyHash P (Str.ofString "SLASHEQUAL"), key := Value.str (Str.ofString "SLASHEQUAL") 431,           val := Value.int 39 430 },         { hash := PyData.keyHash P (Str.ofString "PERCENTEQUAL"), key := Value.str (Str.ofString "PERCENTEQUAL") 433,           val := Value.int 40 432 },         { hash := PyData.keyHash P (Str.ofString "AMPEREQUAL"), key := Value.str (Str.ofString "AMPEREQUAL") 435,           val := Value.int 41 434 },         { hash := PyData.keyHash P (Str.ofString "VBAREQUAL"), key := Value.str (Str.ofString "VBAREQUAL") 437,           val := Value.int 42 436 },         { hash := PyData.keyHash P (Str.ofString "CIRCUMFLEXEQUAL"),           key := Value.str (Str.ofString "CIRCUMFLEXEQUAL") 439, val := Value.int 43 438 },         { hash := PyData.keyHash P (Str.ofString "LEFTSHIFTEQUAL"),           key := Value.str (Str.ofString "LEFTSHIFTEQUAL") 441, val := Value.int 44 440 },         { hash := PyData.keyHash P (Str.ofString "RIGHTSHIFTEQUAL"),           key := Value.str (Str.ofString "RIGHTSHIFTEQUAL") 443, val := Value.int 45 442 },         { hash := PyData.keyHash P (Str.ofString "DOUBLESTAREQUAL"),           key := Value.str (Str.ofString "DOUBLESTAREQUAL") 445, val := Value.int 46 444 },         { hash := PyData.keyHash P (Str.ofString "DOUBLESLASH"), key := Value.str (Str.ofString "DOUBLESLASH") 447,           val := Value.int 47 446 },         { hash := PyData.keyHash P (Str.ofString "DOUBLESLASHEQUAL"),           key := Value.str (Str.ofString "DOUBLESLASHEQUAL") 449, val := Value.int 48 448 },         { hash := PyData.keyHash P (Str.ofString "AT"), key := Value.str (Str.ofString "AT") 451,           val := Value.int 49 450 },         { hash := PyData.keyHash P (Str.ofString "ATEQUAL"), key := Value.str (Str.ofString "ATEQUAL") 453,           val := Value.int 50 452 },         { hash := PyData.keyHash P (Str.ofString "RARROW"), key := Value.str (Str.ofString "RARROW") 455,           val := Value.int 51 454 },         { hash := PyData.keyHash P (Str.ofString "ELLIPSIS"), key := Value.str (Str.ofString "ELLIPSIS") 457,           val := Value.int 52 456 },         { hash := PyData.keyHash P (Str.ofString "COLONEQUAL"), key := Value.str (Str.ofString "COLONEQUAL") 459,           val := Value.int 53 458 },         { hash := PyData.keyHash P (Str.ofString "EXCLAMATION"), key := Value.str (Str.ofString "EXCLAMATION") 461,           val := Value.int 54 460 }]       67 }
noncomputable def ob188 (P : Params) : Obj := { cls := Value.type "dict",   data :=     Data.dict       #[{ hash := PyData.keyHash P (Str.ofString "__name__"), key := Value.str (Str.ofString "__name__") 165,           val := Value.str (Str.ofString "cpy313.operator") 296 },         { hash := PyData.keyHash P (Str.ofString "__doc__"), key := Value.str (Str.ofString "__doc__") 166,           val := Value.none },         { hash := PyData.keyHash P (Str.ofString "__package__"), key := Value.str (Str.ofString "__package__") 167,           val := Value.none },         { hash := PyData.keyHash P (Str.ofString "__loader__"), key := Value.str (Str.ofString "__loader__") 168,           val := Value.builtin "__main__.__loader__#opaque" },         { hash := PyData.keyHash P (Str.ofString "__spec__"), key := Value.str (Str.ofString "__spec__") 169,           val := Value.none },         { hash := PyData.keyHash P (Str.ofString "__annotations__"),           key := Value.str (Str.ofString "__annotations__") 170, val := Value.ref 6 },         { hash := PyData.keyHash P (Str.ofString "__builtins__"), key := Value.str (Str.ofString "__builtins__") 171,           val := Value.ref 4 },         { hash := PyData.keyHash P (Str.ofString "__file__"), key := Value.str (Str.ofString "__file__") 173,           val := Value.str (Str.ofString "/claim/cut.py") 172 },         { hash := PyData.keyHash P (Str.ofString "__cached__"), key := Value.str (Str.ofString "__cached__") 174,           val := Value.none },         { hash := PyData.keyHash P (Str.ofString "_wall"), key := Value.str (Str.ofString "_wall") 193,           val := Value.ref 21 },         { hash := PyData.keyHash P (Str.ofString "Whitespace"), key := Value.str (Str.ofString "Whitespace") 295,           val := Value.ref 83 },         { hash := PyData.keyHash P (Str.ofString "lt"), key := Value.str (Str.ofString "lt") 305, val := Value.ref 94 },         { hash := PyData.keyHash P (Str.ofString "gt"), key := Value.str (Str.ofString "gt") 313,           val := Value.ref 101 },         { hash := PyData.keyHash P (Str.ofString "mul"), key := Value.str (Str.ofString "mul") 321,           val := Value.ref 108 },         { hash := PyData.keyHash P (Str.ofString "sub"), key := Value.str (Str.ofString "sub") 329,           val := Value.ref 115 },         { hash := PyData.keyHash P (Str.ofString "concat"), key := Value.str (Str.ofString "concat") 338,           val := Value.ref 122 },         { hash := PyData.keyHash P (Str.ofString "getitem"), key := Value.str (Str.ofString "getitem") 346,           val := Value.ref 129 },         { hash := PyData.keyHash P (Str.ofString "indexOf"), key := Value.str (Str.ofString "indexOf") 356,           val := Value.ref 136 },         { hash := PyData.keyHash P (Str.ofString "setitem"), key := Value.str (Str.ofString "setitem") 365,           val := Value.ref 143 },         { hash := PyData.keyHash P (Str.ofString "LPAR"), key := Value.str (Str.ofString "LPAR") 367,           val := Value.int 7 366 },         { hash := PyData.keyHash P (Str.ofString "RPAR"), key := Value.str (Str.ofString "RPAR") 369,           val := Value.int 8 368 },         { hash := PyData.keyHash P (Str.ofString "LSQB"), key := Value.str (Str.ofString "LSQB") 371,           val := Value.int 9 370 },         { hash := PyData.keyHash P (Str.ofString "RSQB"), key := Value.str (Str.ofString "RSQB") 373,           val := Value.int 10 372 },         { hash := PyData.keyHash P (Str.ofString "COLON"), key := Value.str (Str.ofString "COLON") 375,           val := Value.int 11 374 },         { hash := PyData.keyHash P (Str.ofString "COMMA"), key := Value.str (Str.ofString "COMMA") 377,           val := Value.int 12 376 },         { hash := PyData.keyHash P (Str.ofString "SEMI"), key := Value.str (Str.ofString "SEMI") 379,           val := Value.int 13 378 },         { hash := PyData.keyHash P (Str.ofString "PLUS"), key := Value.str (Str.ofString "PLUS") 381,           val := Value.int 14 380 },         { hash := PyData.keyHash P (Str.ofString "MINUS"), key := Value.str (Str.ofString "MINUS") 383,           val := Value.int 15 382 },         { hash := PyData.keyHash P (Str.ofString "STAR"), key := Value.str (Str.ofString "STAR") 385,           val := Value.int 16 384 },         { hash := PyData.keyHash P (Str.ofString "SLASH"), key := Value.str (Str.ofString "SLASH") 387,           val := Value.int 17 386 },         { hash := PyData.keyHash P (Str.ofString "VBAR"), key := Value.str (Str.ofString "VBAR") 389,           val := Value.int 18 388 },         { hash := PyData.keyHash P (Str.ofString "AMPER"), key := Value.str (Str.ofString "AMPER") 391,           val := Value.int 19 390 },         { hash := PyData.keyHash P (Str.ofString "LESS"), key := Value.str (Str.ofString "LESS") 393,           val := Value.int 20 392 },         { hash := PyData.keyHash P (Str.ofString "GREATER"), key := Value.str (Str.ofString "GREATER") 395,           val := Value.int 21 394 },         { hash := PyData.keyHash P (Str.ofString "EQUAL"), key := Value.str (Str.ofString "EQUAL") 397,           val := Value.int 22 396 },         { hash := PyData.keyHash P (Str.ofString "DOT"), key := Value.str (Str.ofString "DOT") 399,           val := Value.int 23 398 },         { hash := PyData.keyHash P (Str.ofString "PERCENT"), key := Value.str (Str.ofString "PERCENT") 401,           val := Value.int 24 400 },         { hash := PyData.keyHash P (Str.ofString "LBRACE"), key := Value.str (Str.ofString "LBRACE") 403,           val := Value.int 25 402 },         { hash := PyData.keyHash P (Str.ofString "RBRACE"), key := Value.str (Str.ofString "RBRACE") 405,           val := Value.int 26 404 },         { hash := PyData.keyHash P (Str.ofString "EQEQUAL"), key := Value.str (Str.ofString "EQEQUAL") 407,           val := Value.int 27 406 },         { hash := PyData.keyHash P (Str.ofString "NOTEQUAL"), key := Value.str (Str.ofString "NOTEQUAL") 409,           val := Value.int 28 408 },         { hash := PyData.keyHash P (Str.ofString "LESSEQUAL"), key := Value.str (Str.ofString "LESSEQUAL") 411,           val := Value.int 29 410 },         { hash := PyData.keyHash P (Str.ofString "GREATEREQUAL"), key := Value.str (Str.ofString "GREATEREQUAL") 413,           val := Value.int 30 412 },         { hash := PyData.keyHash P (Str.ofString "TILDE"), key := Value.str (Str.ofString "TILDE") 415,           val := Value.int 31 414 },         { hash := PyData.keyHash P (Str.ofString "CIRCUMFLEX"), key := Value.str (Str.ofString "CIRCUMFLEX") 417,           val := Value.int 32 416 },         { hash := PyData.keyHash P (Str.ofString "LEFTSHIFT"), key := Value.str (Str.ofString "LEFTSHIFT") 419,           val := Value.int 33 418 },         { hash := PyData.keyHash P (Str.ofString "RIGHTSHIFT"), key := Value.str (Str.ofString "RIGHTSHIFT") 421,           val := Value.int 34 420 },         { hash := PyData.keyHash P (Str.ofString "DOUBLESTAR"), key := Value.str (Str.ofString "DOUBLESTAR") 423,           val := Value.int 35 422 },         { hash := PyData.keyHash P (Str.ofString "PLUSEQUAL"), key := Value.str (Str.ofString "PLUSEQUAL") 425,           val := Value.int 36 424 },         { hash := PyData.keyHash P (Str.ofString "MINEQUAL"), key := Value.str (Str.ofString "MINEQUAL") 427,           val := Value.int 37 426 },         { hash := PyData.keyHash P (Str.ofString "STAREQUAL"), key := Value.str (Str.ofString "STAREQUAL") 429,           val := Value.int 38 428 },         { hash := PyData.keyHash P (Str.ofString "SLASHEQUAL"), key := Value.str (Str.ofString "SLASHEQUAL") 431,           val := Value.int 39 430 },         { hash := PyData.keyHash P (Str.ofString "PERCENTEQUAL"), key := Value.str (Str.ofString "PERCENTEQUAL") 433,           val := Value.int 40 432 },         { hash := PyData.keyHash P (Str.ofString "AMPEREQUAL"), key := Value.str (Str.ofString "AMPEREQUAL") 435,           val := Value.int 41 434 },         { hash := PyData.keyHash P (Str.ofString "VBAREQUAL"), key := Value.str (Str.ofString "VBAREQUAL") 437,           val := Value.int 42 436 },         { hash := PyData.keyHash P (Str.ofString "CIRCUMFLEXEQUAL"),           key := Value.str (Str.ofString "CIRCUMFLEXEQUAL") 439, val := Value.int 43 438 },         { hash := PyData.keyHash P (Str.ofString "LEFTSHIFTEQUAL"),           key := Value.str (Str.ofString "LEFTSHIFTEQUAL") 441, val := Value.int 44 440 },         { hash := PyData.keyHash P (Str.ofString "RIGHTSHIFTEQUAL"),           key := Value.str (Str.ofString "RIGHTSHIFTEQUAL") 443, val := Value.int 45 442 },         { hash := PyData.keyHash P (Str.ofString "DOUBLESTAREQUAL"),           key := Value.str (Str.ofString "DOUBLESTAREQUAL") 445, val := Value.int 46 444 },         { hash := PyData.keyHash P (Str.ofString "DOUBLESLASH"), key := Value.str (Str.ofString "DOUBLESLASH") 447,           val := Value.int 47 446 },         { hash := PyData.keyHash P (Str.ofString "DOUBLESLASHEQUAL"),           key := Value.str (Str.ofString "DOUBLESLASHEQUAL") 449, val := Value.int 48 448 },         { hash := PyData.keyHash P (Str.ofString "AT"), key := Value.str (Str.ofString "AT") 451,           val := Value.int 49 450 },         { hash := PyData.keyHash P (Str.ofString "ATEQUAL"), key := Value.str (Str.ofString "ATEQUAL") 453,           val := Value.int 50 452 },         { hash := PyData.keyHash P (Str.ofString "RARROW"), key := Value.str (Str.ofString "RARROW") 455,           val := Value.int 51 454 },         { hash := PyData.keyHash P (Str.ofString "ELLIPSIS"), key := Value.str (Str.ofString "ELLIPSIS") 457,           val := Value.int 52 456 },         { hash := PyData.keyHash P (Str.ofString "COLONEQUAL"), key := Value.str (Str.ofString "COLONEQUAL") 459,           val := Value.int 53 458 },         { hash := PyData.keyHash P (Str.ofString "EXCLAMATION"), key := Value.str (Str.ofString "EXCLAMATION") 461,           val := Value.int 54 460 },         { hash := PyData.keyHash P (Str.ofString "EXACT_TOKEN_TYPES"),           key := Value.str (Str.ofString "EXACT_TOKEN_TYPES") 558, val := Value.ref 144 }]       68 }
noncomputable def ob189 (P : Params) : Obj := { cls := Value.type "dict",   data :=     Data.dict       #[{ hash := PyData.keyHash P (Str.ofString "!"), key := Value.str (Str.ofString "!") 462,           val := Value.int 54 460 },         { hash := PyData.keyHash P (Str.ofString "!="), key := Value.str (Str.ofString "!=") 464,           val := Value.int 28 408 },         { hash := PyData.keyHash P (Str.ofString "%"), key := Value.str (Str.ofString "%") 466,           val := Value.int 24 400 },         { hash := PyData.keyHash P (Str.ofString "%="), key := Value.str (Str.ofString "%=") 468,           val := Value.int 40 432 },         { hash := PyData.keyHash P (Str.ofString "&"), key := Value.str (Str.ofString "&") 470,           val := Value.int 19 390 },         { hash := PyData.keyHash P (Str.ofString "&="), key := Value.str (Str.ofString "&=") 472,           val := Value.int 41 434 },         { hash := PyData.keyHash P (Str.ofString "("), key := Value.str (Str.ofString "(") 474,           val := Value.int 7 366 },         { hash := PyData.keyHash P (Str.ofString ")"), key := Value.str (Str.ofString ")") 476,           val := Value.int 8 368 },         { hash := PyData.keyHash P (Str.ofString "*"), key := Value.str (Str.ofString "*") 478,           val := Value.int 16 384 },         { hash := PyData.keyHash P (Str.ofString "**"), key := Value.str (Str.ofString "**") 480,           val := Value.int 35 422 },         { hash := PyData.keyHash P (Str.ofString "**="), key := Value.str (Str.ofString "**=") 482,           val := Value.int 46 444 },         { hash := PyData.keyHash P (Str.ofString "*="), key := Value.str (Str.ofString "*=") 484,           val := Value.int 38 428 },         { hash := PyData.keyHash P (Str.ofString "+"), key := Value.str (Str.ofString "+") 486,           val := Value.int 14 380 },         { hash := PyData.keyHash P (Str.ofString "+="), key := Value.str (Str.ofString "+=") 488,           val := Value.int 36 424 },         { hash := PyData.keyHash P (Str.ofString ","), key := Value.str (Str.ofString ",") 490,           val := Value.int 12 376 },         { hash := PyData.keyHash P (Str.ofString "-"), key := Value.str (Str.ofString "-") 492,           val := Value.int 15 382 },         { hash := PyData.keyHash P (Str.ofString "-="), key := Value.str (Str.ofString "-=") 494,           val := Value.int 37 426 },         { hash := PyData.keyHash P (Str.ofString "->"), key := Value.str (Str.ofString "->") 496,           val := Value.int 51 454 },         { hash := PyData.keyHash P (Str.ofString "."), key := Value.str (Str.ofString ".") 498,           val := Value.int 23 398 },         { hash := PyData.keyHash P (Str.ofString "..."), key := Value.str (Str.ofString "...") 500,           val := Value.int 52 456 },         { hash := PyData.keyHash P (Str.ofString "/"), key := Value.str (Str.ofString "/") 502,           val := Value.int 17 386 },         { hash := PyData.keyHash P (Str.ofString "//"), key := Value.str (Str.ofString "//") 504,           val := Value.int 47 446 },         { hash := PyData.keyHash P (Str.ofString "//="), key := Value.str (Str.ofString "//=") 506,           val := Value.int 48 448 },         { hash := PyData.keyHash P (Str.ofString "/="), key := Value.str (Str.ofString "/=") 508,           val := Value.int 39 430 },         { hash := PyData.keyHash P (Str.ofString ":"), key := Value.str (Str.ofString ":") 510,           val := Value.int 11 374 },         { hash := PyData.keyHash P (Str.ofString ":="), key := Value.str (Str.ofString ":=") 512,           val := Value.int 53 458 },         { hash := PyData.keyHash P (Str.ofString ";"), key := Value.str (Str.ofString ";") 514,           val := Value.int 13 378 },         { hash := PyData.keyHash P (Str.ofString "<"), key := Value.str (Str.ofString "<") 516,           val := Value.int 20 392 },         { hash := PyData.keyHash P (Str.ofString "<<"), key := Value.str (Str.ofString "<<") 518,           val := Value.int 33 418 },         { hash := PyData.keyHash P (Str.ofString "<<="), key := Value.str (Str.ofString "<<=") 520,           val := Value.int 44 440 },         { hash := PyData.keyHash P (Str.ofString "<="), key := Value.str (Str.ofString "<=") 522,           val := Value.int 29 410 },         { hash := PyData.keyHash P (Str.ofString "="), key := Value.str (Str.ofString "=") 524,           val := Value.int 22 396 },         { hash := PyData.keyHash P (Str.ofString "=="), key := Value.str (Str.ofString "==") 526,           val := Value.int 27 406 },         { hash := PyData.keyHash P (Str.ofString ">"), key := Value.str (Str.ofString ">") 528,           val := Value.int 21 394 },         { hash := PyData.keyHash P (Str.ofString ">="), key := Value.str (Str.ofString ">=") 530,           val := Value.int 30 412 },         { hash := PyData.keyHash P (Str.ofString ">>"), key := Value.str (Str.ofString ">>") 531,           val := Value.int 34 420 },         { hash := PyData.keyHash P (Str.ofString ">>="), key := Value.str (Str.ofString ">>=") 532,           val := Value.int 45 442 },         { hash := PyData.keyHash P (Str.ofString "@"), key := Value.str (Str.ofString "@") 533,           val := Value.int 49 450 },         { hash := PyData.keyHash P (Str.ofString "@="), key := Value.str (Str.ofString "@=") 534,           val := Value.int 50 452 },         { hash := PyData.keyHash P (Str.ofString "["), key := Value.str (Str.ofString "[") 535,           val := Value.int 9 370 },         { hash := PyData.keyHash P (Str.ofString "]"), key := Value.str (Str.ofString "]") 536,           val := Value.int 10 372 },         { hash := PyData.keyHash P (Str.ofString "^"), key := Value.str (Str.ofString "^") 537,           val := Value.int 32 416 },         { hash := PyData.keyHash P (Str.ofString "^="), key := Value.str (Str.ofString "^=") 538,           val := Value.int 43 438 },         { hash := PyData.keyHash P (Str.ofString "{"), key := Value.str (Str.ofString "{") 539,           val := Value.int 25 402 },         { hash := PyData.keyHash P (Str.ofString "|"), key := Value.str (Str.ofString "|") 540,           val := Value.int 18 388 },         { hash := PyData.keyHash P (Str.ofString "|="), key := Value.str (Str.ofString "|=") 541,           val := Value.int 42 436 },         { hash := PyData.keyHash P (Str.ofString "}"), key := Value.str (Str.ofString "}") 542,           val := Value.int 26 404 },         { hash := PyData.keyHash P (Str.ofString "~"), key := Value.str (Str.ofString "~") 543,           val := Value.int 31 414 }]       48 }
noncomputable def ob190 (P : Params) : Obj := { cls := Value.type "dict",   data :=     Data.dict       #[{ hash := PyData.keyHash P (Str.ofString "->"), key := Value.str (Str.ofString "->") 496,           val := Value.int 51 454 },         { hash := PyData.keyHash P (Str.ofString "."), key := Value.str (Str.ofString ".") 498,           val := Value.int 23 398 },         { hash := PyData.keyHash P (Str.ofString "..."), key := Value.str (Str.ofString "...") 500,           val := Value.int 52 456 },         { hash := PyData.keyHash P (Str.ofString "/"), key := Value.str (Str.ofString "/") 502,           val := Value.int 17 386 },         { hash := PyData.keyHash P (Str.ofString "//"), key := Value.str (Str.ofString "//") 504,           val := Value.int 47 446 },         { hash := PyData.keyHash P (Str.ofString "//="), key := Value.str (Str.ofString "//=") 506,           val := Value.int 48 448 },         { hash := PyData.keyHash P (Str.ofString "/="), key := Value.str (Str.ofString "/=") 508,           val := Value.int 39 430 },         { hash := PyData.keyHash P (Str.ofString ":"), key := Value.str (Str.ofString ":") 510,           val := Value.int 11 374 },         { hash := PyData.keyHash P (Str.ofString ":="), key := Value.str (Str.ofString ":=") 512,           val := Value.int 53 458 },         { hash := PyData.keyHash P (Str.ofString ";"), key := Value.str (Str.ofString ";") 514,           val := Value.int 13 378 },         { hash := PyData.keyHash P (Str.ofString "<"), key := Value.str (Str.ofString "<") 516,           val := Value.int 20 392 },         { hash := PyData.keyHash P (Str.ofString "<<"), key := Value.str (Str.ofString "<<") 518,           val := Value.int 33 418 },         { hash := PyData.keyHash P (Str.ofString "<<="), key := Value.str (Str.ofString "<<=") 520,           val := Value.int 44 440 },         { hash := PyData.keyHash P (Str.ofString "<="), key := Value.str (Str.ofString "<=") 522,           val := Value.int 29 410 },         { hash := PyData.keyHash P (Str.ofString "="), key := Value.str (Str.ofString "=") 524,           val := Value.int 22 396 },         { hash := PyData.keyHash P (Str.ofString "=="), key := Value.str (Str.ofString "==") 526,           val := Value.int 27 406 },         { hash := PyData.keyHash P (Str.ofString ">"), key := Value.str (Str.ofString ">") 528,           val := Value.int 21 394 }]       17 }
noncomputable def ob191 (P : Params) : Obj := { cls := Value.type "dict",   data :=     Data.dict       #[{ hash := PyData.keyHash P (Str.ofString ">="), key := Value.str (Str.ofString ">=") 530,           val := Value.int 30 412 },         { hash := PyData.keyHash P (Str.ofString ">>"), key := Value.str (Str.ofString ">>") 531,           val := Value.int 34 420 },         { hash := PyData.keyHash P (Str.ofString ">>="), key := Value.str (Str.ofString ">>=") 532,           val := Value.int 45 442 },         { hash := PyData.keyHash P (Str.ofString "@"), key := Value.str (Str.ofString "@") 533,           val := Value.int 49 450 },         { hash := PyData.keyHash P (Str.ofString "@="), key := Value.str (Str.ofString "@=") 534,           val := Value.int 50 452 },         { hash := PyData.keyHash P (Str.ofString "["), key := Value.str (Str.ofString "[") 535,           val := Value.int 9 370 },         { hash := PyData.keyHash P (Str.ofString "]"), key := Value.str (Str.ofString "]") 536,           val := Value.int 10 372 },         { hash := PyData.keyHash P (Str.ofString "^"), key := Value.str (Str.ofString "^") 537,           val := Value.int 32 416 },         { hash := PyData.keyHash P (Str.ofString "^="), key := Value.str (Str.ofString "^=") 538,           val := Value.int 43 438 },         { hash := PyData.keyHash P (Str.ofString "{"), key := Value.str (Str.ofString "{") 539,           val := Value.int 25 402 },         { hash := PyData.keyHash P (Str.ofString "|"), key := Value.str (Str.ofString "|") 540,           val := Value.int 18 388 },         { hash := PyData.keyHash P (Str.ofString "|="), key := Value.str (Str.ofString "|=") 541,           val := Value.int 42 436 },         { hash := PyData.keyHash P (Str.ofString "}"), key := Value.str (Str.ofString "}") 542,           val := Value.int 26 404 },         { hash := PyData.keyHash P (Str.ofString "~"), key := Value.str (Str.ofString "~") 543,           val := Value.int 31 414 }]       14 }
noncomputable def ob195 (P : Params) : Obj := { cls := Value.type "dict",   data :=     Data.dict       #[{ hash := PyData.keyHash P (Str.ofString "__name__"), key := Value.str (Str.ofString "__name__") 165,           val := Value.str (Str.ofString "law_tl0035_01") 559 },         { hash := PyData.keyHash P (Str.ofString "__doc__"), key := Value.str (Str.ofString "__doc__") 166,           val := Value.none },         { hash := PyData.keyHash P (Str.ofString "__package__"), key := Value.str (Str.ofString "__package__") 167,           val := Value.none },         { hash := PyData.keyHash P (Str.ofString "__loader__"), key := Value.str (Str.ofString "__loader__") 168,           val := Value.builtin "__main__.__loader__#opaque" },         { hash := PyData.keyHash P (Str.ofString "__spec__"), key := Value.str (Str.ofString "__spec__") 169,           val := Value.none },         { hash := PyData.keyHash P (Str.ofString "__annotations__"),           key := Value.str (Str.ofString "__annotations__") 170, val := Value.ref 6 },         { hash := PyData.keyHash P (Str.ofString "__builtins__"), key := Value.str (Str.ofString "__builtins__") 171,           val := Value.ref 4 },         { hash := PyData.keyHash P (Str.ofString "__file__"), key := Value.str (Str.ofString "__file__") 173,           val := Value.str (Str.ofString "/claim/cut.py") 172 },         { hash := PyData.keyHash P (Str.ofString "__cached__"), key := Value.str (Str.ofString "__cached__") 174,           val := Value.none },         { hash := PyData.keyHash P (Str.ofString "_wall"), key := Value.str (Str.ofString "_wall") 193,           val := Value.ref 21 },         { hash := PyData.keyHash P (Str.ofString "Whitespace"), key := Value.str (Str.ofString "Whitespace") 295,           val := Value.ref 83 },         { hash := PyData.keyHash P (Str.ofString "lt"), key := Value.str (Str.ofString "lt") 305, val := Value.ref 94 },         { hash := PyData.keyHash P (Str.ofString "gt"), key := Value.str (Str.ofString "gt") 313,           val := Value.ref 101 },         { hash := PyData.keyHash P (Str.ofString "mul"), key := Value.str (Str.ofString "mul") 321,           val := Value.ref 108 },         { hash := PyData.keyHash P (Str.ofString "sub"), key := Value.str (Str.ofString "sub") 329,           val := Value.ref 115 },         { hash := PyData.keyHash P (Str.ofString "concat"), key := Value.str (Str.ofString "concat") 338,           val := Value.ref 122 },         { hash := PyData.keyHash P (Str.ofString "getitem"), key := Value.str (Str.ofString "getitem") 346,           val := Value.ref 129 },         { hash := PyData.keyHash P (Str.ofString "indexOf"), key := Value.str (Str.ofString "indexOf") 356,           val := Value.ref 136 },         { hash := PyData.keyHash P (Str.ofString "setitem"), key := Value.str (Str.ofString "setitem") 365,           val := Value.ref 143 },         { hash := PyData.keyHash P (Str.ofString "LPAR"), key := Value.str (Str.ofString "LPAR") 367,           val := Value.int 7 366 },         { hash := PyData.keyHash P (Str.ofString "RPAR"), key := Value.str (Str.ofString "RPAR") 369,           val := Value.int 8 368 },         { hash := PyData.keyHash P (Str.ofString "LSQB"), key := Value.str (Str.ofString "LSQB") 371,           val := Value.int 9 370 },         { hash := PyData.keyHash P (Str.ofString "RSQB"), key := Value.str (Str.ofString "RSQB") 373,           val := Value.int 10 372 },         { hash := PyData.keyHash P (Str.ofString "COLON"), key := Value.str (Str.ofString "COLON") 375,           val := Value.int 11 374 },         { hash := PyData.keyHash P (Str.ofString "COMMA"), key := Value.str (Str.ofString "COMMA") 377,           val := Value.int 12 376 },         { hash := PyData.keyHash P (Str.ofString "SEMI"), key := Value.str (Str.ofString "SEMI") 379,           val := Value.int 13 378 },         { hash := PyData.keyHash P (Str.ofString "PLUS"), key := Value.str (Str.ofString "PLUS") 381,           val := Value.int 14 380 },         { hash := PyData.keyHash P (Str.ofString "MINUS"), key := Value.str (Str.ofString "MINUS") 383,           val := Value.int 15 382 },         { hash := PyData.keyHash P (Str.ofString "STAR"), key := Value.str (Str.ofString "STAR") 385,           val := Value.int 16 384 },         { hash := PyData.keyHash P (Str.ofString "SLASH"), key := Value.str (Str.ofString "SLASH") 387,           val := Value.int 17 386 },         { hash := PyData.keyHash P (Str.ofString "VBAR"), key := Value.str (Str.ofString "VBAR") 389,           val := Value.int 18 388 },         { hash := PyData.keyHash P (Str.ofString "AMPER"), key := Value.str (Str.ofString "AMPER") 391,           val := Value.int 19 390 },         { hash := PyData.keyHash P (Str.ofString "LESS"), key := Value.str (Str.ofString "LESS") 393,           val := Value.int 20 392 },         { hash := PyData.keyHash P (Str.ofString "GREATER"), key := Value.str (Str.ofString "GREATER") 395,           val := Value.int 21 394 },         { hash := PyData.keyHash P (Str.ofString "EQUAL"), key := Value.str (Str.ofString "EQUAL") 397,           val := Value.int 22 396 },         { hash := PyData.keyHash P (Str.ofString "DOT"), key := Value.str (Str.ofString "DOT") 399,           val := Value.int 23 398 },         { hash := PyData.keyHash P (Str.ofString "PERCENT"), key := Value.str (Str.ofString "PERCENT") 401,           val := Value.int 24 400 },         { hash := PyData.keyHash P (Str.ofString "LBRACE"), key := Value.str (Str.ofString "LBRACE") 403,           val := Value.int 25 402 },         { hash := PyData.keyHash P (Str.ofString "RBRACE"), key := Value.str (Str.ofString "RBRACE") 405,           val := Value.int 26 404 },         { hash := PyData.keyHash P (Str.ofString "EQEQUAL"), key := Value.str (Str.ofString "EQEQUAL") 407,           val := Value.int 27 406 },         { hash := PyData.keyHash P (Str.ofString "NOTEQUAL"), key := Value.str (Str.ofString "NOTEQUAL") 409,           val := Value.int 28 408 },         { hash := PyData.keyHash P (Str.ofString "LESSEQUAL"), key := Value.str (Str.ofString "LESSEQUAL") 411,           val := Value.int 29 410 },         { hash := PyData.keyHash P (Str.ofString "GREATEREQUAL"), key := Value.str (Str.ofString "GREATEREQUAL") 413,           val := Value.int 30 412 },         { hash := PyData.keyHash P (Str.ofString "TILDE"), key := Value.str (Str.ofString "TILDE") 415,           val := Value.int 31 414 },         { hash := PyData.keyHash P (Str.ofString "CIRCUMFLEX"), key := Value.str (Str.ofString "CIRCUMFLEX") 417,           val := Value.int 32 416 },         { hash := PyData.keyHash P (Str.ofString "LEFTSHIFT"), key := Value.str (Str.ofString "LEFTSHIFT") 419,           val := Value.int 33 418 },         { hash := PyData.keyHash P (Str.ofString "RIGHTSHIFT"), key := Value.str (Str.ofString "RIGHTSHIFT") 421,           val := Value.int 34 420 },         { hash := PyData.keyHash P (Str.ofString "DOUBLESTAR"), key := Value.str (Str.ofString "DOUBLESTAR") 423,           val := Value.int 35 422 },         { hash := PyData.keyHash P (Str.ofString "PLUSEQUAL"), key := Value.str (Str.ofString "PLUSEQUAL") 425,           val := Value.int 36 424 },         { hash := PyData.keyHash P (Str.ofString "MINEQUAL"), key := Value.str (Str.ofString "MINEQUAL") 427,           val := Value.int 37 426 },         { hash := PyData.keyHash P (Str.ofString "STAREQUAL"), key := Value.str (Str.ofString "STAREQUAL") 429,           val := Value.int 38 428 },         { hash := PyData.keyHash P (Str.ofString "SLASHEQUAL"), key := Value.str (Str.ofString "SLASHEQUAL") 431,           val := Value.int 39 430 },         { hash := PyData.keyHash P (Str.ofString "PERCENTEQUAL"), key := Value.str (Str.ofString "PERCENTEQUAL") 433,           val := Value.int 40 432 },         { hash := PyData.keyHash P (Str.ofString "AMPEREQUAL"), key := Value.str (Str.ofString "AMPEREQUAL") 435,           val := Value.int 41 434 },         { hash := PyData.keyHash P (Str.ofString "VBAREQUAL"), key := Value.str (Str.ofString "VBAREQUAL") 437,           val := Value.int 42 436 },         { hash := PyData.keyHash P (Str.ofString "CIRCUMFLEXEQUAL"),           key := Value.str (Str.ofString "CIRCUMFLEXEQUAL") 439, val := Value.int 43 438 },         { hash := PyData.keyHash P (Str.ofString "LEFTSHIFTEQUAL"),           key := Value.str (Str.ofString "LEFTSHIFTEQUAL") 441, val := Value.int 44 440 },         { hash := PyData.keyHash P (Str.ofString "RIGHTSHIFTEQUAL"),           key := Value.str (Str.ofString "RIGHTSHIFTEQUAL") 443, val := Value.int 45 442 },         { hash := PyData.keyHash P (Str.ofString "DOUBLESTAREQUAL"),           key := Value.str (Str.ofString "DOUBLESTAREQUAL") 445, val := Value.int 46 444 },         { hash := PyData.keyHash P (Str.ofString "DOUBLESLASH"), key := Value.str (Str.ofString "DOUBLESLASH") 447,           val := Value.int 47 446 },         { hash := PyData.keyHash P (Str.ofString "DOUBLESLASHEQUAL"),           key := Value.str (Str.ofString "DOUBLESLASHEQUAL") 449, val := Value.int 48 448 },         { hash := PyData.keyHash P (Str.ofString "AT"), key := Value.str (Str.ofString "AT") 451,           val := Value.int 49 450 },         { hash := PyData.keyHash P (Str.ofString "ATEQUAL"), key := Value.str (Str.ofString "ATEQUAL") 453,           val := Value.int 50 452 },         { hash := PyData.keyHash P (Str.ofString "RARROW"), key := Value.str (Str.ofString "RARROW") 455,           val := Value.int 51 454 },         { hash := PyData.keyHash P (Str.ofString "ELLIPSIS"), key := Value.str (Str.ofString "ELLIPSIS") 457,           val := Value.int 52 456 },         { hash := PyData.keyHash P (Str.ofString "COLONEQUAL"), key := Value.str (Str.ofString "COLONEQUAL") 459,           val := Value.int 53 458 },         { hash := PyData.keyHash P (Str.ofString "EXCLAMATION"), key := Value.str (Str.ofString "EXCLAMATION") 461,           val := Value.int 54 460 },         { hash := PyData.keyHash P (Str.ofString "EXACT_TOKEN_TYPES"),           key := Value.str (Str.ofString "EXACT_TOKEN_TYPES") 558, val := Value.ref 144 },         { hash := PyData.keyHash P (Str.ofString "_law_four"), key := Value.str (Str.ofString "_law_four") 568,           val := Value.ref 153 },         { hash := PyData.keyHash P (Str.ofString "_law_changed"), key := Value.str (Str.ofString "_law_changed") 574,           val := Value.ref 158 },         { hash := PyData.keyHash P (Str.ofString "_law_lead"), key := Value.str (Str.ofString "_law_lead") 586,           val := Value.ref 165 },         { hash := PyData.keyHash P (Str.ofString "_law_some"), key := Value.str (Str.ofString "_law_some") 592,           val := Value.ref 170 },         { hash := PyData.keyHash P (Str.ofString "_law_orders"), key := Value.str (Str.ofString "_law_orders") 598,           val := Value.ref 175 },         { hash := PyData.keyHash P (Str.ofString "law"), key := Value.str (Str.ofString "law") 604,           val := Value.ref 180 }]       74 }
noncomputable def ob196 (_ : Params) : Obj := { cls := Value.none,   data :=     Data.fields       #[Value.int 1 0, Value.int 0 0, Value.ref 20, Value.int 5 0, Value.int 0 0, Value.ref 27, Value.int 62 0,         Value.int 0 0, Value.ref 93, Value.int 64 0, Value.int 0 0, Value.ref 100, Value.int 66 0, Value.int 0 0,         Value.ref 107, Value.int 68 0, Value.int 0 0, Value.ref 114, Value.int 70 0, Value.int 0 0, Value.ref 121,         Value.int 75 0, Value.int 0 0, Value.ref 128, Value.int 77 0, Value.int 0 0, Value.ref 135, Value.int 83 0,         Value.int 0 0, Value.ref 142, Value.int 135 0, Value.int 0 0, Value.ref 152, Value.int 138 0, Value.int 0 0,         Value.ref 157, Value.int 154 0, Value.int 0 0, Value.ref 164, Value.int 160 0, Value.int 0 0, Value.ref 169,         Value.int 171 0, Value.int 0 0, Value.ref 174, Value.int 176 0, Value.int 0 0, Value.ref 179] }
noncomputable def ob197 (_ : Params) : Obj := { cls := Value.type "tuple", data := Data.seq #[] }
noncomputable def ob198 (_ : Params) : Obj := { cls := Value.none, data := Data.fields #[] }
noncomputable def ob199 (_ : Params) : Obj := { cls := Value.type "tuple", data := Data.seq #[Value.str (Str.ofString "c") 564, Value.str (Str.ofString "told") 565] }
noncomputable def ob200 (_ : Params) : Obj := { cls := Value.type "tuple", data := Data.seq #[] }
noncomputable def ob202 (_ : Params) : Obj := { cls := Value.type "code",   data :=     Data.fields       #[Value.str (Str.ofString "_law_four") 561, Value.str (Str.ofString "_law_four") 562,         Value.str (Str.ofString "/claim/cut.py") 563, Value.int 135 0, Value.int 1 0, Value.int 0 0, Value.int 0 0,         Value.int 3 0, Value.ref 147, Value.bool true, Value.int 181 0, Value.ref 148, Value.none, Value.ref 149,         Value.ref 150, Value.ref 151, Value.int 566 0, Value.int 135 0, Value.str (Str.ofString "/claim/cut.py") 567] }
noncomputable def ob204 (_ : Params) : Obj := { cls := Value.type "tuple", data := Data.seq #[] }
noncomputable def ob205 (_ : Params) : Obj := { cls := Value.none, data := Data.fields #[] }
noncomputable def ob207 (_ : Params) : Obj := { cls := Value.type "code",   data :=     Data.fields       #[Value.str (Str.ofString "_law_changed") 569, Value.str (Str.ofString "_law_changed") 570,         Value.str (Str.ofString "/claim/cut.py") 571, Value.int 138 0, Value.int 4 0, Value.int 0 0, Value.int 0 0,         Value.int 3 0, Value.ref 154, Value.bool true, Value.int 181 0, Value.ref 155, Value.none, Value.none,         Value.none, Value.ref 156, Value.int 572 0, Value.int 138 0, Value.str (Str.ofString "/claim/cut.py") 573] }
noncomputable def ob209 (_ : Params) : Obj := { cls := Value.type "tuple", data := Data.seq #[] }
noncomputable def ob210 (_ : Params) : Obj := { cls := Value.none, data := Data.fields #[] }
noncomputable def ob211 (_ : Params) : Obj := { cls := Value.type "tuple",   data :=     Data.seq       #[Value.str (Str.ofString "texts") 578, Value.str (Str.ofString "c") 579, Value.str (Str.ofString "behind") 580,         Value.str (Str.ofString "lead") 581, Value.str (Str.ofString "text") 582,         Value.str (Str.ofString "blanks") 583] }
noncomputable def ob212 (_ : Params) : Obj := { cls := Value.type "tuple", data := Data.seq #[] }
noncomputable def ob214 (_ : Params) : Obj := { cls := Value.type "code",   data :=     Data.fields       #[Value.str (Str.ofString "_law_lead") 575, Value.str (Str.ofString "_law_lead") 576,         Value.str (Str.ofString "/claim/cut.py") 577, Value.int 154 0, Value.int 3 0, Value.int 0 0, Value.int 0 0,         Value.int 3 0, Value.ref 159, Value.bool true, Value.int 181 0, Value.ref 160, Value.none, Value.ref 161,         Value.ref 162, Value.ref 163, Value.int 584 0, Value.int 154 0, Value.str (Str.ofString "/claim/cut.py") 585] }
noncomputable def ob216 (_ : Params) : Obj := { cls := Value.type "tuple", data := Data.seq #[] }
noncomputable def ob217 (_ : Params) : Obj := { cls := Value.none, data := Data.fields #[] }
noncomputable def ob219 (_ : Params) : Obj := { cls := Value.type "code",   data :=     Data.fields       #[Value.str (Str.ofString "_law_some") 587, Value.str (Str.ofString "_law_some") 588,         Value.str (Str.ofString "/claim/cut.py") 589, Value.int 160 0, Value.int 2 0, Value.int 0 0, Value.int 0 0,         Value.int 3 0, Value.ref 166, Value.bool true, Value.int 181 0, Value.ref 167, Value.none, Value.none,         Value.none, Value.ref 168, Value.int 590 0, Value.int 160 0, Value.str (Str.ofString "/claim/cut.py") 591] }
noncomputable def ob221 (_ : Params) : Obj := { cls := Value.type "tuple", data := Data.seq #[] }
noncomputable def ob222 (_ : Params) : Obj := { cls := Value.none, data := Data.fields #[] }
noncomputable def ob224 (_ : Params) : Obj := { cls := Value.type "code",   data :=     Data.fields       #[Value.str (Str.ofString "_law_orders") 593, Value.str (Str.ofString "_law_orders") 594,         Value.str (Str.ofString "/claim/cut.py") 595, Value.int 171 0, Value.int 0 0, Value.int 0 0, Value.int 0 0,         Value.int 3 0, Value.ref 171, Value.bool true, Value.int 181 0, Value.ref 172, Value.none, Value.none,         Value.none, Value.ref 173, Value.int 596 0, Value.int 171 0, Value.str (Str.ofString "/claim/cut.py") 597] }
noncomputable def ob226 (_ : Params) : Obj := { cls := Value.type "tuple", data := Data.seq #[] }
noncomputable def ob227 (_ : Params) : Obj := { cls := Value.none, data := Data.fields #[] }
noncomputable def ob229 (_ : Params) : Obj := { cls := Value.type "code",   data :=     Data.fields       #[Value.str (Str.ofString "law") 599, Value.str (Str.ofString "law") 600,         Value.str (Str.ofString "/claim/cut.py") 601, Value.int 176 0, Value.int 1 0, Value.int 0 0, Value.int 0 0,         Value.int 3 0, Value.ref 176, Value.bool true, Value.int 181 0, Value.ref 177, Value.none, Value.none,         Value.none, Value.ref 178, Value.int 602 0, Value.int 176 0, Value.str (Str.ofString "/claim/cut.py") 603] }
noncomputable def ob55 (_ : Params) : Obj := prO (Str.ofString "_wall") (Str.ofString "_wall") (topS 0)
noncomputable def ob57 (_ : Params) : Obj := fnO (Str.ofString "_wall") (Str.ofString "_wall") (Str.ofString "__main__") 164 20 (topS 0)
noncomputable def ob74 (_ : Params) : Obj := prO (Str.ofString "__init__") (Str.ofString "Whitespace.__init__") (clsS 1)
noncomputable def ob76 (_ : Params) : Obj := fnO (Str.ofString "__init__") (Str.ofString "Whitespace.__init__") (Str.ofString "cpy313.tabnanny") 194 37 (clsS 1)
noncomputable def ob81 (_ : Params) : Obj := prO (Str.ofString "longest_run_of_spaces") (Str.ofString "Whitespace.longest_run_of_spaces") (clsS 2)
noncomputable def ob83 (_ : Params) : Obj := fnO (Str.ofString "longest_run_of_spaces") (Str.ofString "Whitespace.longest_run_of_spaces") (Str.ofString "cpy313.tabnanny") 194 44 (clsS 2)
noncomputable def ob88 (_ : Params) : Obj := prO (Str.ofString "indent_level") (Str.ofString "Whitespace.indent_level") (clsS 3)
noncomputable def ob90 (_ : Params) : Obj := fnO (Str.ofString "indent_level") (Str.ofString "Whitespace.indent_level") (Str.ofString "cpy313.tabnanny") 194 51 (clsS 3)
noncomputable def ob95 (_ : Params) : Obj := prO (Str.ofString "equal") (Str.ofString "Whitespace.equal") (clsS 4)
noncomputable def ob97 (_ : Params) : Obj := fnO (Str.ofString "equal") (Str.ofString "Whitespace.equal") (Str.ofString "cpy313.tabnanny") 194 58 (clsS 4)
noncomputable def ob102 (_ : Params) : Obj := prO (Str.ofString "not_equal_witness") (Str.ofString "Whitespace.not_equal_witness") (clsS 5)
noncomputable def ob104 (_ : Params) : Obj := fnO (Str.ofString "not_equal_witness") (Str.ofString "Whitespace.not_equal_witness") (Str.ofString "cpy313.tabnanny") 194 65 (clsS 5)
noncomputable def ob109 (_ : Params) : Obj := prO (Str.ofString "less") (Str.ofString "Whitespace.less") (clsS 6)
noncomputable def ob111 (_ : Params) : Obj := fnO (Str.ofString "less") (Str.ofString "Whitespace.less") (Str.ofString "cpy313.tabnanny") 194 72 (clsS 6)
noncomputable def ob116 (_ : Params) : Obj := prO (Str.ofString "not_less_witness") (Str.ofString "Whitespace.not_less_witness") (clsS 7)
noncomputable def ob118 (_ : Params) : Obj := fnO (Str.ofString "not_less_witness") (Str.ofString "Whitespace.not_less_witness") (Str.ofString "cpy313.tabnanny") 194 79 (clsS 7)
noncomputable def ob134 (_ : Params) : Obj := prO (Str.ofString "lt") (Str.ofString "lt") (topS 4)
noncomputable def ob136 (_ : Params) : Obj := fnO (Str.ofString "lt") (Str.ofString "lt") (Str.ofString "cpy313.operator") 296 93 (topS 4)
noncomputable def ob141 (_ : Params) : Obj := prO (Str.ofString "gt") (Str.ofString "gt") (topS 5)
noncomputable def ob143 (_ : Params) : Obj := fnO (Str.ofString "gt") (Str.ofString "gt") (Str.ofString "cpy313.operator") 296 100 (topS 5)
noncomputable def ob148 (_ : Params) : Obj := prO (Str.ofString "mul") (Str.ofString "mul") (topS 6)
noncomputable def ob150 (_ : Params) : Obj := fnO (Str.ofString "mul") (Str.ofString "mul") (Str.ofString "cpy313.operator") 296 107 (topS 6)
noncomputable def ob155 (_ : Params) : Obj := prO (Str.ofString "sub") (Str.ofString "sub") (topS 7)
noncomputable def ob157 (_ : Params) : Obj := fnO (Str.ofString "sub") (Str.ofString "sub") (Str.ofString "cpy313.operator") 296 114 (topS 7)
noncomputable def ob162 (_ : Params) : Obj := prO (Str.ofString "concat") (Str.ofString "concat") (topS 8)
noncomputable def ob164 (_ : Params) : Obj := fnO (Str.ofString "concat") (Str.ofString "concat") (Str.ofString "cpy313.operator") 296 121 (topS 8)
noncomputable def ob169 (_ : Params) : Obj := prO (Str.ofString "getitem") (Str.ofString "getitem") (topS 9)
noncomputable def ob171 (_ : Params) : Obj := fnO (Str.ofString "getitem") (Str.ofString "getitem") (Str.ofString "cpy313.operator") 296 128 (topS 9)
noncomputable def ob176 (_ : Params) : Obj := prO (Str.ofString "indexOf") (Str.ofString "indexOf") (topS 10)
noncomputable def ob178 (_ : Params) : Obj := fnO (Str.ofString "indexOf") (Str.ofString "indexOf") (Str.ofString "cpy313.operator") 296 135 (topS 10)
noncomputable def ob183 (_ : Params) : Obj := prO (Str.ofString "setitem") (Str.ofString "setitem") (topS 11)
noncomputable def ob185 (_ : Params) : Obj := fnO (Str.ofString "setitem") (Str.ofString "setitem") (Str.ofString "cpy313.operator") 296 142 (topS 11)
noncomputable def ob201 (_ : Params) : Obj := prO (Str.ofString "_law_four") (Str.ofString "_law_four") (topS 62)
noncomputable def ob203 (_ : Params) : Obj := fnO (Str.ofString "_law_four") (Str.ofString "_law_four") (Str.ofString "law_tl0035_01") 559 152 (topS 62)
noncomputable def ob206 (_ : Params) : Obj := prO (Str.ofString "_law_changed") (Str.ofString "_law_changed") (topS 63)
noncomputable def ob208 (_ : Params) : Obj := fnO (Str.ofString "_law_changed") (Str.ofString "_law_changed") (Str.ofString "law_tl0035_01") 559 157 (topS 63)
noncomputable def ob213 (_ : Params) : Obj := prO (Str.ofString "_law_lead") (Str.ofString "_law_lead") (topS 64)
noncomputable def ob215 (_ : Params) : Obj := fnO (Str.ofString "_law_lead") (Str.ofString "_law_lead") (Str.ofString "law_tl0035_01") 559 164 (topS 64)
noncomputable def ob218 (_ : Params) : Obj := prO (Str.ofString "_law_some") (Str.ofString "_law_some") (topS 65)
noncomputable def ob220 (_ : Params) : Obj := fnO (Str.ofString "_law_some") (Str.ofString "_law_some") (Str.ofString "law_tl0035_01") 559 169 (topS 65)
noncomputable def ob223 (_ : Params) : Obj := prO (Str.ofString "_law_orders") (Str.ofString "_law_orders") (topS 66)
noncomputable def ob225 (_ : Params) : Obj := fnO (Str.ofString "_law_orders") (Str.ofString "_law_orders") (Str.ofString "law_tl0035_01") 559 174 (topS 66)
noncomputable def ob228 (_ : Params) : Obj := prO (Str.ofString "law") (Str.ofString "law") (topS 67)
noncomputable def ob230 (_ : Params) : Obj := fnO (Str.ofString "law") (Str.ofString "law") (Str.ofString "law_tl0035_01") 559 179 (topS 67)
noncomputable def Kx : Params → Frag := fun P => [(2, PySem.W.boot_o_2 P), (3, ob195 P), (37, ob75 P), (38, ob76 P), (44, ob82 P), (45, ob83 P), (51, ob89 P), (52, ob90 P), (72, ob110 P), (73, ob111 P), (82, ob120 P), (83, ob121 P), (84, ob122 P), (85, ob123 P), (93, ob135 P), (94, ob136 P), (100, ob142 P), (101, ob143 P), (107, ob149 P), (108, ob150 P), (114, ob156 P), (115, ob157 P), (121, ob163 P), (122, ob164 P), (128, ob170 P), (129, ob171 P), (135, ob177 P), (136, ob178 P), (142, ob184 P), (143, ob185 P), (144, ob189 P), (152, ob202 P), (153, ob203 P), (157, ob207 P), (158, ob208 P), (164, ob214 P), (165, ob215 P), (169, ob219 P), (170, ob220 P), (174, ob224 P), (175, ob225 P), (179, ob229 P), (180, ob230 P)]
def Kas : List Addr := [2, 3, 37, 38, 44, 45, 51, 52, 72, 73, 82, 83, 84, 85, 93, 94, 100, 101, 107, 108, 114, 115, 121, 122, 128, 129, 135, 136, 142, 143, 144, 152, 153, 157, 158, 164, 165, 169, 170, 174, 175, 179, 180]
noncomputable def tr47 : Params → BT := fun P => (.node (PySem.W.boot_o_0 P) (.node (PySem.W.boot_o_1 P) (.node (PySem.W.boot_o_3 P) (.node (PySem.W.boot_o_7 P) .nil .nil) (.node (ob43 P) .nil .nil)) (.node (PySem.W.boot_o_5 P) (.node (PySem.W.boot_o_9 P) .nil .nil) (.node (ob45 P) .nil .nil))) (.node (PySem.W.boot_o_2 P) (.node (PySem.W.boot_o_4 P) (.node (PySem.W.boot_o_8 P) .nil .nil) (.node (ob44 P) .nil .nil)) (.node (PySem.W.boot_o_6 P) (.node (PySem.W.boot_o_10 P) .nil .nil) (.node (ob46 P) .nil .nil))))
noncomputable def tr57 : Params → BT := fun P => (.node (PySem.W.boot_o_0 P) (.node (PySem.W.boot_o_1 P) (.node (ob49 P) (.node (PySem.W.boot_o_7 P) (.node (ob51 P) .nil .nil) .nil) (.node (ob43 P) (.node (ob55 P) .nil .nil) .nil)) (.node (PySem.W.boot_o_5 P) (.node (PySem.W.boot_o_9 P) (.node (ob53 P) .nil .nil) .nil) (.node (ob45 P) (.node (ob57 P) .nil .nil) .nil))) (.node (PySem.W.boot_o_2 P) (.node (PySem.W.boot_o_4 P) (.node (PySem.W.boot_o_8 P) (.node (ob52 P) .nil .nil) .nil) (.node (ob50 P) (.node (ob56 P) .nil .nil) .nil)) (.node (PySem.W.boot_o_6 P) (.node (PySem.W.boot_o_10 P) (.node (ob54 P) .nil .nil) .nil) (.node (ob46 P) .nil .nil))))
noncomputable def tr125 : Params → BT := fun P => (.node (PySem.W.boot_o_0 P) (.node (PySem.W.boot_o_1 P) (.node (ob58 P) (.node (PySem.W.boot_o_7 P) (.node (ob51 P) (.node (ob69 P) (.node (ob101 P) .nil .nil) .nil) (.node (ob85 P) (.node (ob117 P) .nil .nil) .nil)) (.node (ob61 P) (.node (ob77 P) (.node (ob109 P) .nil .nil) .nil) (.node (ob93 P) (.node (ob125 P) .nil .nil) .nil))) (.node (ob43 P) (.node (ob55 P) (.node (ob73 P) (.node (ob105 P) .nil .nil) .nil) (.node (ob89 P) (.node (ob121 P) .nil .nil) .nil)) (.node (ob65 P) (.node (ob81 P) (.node (ob113 P) .nil .nil) .nil) (.node (ob97 P) .nil .nil)))) (.node (PySem.W.boot_o_5 P) (.node (PySem.W.boot_o_9 P) (.node (ob53 P) (.node (ob71 P) (.node (ob103 P) .nil .nil) .nil) (.node (ob87 P) (.node (ob119 P) .nil .nil) .nil)) (.node (ob63 P) (.node (ob79 P) (.node (ob111 P) .nil .nil) .nil) (.node (ob95 P) .nil .nil))) (.node (ob45 P) (.node (ob57 P) (.node (ob75 P) (.node (ob107 P) .nil .nil) .nil) (.node (ob91 P) (.node (ob123 P) .nil .nil) .nil)) (.node (ob67 P) (.node (ob83 P) (.node (ob115 P) .nil .nil) .nil) (.node (ob99 P) .nil .nil))))) (.node (PySem.W.boot_o_2 P) (.node (PySem.W.boot_o_4 P) (.node (PySem.W.boot_o_8 P) (.node (ob52 P) (.node (ob70 P) (.node (ob102 P) .nil .nil) .nil) (.node (ob86 P) (.node (ob118 P) .nil .nil) .nil)) (.node (ob62 P) (.node (ob78 P) (.node (ob110 P) .nil .nil) .nil) (.node (ob94 P) .nil .nil))) (.node (ob59 P) (.node (ob56 P) (.node (ob74 P) (.node (ob106 P) .nil .nil) .nil) (.node (ob90 P) (.node (ob122 P) .nil .nil) .nil)) (.node (ob66 P) (.node (ob82 P) (.node (ob114 P) .nil .nil) .nil) (.node (ob98 P) .nil .nil)))) (.node (PySem.W.boot_o_6 P) (.node (PySem.W.boot_o_10 P) (.node (ob54 P) (.node (ob72 P) (.node (ob104 P) .nil .nil) .nil) (.node (ob88 P) (.node (ob120 P) .nil .nil) .nil)) (.node (ob64 P) (.node (ob80 P) (.node (ob112 P) .nil .nil) .nil) (.node (ob96 P) .nil .nil))) (.node (ob46 P) (.node (ob60 P) (.node (ob76 P) (.node (ob108 P) .nil .nil) .nil) (.node (ob92 P) (.node (ob124 P) .nil .nil) .nil)) (.node (ob68 P) (.node (ob84 P) (.node (ob116 P) .nil .nil) .nil) (.node (ob100 P) .nil .nil))))))
noncomputable def tr185 : Params → BT := fun P => (.node (PySem.W.boot_o_0 P) (.node (PySem.W.boot_o_1 P) (.node (ob128 P) (.node (PySem.W.boot_o_7 P) (.node (ob51 P) (.node (ob69 P) (.node (ob101 P) (.node (ob169 P) .nil .nil) .nil) (.node (ob137 P) .nil .nil)) (.node (ob85 P) (.node (ob117 P) (.node (ob185 P) .nil .nil) .nil) (.node (ob153 P) .nil .nil))) (.node (ob61 P) (.node (ob77 P) (.node (ob109 P) (.node (ob177 P) .nil .nil) .nil) (.node (ob145 P) .nil .nil)) (.node (ob93 P) (.node (ob125 P) .nil .nil) (.node (ob161 P) .nil .nil)))) (.node (ob43 P) (.node (ob55 P) (.node (ob73 P) (.node (ob105 P) (.node (ob173 P) .nil .nil) .nil) (.node (ob141 P) .nil .nil)) (.node (ob89 P) (.node (ob121 P) .nil .nil) (.node (ob157 P) .nil .nil))) (.node (ob65 P) (.node (ob81 P) (.node (ob113 P) (.node (ob181 P) .nil .nil) .nil) (.node (ob149 P) .nil .nil)) (.node (ob97 P) (.node (ob133 P) .nil .nil) (.node (ob165 P) .nil .nil))))) (.node (PySem.W.boot_o_5 P) (.node (PySem.W.boot_o_9 P) (.node (ob53 P) (.node (ob71 P) (.node (ob103 P) (.node (ob171 P) .nil .nil) .nil) (.node (ob139 P) .nil .nil)) (.node (ob87 P) (.node (ob119 P) .nil .nil) (.node (ob155 P) .nil .nil))) (.node (ob63 P) (.node (ob79 P) (.node (ob111 P) (.node (ob179 P) .nil .nil) .nil) (.node (ob147 P) .nil .nil)) (.node (ob95 P) (.node (ob131 P) .nil .nil) (.node (ob163 P) .nil .nil)))) (.node (ob45 P) (.node (ob57 P) (.node (ob75 P) (.node (ob107 P) (.node (ob175 P) .nil .nil) .nil) (.node (ob143 P) .nil .nil)) (.node (ob91 P) (.node (ob123 P) .nil .nil) (.node (ob159 P) .nil .nil))) (.node (ob67 P) (.node (ob83 P) (.node (ob115 P) (.node (ob183 P) .nil .nil) .nil) (.node (ob151 P) .nil .nil)) (.node (ob99 P) (.node (ob135 P) .nil .nil) (.node (ob167 P) .nil .nil)))))) (.node (PySem.W.boot_o_2 P) (.node (PySem.W.boot_o_4 P) (.node (PySem.W.boot_o_8 P) (.node (ob52 P) (.node (ob70 P) (.node (ob102 P) (.node (ob170 P) .nil .nil) .nil) (.node (ob138 P) .nil .nil)) (.node (ob86 P) (.node (ob118 P) .nil .nil) (.node (ob154 P) .nil .nil))) (.node (ob62 P) (.node (ob78 P) (.node (ob110 P) (.node (ob178 P) .nil .nil) .nil) (.node (ob146 P) .nil .nil)) (.node (ob94 P) (.node (ob130 P) .nil .nil) (.node (ob162 P) .nil .nil)))) (.node (ob129 P) (.node (ob56 P) (.node (ob74 P) (.node (ob106 P) (.node (ob174 P) .nil .nil) .nil) (.node (ob142 P) .nil .nil)) (.node (ob90 P) (.node (ob122 P) .nil .nil) (.node (ob158 P) .nil .nil))) (.node (ob66 P) (.node (ob82 P) (.node (ob114 P) (.node (ob182 P) .nil .nil) .nil) (.node (ob150 P) .nil .nil)) (.node (ob98 P) (.node (ob134 P) .nil .nil) (.node (ob166 P) .nil .nil))))) (.node (PySem.W.boot_o_6 P) (.node (PySem.W.boot_o_10 P) (.node (ob54 P) (.node (ob72 P) (.node (ob104 P) (.node (ob172 P) .nil .nil) .nil) (.node (ob140 P) .nil .nil)) (.node (ob88 P) (.node (ob120 P) .nil .nil) (.node (ob156 P) .nil .nil))) (.node (ob64 P) (.node (ob80 P) (.node (ob112 P) (.node (ob180 P) .nil .nil) .nil) (.node (ob148 P) .nil .nil)) (.node (ob96 P) (.node (ob132 P) .nil .nil) (.node (ob164 P) .nil .nil)))) (.node (ob46 P) (.node (ob60 P) (.node (ob76 P) (.node (ob108 P) (.node (ob176 P) .nil .nil) .nil) (.node (ob144 P) .nil .nil)) (.node (ob92 P) (.node (ob124 P) .nil .nil) (.node (ob160 P) .nil .nil))) (.node (ob68 P) (.node (ob84 P) (.node (ob116 P) (.node (ob184 P) .nil .nil) .nil) (.node (ob152 P) .nil .nil)) (.node (ob100 P) (.node (ob136 P) .nil .nil) (.node (ob168 P) .nil .nil)))))))
noncomputable def tr186 : Params → BT := fun P => (.node (PySem.W.boot_o_0 P) (.node (PySem.W.boot_o_1 P) (.node (ob186 P) (.node (PySem.W.boot_o_7 P) (.node (ob51 P) (.node (ob69 P) (.node (ob101 P) (.node (ob169 P) .nil .nil) .nil) (.node (ob137 P) .nil .nil)) (.node (ob85 P) (.node (ob117 P) (.node (ob185 P) .nil .nil) .nil) (.node (ob153 P) .nil .nil))) (.node (ob61 P) (.node (ob77 P) (.node (ob109 P) (.node (ob177 P) .nil .nil) .nil) (.node (ob145 P) .nil .nil)) (.node (ob93 P) (.node (ob125 P) .nil .nil) (.node (ob161 P) .nil .nil)))) (.node (ob43 P) (.node (ob55 P) (.node (ob73 P) (.node (ob105 P) (.node (ob173 P) .nil .nil) .nil) (.node (ob141 P) .nil .nil)) (.node (ob89 P) (.node (ob121 P) .nil .nil) (.node (ob157 P) .nil .nil))) (.node (ob65 P) (.node (ob81 P) (.node (ob113 P) (.node (ob181 P) .nil .nil) .nil) (.node (ob149 P) .nil .nil)) (.node (ob97 P) (.node (ob133 P) .nil .nil) (.node (ob165 P) .nil .nil))))) (.node (PySem.W.boot_o_5 P) (.node (PySem.W.boot_o_9 P) (.node (ob53 P) (.node (ob71 P) (.node (ob103 P) (.node (ob171 P) .nil .nil) .nil) (.node (ob139 P) .nil .nil)) (.node (ob87 P) (.node (ob119 P) .nil .nil) (.node (ob155 P) .nil .nil))) (.node (ob63 P) (.node (ob79 P) (.node (ob111 P) (.node (ob179 P) .nil .nil) .nil) (.node (ob147 P) .nil .nil)) (.node (ob95 P) (.node (ob131 P) .nil .nil) (.node (ob163 P) .nil .nil)))) (.node (ob45 P) (.node (ob57 P) (.node (ob75 P) (.node (ob107 P) (.node (ob175 P) .nil .nil) .nil) (.node (ob143 P) .nil .nil)) (.node (ob91 P) (.node (ob123 P) .nil .nil) (.node (ob159 P) .nil .nil))) (.node (ob67 P) (.node (ob83 P) (.node (ob115 P) (.node (ob183 P) .nil .nil) .nil) (.node (ob151 P) .nil .nil)) (.node (ob99 P) (.node (ob135 P) .nil .nil) (.node (ob167 P) .nil .nil)))))) (.node (PySem.W.boot_o_2 P) (.node (PySem.W.boot_o_4 P) (.node (PySem.W.boot_o_8 P) (.node (ob52 P) (.node (ob70 P) (.node (ob102 P) (.node (ob170 P) .nil .nil) .nil) (.node (ob138 P) .nil .nil)) (.node (ob86 P) (.node (ob118 P) .nil .nil) (.node (ob154 P) .nil .nil))) (.node (ob62 P) (.node (ob78 P) (.node (ob110 P) (.node (ob178 P) .nil .nil) .nil) (.node (ob146 P) .nil .nil)) (.node (ob94 P) (.node (ob130 P) .nil .nil) (.node (ob162 P) .nil .nil)))) (.node (ob129 P) (.node (ob56 P) (.node (ob74 P) (.node (ob106 P) (.node (ob174 P) .nil .nil) .nil) (.node (ob142 P) .nil .nil)) (.node (ob90 P) (.node (ob122 P) .nil .nil) (.node (ob158 P) .nil .nil))) (.node (ob66 P) (.node (ob82 P) (.node (ob114 P) (.node (ob182 P) .nil .nil) .nil) (.node (ob150 P) .nil .nil)) (.node (ob98 P) (.node (ob134 P) .nil .nil) (.node (ob166 P) .nil .nil))))) (.node (PySem.W.boot_o_6 P) (.node (PySem.W.boot_o_10 P) (.node (ob54 P) (.node (ob72 P) (.node (ob104 P) (.node (ob172 P) .nil .nil) .nil) (.node (ob140 P) .nil .nil)) (.node (ob88 P) (.node (ob120 P) .nil .nil) (.node (ob156 P) .nil .nil))) (.node (ob64 P) (.node (ob80 P) (.node (ob112 P) (.node (ob180 P) .nil .nil) .nil) (.node (ob148 P) .nil .nil)) (.node (ob96 P) (.node (ob132 P) .nil .nil) (.node (ob164 P) .nil .nil)))) (.node (ob46 P) (.node (ob60 P) (.node (ob76 P) (.node (ob108 P) (.node (ob176 P) .nil .nil) .nil) (.node (ob144 P) .nil .nil)) (.node (ob92 P) (.node (ob124 P) .nil .nil) (.node (ob160 P) .nil .nil))) (.node (ob68 P) (.node (ob84 P) (.node (ob116 P) (.node (ob184 P) .nil .nil) .nil) (.node (ob152 P) .nil .nil)) (.node (ob100 P) (.node (ob136 P) .nil .nil) (.node (ob168 P) .nil .nil)))))))
noncomputable def tr191 : Params → BT := fun P => (.node (PySem.W.boot_o_0 P) (.node (PySem.W.boot_o_1 P) (.node (ob188 P) (.node (PySem.W.boot_o_7 P) (.node (ob51 P) (.node (ob69 P) (.node (ob101 P) (.node (ob169 P) .nil .nil) .nil) (.node (ob137 P) .nil .nil)) (.node (ob85 P) (.node (ob117 P) (.node (ob185 P) .nil .nil) .nil) (.node (ob153 P) .nil .nil))) (.node (ob61 P) (.node (ob77 P) (.node (ob109 P) (.node (ob177 P) .nil .nil) .nil) (.node (ob145 P) .nil .nil)) (.node (ob93 P) (.node (ob125 P) .nil .nil) (.node (ob161 P) .nil .nil)))) (.node (ob43 P) (.node (ob55 P) (.node (ob73 P) (.node (ob105 P) (.node (ob173 P) .nil .nil) .nil) (.node (ob141 P) .nil .nil)) (.node (ob89 P) (.node (ob121 P) .nil .nil) (.node (ob157 P) .nil .nil))) (.node (ob65 P) (.node (ob81 P) (.node (ob113 P) (.node (ob181 P) .nil .nil) .nil) (.node (ob149 P) .nil .nil)) (.node (ob97 P) (.node (ob133 P) .nil .nil) (.node (ob165 P) .nil .nil))))) (.node (PySem.W.boot_o_5 P) (.node (PySem.W.boot_o_9 P) (.node (ob53 P) (.node (ob71 P) (.node (ob103 P) (.node (ob171 P) .nil .nil) .nil) (.node (ob139 P) .nil .nil)) (.node (ob87 P) (.node (ob119 P) (.node (ob190 P) .nil .nil) .nil) (.node (ob155 P) .nil .nil))) (.node (ob63 P) (.node (ob79 P) (.node (ob111 P) (.node (ob179 P) .nil .nil) .nil) (.node (ob147 P) .nil .nil)) (.node (ob95 P) (.node (ob131 P) .nil .nil) (.node (ob163 P) .nil .nil)))) (.node (ob45 P) (.node (ob57 P) (.node (ob75 P) (.node (ob107 P) (.node (ob175 P) .nil .nil) .nil) (.node (ob143 P) .nil .nil)) (.node (ob91 P) (.node (ob123 P) .nil .nil) (.node (ob159 P) .nil .nil))) (.node (ob67 P) (.node (ob83 P) (.node (ob115 P) (.node (ob183 P) .nil .nil) .nil) (.node (ob151 P) .nil .nil)) (.node (ob99 P) (.node (ob135 P) .nil .nil) (.node (ob167 P) .nil .nil)))))) (.node (PySem.W.boot_o_2 P) (.node (PySem.W.boot_o_4 P) (.node (PySem.W.boot_o_8 P) (.node (ob52 P) (.node (ob70 P) (.node (ob102 P) (.node (ob170 P) .nil .nil) .nil) (.node (ob138 P) .nil .nil)) (.node (ob86 P) (.node (ob118 P) (.node (ob189 P) .nil .nil) .nil) (.node (ob154 P) .nil .nil))) (.node (ob62 P) (.node (ob78 P) (.node (ob110 P) (.node (ob178 P) .nil .nil) .nil) (.node (ob146 P) .nil .nil)) (.node (ob94 P) (.node (ob130 P) .nil .nil) (.node (ob162 P) .nil .nil)))) (.node (ob129 P) (.node (ob56 P) (.node (ob74 P) (.node (ob106 P) (.node (ob174 P) .nil .nil) .nil) (.node (ob142 P) .nil .nil)) (.node (ob90 P) (.node (ob122 P) .nil .nil) (.node (ob158 P) .nil .nil))) (.node (ob66 P) (.node (ob82 P) (.node (ob114 P) (.node (ob182 P) .nil .nil) .nil) (.node (ob150 P) .nil .nil)) (.node (ob98 P) (.node (ob134 P) .nil .nil) (.node (ob166 P) .nil .nil))))) (.node (PySem.W.boot_o_6 P) (.node (PySem.W.boot_o_10 P) (.node (ob54 P) (.node (ob72 P) (.node (ob104 P) (.node (ob172 P) .nil .nil) .nil) (.node (ob140 P) .nil .nil)) (.node (ob88 P) (.node (ob120 P) (.node (ob191 P) .nil .nil) .nil) (.node (ob156 P) .nil .nil))) (.node (ob64 P) (.node (ob80 P) (.node (ob112 P) (.node (ob180 P) .nil .nil) .nil) (.node (ob148 P) .nil .nil)) (.node (ob96 P) (.node (ob132 P) .nil .nil) (.node (ob164 P) .nil .nil)))) (.node (ob46 P) (.node (ob60 P) (.node (ob76 P) (.node (ob108 P) (.node (ob176 P) .nil .nil) .nil) (.node (ob144 P) .nil .nil)) (.node (ob92 P) (.node (ob124 P) .nil .nil) (.node (ob160 P) .nil .nil))) (.node (ob68 P) (.node (ob84 P) (.node (ob116 P) (.node (ob184 P) .nil .nil) .nil) (.node (ob152 P) .nil .nil)) (.node (ob100 P) (.node (ob136 P) .nil .nil) (.node (ob168 P) .nil .nil)))))))
noncomputable def tr230 : Params → BT := fun P => (.node (PySem.W.boot_o_0 P) (.node (PySem.W.boot_o_1 P) (.node (ob195 P) (.node (PySem.W.boot_o_7 P) (.node (ob51 P) (.node (ob69 P) (.node (ob101 P) (.node (ob169 P) .nil .nil) .nil) (.node (ob137 P) (.node (ob209 P) .nil .nil) .nil)) (.node (ob85 P) (.node (ob117 P) (.node (ob185 P) .nil .nil) .nil) (.node (ob153 P) (.node (ob225 P) .nil .nil) .nil))) (.node (ob61 P) (.node (ob77 P) (.node (ob109 P) (.node (ob177 P) .nil .nil) .nil) (.node (ob145 P) (.node (ob217 P) .nil .nil) .nil)) (.node (ob93 P) (.node (ob125 P) (.node (ob201 P) .nil .nil) .nil) (.node (ob161 P) .nil .nil)))) (.node (ob43 P) (.node (ob55 P) (.node (ob73 P) (.node (ob105 P) (.node (ob173 P) .nil .nil) .nil) (.node (ob141 P) (.node (ob213 P) .nil .nil) .nil)) (.node (ob89 P) (.node (ob121 P) (.node (ob197 P) .nil .nil) .nil) (.node (ob157 P) (.node (ob229 P) .nil .nil) .nil))) (.node (ob65 P) (.node (ob81 P) (.node (ob113 P) (.node (ob181 P) .nil .nil) .nil) (.node (ob149 P) (.node (ob221 P) .nil .nil) .nil)) (.node (ob97 P) (.node (ob133 P) (.node (ob205 P) .nil .nil) .nil) (.node (ob165 P) .nil .nil))))) (.node (PySem.W.boot_o_5 P) (.node (PySem.W.boot_o_9 P) (.node (ob53 P) (.node (ob71 P) (.node (ob103 P) (.node (ob171 P) .nil .nil) .nil) (.node (ob139 P) (.node (ob211 P) .nil .nil) .nil)) (.node (ob87 P) (.node (ob119 P) (.node (ob190 P) .nil .nil) .nil) (.node (ob155 P) (.node (ob227 P) .nil .nil) .nil))) (.node (ob63 P) (.node (ob79 P) (.node (ob111 P) (.node (ob179 P) .nil .nil) .nil) (.node (ob147 P) (.node (ob219 P) .nil .nil) .nil)) (.node (ob95 P) (.node (ob131 P) (.node (ob203 P) .nil .nil) .nil) (.node (ob163 P) .nil .nil)))) (.node (ob45 P) (.node (ob57 P) (.node (ob75 P) (.node (ob107 P) (.node (ob175 P) .nil .nil) .nil) (.node (ob143 P) (.node (ob215 P) .nil .nil) .nil)) (.node (ob91 P) (.node (ob123 P) (.node (ob199 P) .nil .nil) .nil) (.node (ob159 P) .nil .nil))) (.node (ob67 P) (.node (ob83 P) (.node (ob115 P) (.node (ob183 P) .nil .nil) .nil) (.node (ob151 P) (.node (ob223 P) .nil .nil) .nil)) (.node (ob99 P) (.node (ob135 P) (.node (ob207 P) .nil .nil) .nil) (.node (ob167 P) .nil .nil)))))) (.node (PySem.W.boot_o_2 P) (.node (PySem.W.boot_o_4 P) (.node (PySem.W.boot_o_8 P) (.node (ob52 P) (.node (ob70 P) (.node (ob102 P) (.node (ob170 P) .nil .nil) .nil) (.node (ob138 P) (.node (ob210 P) .nil .nil) .nil)) (.node (ob86 P) (.node (ob118 P) (.node (ob189 P) .nil .nil) .nil) (.node (ob154 P) (.node (ob226 P) .nil .nil) .nil))) (.node (ob62 P) (.node (ob78 P) (.node (ob110 P) (.node (ob178 P) .nil .nil) .nil) (.node (ob146 P) (.node (ob218 P) .nil .nil) .nil)) (.node (ob94 P) (.node (ob130 P) (.node (ob202 P) .nil .nil) .nil) (.node (ob162 P) .nil .nil)))) (.node (ob196 P) (.node (ob56 P) (.node (ob74 P) (.node (ob106 P) (.node (ob174 P) .nil .nil) .nil) (.node (ob142 P) (.node (ob214 P) .nil .nil) .nil)) (.node (ob90 P) (.node (ob122 P) (.node (ob198 P) .nil .nil) .nil) (.node (ob158 P) (.node (ob230 P) .nil .nil) .nil))) (.node (ob66 P) (.node (ob82 P) (.node (ob114 P) (.node (ob182 P) .nil .nil) .nil) (.node (ob150 P) (.node (ob222 P) .nil .nil) .nil)) (.node (ob98 P) (.node (ob134 P) (.node (ob206 P) .nil .nil) .nil) (.node (ob166 P) .nil .nil))))) (.node (PySem.W.boot_o_6 P) (.node (PySem.W.boot_o_10 P) (.node (ob54 P) (.node (ob72 P) (.node (ob104 P) (.node (ob172 P) .nil .nil) .nil) (.node (ob140 P) (.node (ob212 P) .nil .nil) .nil)) (.node (ob88 P) (.node (ob120 P) (.node (ob191 P) .nil .nil) .nil) (.node (ob156 P) (.node (ob228 P) .nil .nil) .nil))) (.node (ob64 P) (.node (ob80 P) (.node (ob112 P) (.node (ob180 P) .nil .nil) .nil) (.node (ob148 P) (.node (ob220 P) .nil .nil) .nil)) (.node (ob96 P) (.node (ob132 P) (.node (ob204 P) .nil .nil) .nil) (.node (ob164 P) .nil .nil)))) (.node (ob46 P) (.node (ob60 P) (.node (ob76 P) (.node (ob108 P) (.node (ob176 P) .nil .nil) .nil) (.node (ob144 P) (.node (ob216 P) .nil .nil) .nil)) (.node (ob92 P) (.node (ob124 P) (.node (ob200 P) .nil .nil) .nil) (.node (ob160 P) .nil .nil))) (.node (ob68 P) (.node (ob84 P) (.node (ob116 P) (.node (ob184 P) .nil .nil) .nil) (.node (ob152 P) (.node (ob224 P) .nil .nil) .nil)) (.node (ob100 P) (.node (ob136 P) (.node (ob208 P) .nil .nil) .nil) (.node (ob168 P) .nil .nil)))))))
noncomputable def hp46 : Params → Heap := fun P => ⟨⟨[PySem.W.boot_o_0 P, PySem.W.boot_o_1 P, PySem.W.boot_o_2 P, PySem.W.boot_o_3 P, PySem.W.boot_o_4 P, PySem.W.boot_o_5 P, PySem.W.boot_o_6 P, PySem.W.boot_o_7 P, PySem.W.boot_o_8 P, PySem.W.boot_o_9 P, PySem.W.boot_o_10 P, ob43 P, ob44 P, ob45 P, ob46 P]⟩, {}⟩
noncomputable def hp231 : Params → Heap := fun P => ⟨⟨[PySem.W.boot_o_0 P, PySem.W.boot_o_1 P, PySem.W.boot_o_2 P, ob195 P, PySem.W.boot_o_4 P, PySem.W.boot_o_5 P, PySem.W.boot_o_6 P, PySem.W.boot_o_7 P, PySem.W.boot_o_8 P, PySem.W.boot_o_9 P, PySem.W.boot_o_10 P, ob43 P, ob196 P, ob45 P, ob46 P, ob51 P, ob52 P, ob53 P, ob54 P, ob55 P, ob56 P, ob57 P, ob60 P, ob61 P, ob62 P, ob63 P, ob64 P, ob65 P, ob66 P, ob67 P, ob68 P, ob69 P, ob70 P, ob71 P, ob72 P, ob73 P, ob74 P, ob75 P, ob76 P, ob77 P, ob78 P, ob79 P, ob80 P, ob81 P, ob82 P, ob83 P, ob84 P, ob85 P, ob86 P, ob87 P, ob88 P, ob89 P, ob90 P, ob91 P, ob92 P, ob93 P, ob94 P, ob95 P, ob96 P, ob97 P, ob98 P, ob99 P, ob100 P, ob101 P, ob102 P, ob103 P, ob104 P, ob105 P, ob106 P, ob107 P, ob108 P, ob109 P, ob110 P, ob111 P, ob112 P, ob113 P, ob114 P, ob115 P, ob116 P, ob117 P, ob118 P, ob119 P, ob120 P, ob121 P, ob122 P, ob123 P, ob124 P, ob125 P, ob130 P, ob131 P, ob132 P, ob133 P, ob134 P, ob135 P, ob136 P, ob137 P, ob138 P, ob139 P, ob140 P, ob141 P, ob142 P, ob143 P, ob144 P, ob145 P, ob146 P, ob147 P, ob148 P, ob149 P, ob150 P, ob151 P, ob152 P, ob153 P, ob154 P, ob155 P, ob156 P, ob157 P, ob158 P, ob159 P, ob160 P, ob161 P, ob162 P, ob163 P, ob164 P, ob165 P, ob166 P, ob167 P, ob168 P, ob169 P, ob170 P, ob171 P, ob172 P, ob173 P, ob174 P, ob175 P, ob176 P, ob177 P, ob178 P, ob179 P, ob180 P, ob181 P, ob182 P, ob183 P, ob184 P, ob185 P, ob189 P, ob190 P, ob191 P, ob197 P, ob198 P, ob199 P, ob200 P, ob201 P, ob202 P, ob203 P, ob204 P, ob205 P, ob206 P, ob207 P, ob208 P, ob209 P, ob210 P, ob211 P, ob212 P, ob213 P, ob214 P, ob215 P, ob216 P, ob217 P, ob218 P, ob219 P, ob220 P, ob221 P, ob222 P, ob223 P, ob224 P, ob225 P, ob226 P, ob227 P, ob228 P, ob229 P, ob230 P]⟩, {}⟩
end Mine

-- N1
namespace Mine
open PySem PySem.W PyProof.Rows

abbrev Rr : OpenRow := PySem.Challenge.rw_tl0035_01.row
noncomputable def Qv : Program := view PySem.Challenge.pw_tl0035_01 [0, 2, 4, 5, 6, 7, 8, 9, 10, 11, 12, 13, 14, 15, 16, 17, 18, 19, 20, 21, 22, 23, 24, 25, 26, 27, 28, 29, 30, 31, 32, 33, 34, 35, 36, 37, 38, 39, 40, 41, 42, 43, 44, 45, 46, 47, 48, 49, 50, 51, 52, 53, 54, 55, 56, 57, 58, 59, 60, 62, 63, 64, 65, 66, 67]
noncomputable abbrev Hk : Hook := kHook Kx Kas (fun _ => by kernel_rfl)
abbrev Lo : List Str := ["Whitespace", "EXACT_TOKEN_TYPES"]
noncomputable abbrev Xt (s : Shared) : Bool := xlAt Qv [] s && recOk (RowW.records Rr.toRowW) s
noncomputable abbrev Pp : Program := Rr.prog
noncomputable def En : Env := { scope := Pp.main.scope, locals := mainNs, globals := mainNs, cells := [], code := .ref 13, frame := some 14 }
noncomputable abbrev Bd : List Stmt := behindTheImports Pp
noncomputable abbrev Cd : Code := .body Bd En
abbrev q0 : Pos := ⟨0, 0, 0, 0⟩
abbrev Fs : List Frame := [topFrame q0]
noncomputable def part (a n : Nat) : List Stmt := (Bd.drop a).take n
noncomputable abbrev shT (t : Params → BT) (n k : Nat) (w : World) (os : OsState) : SharedT := ⟨t w.params, n, {}, #[], {}, k, os⟩
noncomputable abbrev sh (h : Params → Heap) (k : Nat) (w : World) (os : OsState) : Shared := ⟨h w.params, #[], {}, k, os⟩
noncomputable abbrev sh0 (w : World) (os : OsState) : Shared := ⟨boot_heap w.params, #[], boot_drawn, boot_toks, os⟩
abbrev an6 : Option Value := some (.ref 6)
theorem t_pre (w : World) (os : OsState) : topGo treeTable Pp w 11 an6 12 (sh0 w os) (topStub Pp) = some (sh hp46 187 w os, ⟨denote treeTable Cd, Cd, q0, Fs⟩) := by kernel_rfl
theorem t_blk (w : World) (os : OsState) : segRun treeTable Pp w 11 an6 1 1 (sh hp46 187 w os) (blockOf Bd En Cd q0 Fs) = some (.next, (shT tr47 15 187 w os).abs, Cd, q0) := by kernel_rfl
theorem t_p1 (w : World) (os : OsState) : segRunT treeTable Pp w 11 an6 1 39 (shT tr47 15 187 w os) (piecesOf (part 0 2) En Cd q0 Fs) = some (.next, shT tr57 22 196 w os, Cd, ⟨4, 0, 4, 8⟩) := by kernel_rfl
theorem t_p2_false (w : World) (os : OsState) : segRunT treeTable Pp (w.withFollow "special-get-raises" false) 11 an6 1 493 (shT tr57 22 196 (w.withFollow "special-get-raises" false) os) (piecesOf (part 2 1) En Cd ⟨4, 0, 4, 8⟩ Fs) = some (.next, shT tr125 88 296 (w.withFollow "special-get-raises" false) os, Cd, ⟨5, 0, 60, 16⟩) := by kernel_rfl
theorem t_p2_true (w : World) (os : OsState) : segRunT treeTable Pp (w.withFollow "special-get-raises" true) 11 an6 1 493 (shT tr57 22 196 (w.withFollow "special-get-raises" true) os) (piecesOf (part 2 1) En Cd ⟨4, 0, 4, 8⟩ Fs) = some (.next, shT tr125 88 296 (w.withFollow "special-get-raises" true) os, Cd, ⟨5, 0, 60, 16⟩) := by kernel_rfl
theorem t_p2 (w : World) (os : OsState) : segRunT treeTable Pp w 11 an6 1 493 (shT tr57 22 196 w os) (piecesOf (part 2 1) En Cd ⟨4, 0, 4, 8⟩ Fs) = some (.next, shT tr125 88 296 w os, Cd, ⟨5, 0, 60, 16⟩) := byRow2 "special-get-raises" (P := fun w => segRunT treeTable Pp w 11 an6 1 493 (shT tr57 22 196 w os) (piecesOf (part 2 1) En Cd ⟨4, 0, 4, 8⟩ Fs) = some (.next, shT tr125 88 296 w os, Cd, ⟨5, 0, 60, 16⟩)) (fun w => t_p2_false w os) (fun w => t_p2_true w os) w
theorem t_p3 (w : World) (os : OsState) : segRunT treeTable Pp w 11 an6 1 398 (shT tr125 88 296 w os) (piecesOf (part 3 25) En Cd ⟨5, 0, 60, 16⟩ Fs) = some (.next, shT tr185 144 398 w os, Cd, ⟨100, 0, 100, 5⟩) := by kernel_rfl
theorem t_p4 (w : World) (os : OsState) : segRunT treeTable Pp w 11 an6 1 289 (shT tr185 144 398 w os) (piecesOf (part 28 32) En Cd ⟨100, 0, 100, 5⟩ Fs) = some (.next, shT tr186 144 462 w os, Cd, ⟨132, 0, 132, 11⟩) := by kernel_rfl
theorem t_p5_false (w : World) (os : OsState) : segRunT treeTable Pp (w.withFollow "special-get-raises" false) 11 an6 1 979 (shT tr186 144 462 (w.withFollow "special-get-raises" false) os) (piecesOf (part 60 1) En Cd ⟨132, 0, 132, 11⟩ Fs) = some (.next, shT tr191 147 559 (w.withFollow "special-get-raises" false) os, Cd, ⟨133, 0, 133, 17⟩) := by kernel_rfl
theorem t_p5_true (w : World) (os : OsState) : segRunT treeTable Pp (w.withFollow "special-get-raises" true) 11 an6 1 979 (shT tr186 144 462 (w.withFollow "special-get-raises" true) os) (piecesOf (part 60 1) En Cd ⟨132, 0, 132, 11⟩ Fs) = some (.next, shT tr191 147 559 (w.withFollow "special-get-raises" true) os, Cd, ⟨133, 0, 133, 17⟩) := by kernel_rfl
theorem t_p5 (w : World) (os : OsState) : segRunT treeTable Pp w 11 an6 1 979 (shT tr186 144 462 w os) (piecesOf (part 60 1) En Cd ⟨132, 0, 132, 11⟩ Fs) = some (.next, shT tr191 147 559 w os, Cd, ⟨133, 0, 133, 17⟩) := byRow2 "special-get-raises" (P := fun w => segRunT treeTable Pp w 11 an6 1 979 (shT tr186 144 462 w os) (piecesOf (part 60 1) En Cd ⟨132, 0, 132, 11⟩ Fs) = some (.next, shT tr191 147 559 w os, Cd, ⟨133, 0, 133, 17⟩)) (fun w => t_p5_false w os) (fun w => t_p5_true w os) w
theorem t_p6 (w : World) (os : OsState) : segRunT treeTable Pp w 11 an6 1 178 (shT tr191 147 559 w os) (piecesOf (part 61 7) En Cd ⟨133, 0, 133, 17⟩ Fs) = some (.next, shT tr230 181 605 w os, Cd, ⟨176, 0, 221, 45⟩) := by kernel_rfl
theorem t_fin (w : World) (os : OsState) : topRun treeTable Pp w 11 an6 2 (shT tr230 181 605 w os).abs ⟨doneF .next, Cd, ⟨176, 0, 221, 45⟩, Fs⟩ = some (sh hp231 605 w os) := by kernel_rfl
theorem t_cut : Bd = part 0 2 ++ (part 2 1 ++ (part 3 25 ++ (part 28 32 ++ (part 60 1 ++ (part 61 7 ++ []))))) := by kernel_rfl
end Mine

-- N2
namespace Mine
open PySem PySem.W PyProof.Rows

abbrev NN : Nat := Nat.add 12 (Nat.add 1 (Nat.add 39 (Nat.add 493 (Nat.add 398 (Nat.add 289 (Nat.add 979 (Nat.add 178 2)))))))
theorem t_open : ∀ w : World, (fencedOpening treeTable Pp w 4866).map (fun s => (s.heap, s.gens, s.drawn, s.toks)) = some (boot_heap w.params, #[], boot_drawn, boot_toks) :=
  boot_open (by kernel_rfl) (by decide) (fun s => by kernel_rfl)
theorem t_size : ∀ w : World, ((boot_heap w.params).isNs mainGlobals && (#[] : Array GenState).size == 0, (boot_heap w.params).objs.size, (boot_heap w.params).nsMap mainGlobals "__annotations__") = (true, 11, an6) := fun w => by kernel_rfl
theorem t_run (w : World) (os : OsState) : topRun treeTable Pp w 11 an6 NN (sh0 w os) (topStub Pp) = some (sh hp231 605 w os) := by
  refine go_top (t_pre w os) (piece_block (t_blk w os) ?_)
  refine (congrArg (fun l => topRun treeTable Pp w 11 an6 (Nat.add 39 (Nat.add 493 (Nat.add 398 (Nat.add 289 (Nat.add 979 (Nat.add 178 2)))))) (shT tr47 15 187 w os).abs (restOf l En Cd q0 Fs)) t_cut).trans ?_
  exact piece_app (segRun_of (t_p1 w os)) (piece_app (segRun_of (t_p2 w os)) (piece_app (segRun_of (t_p3 w os)) (piece_app (segRun_of (t_p4 w os)) (piece_app (segRun_of (t_p5 w os)) (piece_app (segRun_of (t_p6 w os)) (t_fin w os))))))
theorem t_look1 (w : World) (os : OsState) : (staticsOk (importedModules Pp.main.body) (boot_heap w.params) (hp231 w.params) && namesBound Pp (hp231 w.params) && gensDone (sh hp231 605 w os) && laidKept (boot_heap w.params) (hp231 w.params)) = true := by kernel_rfl
theorem t_look2 (w : World) (os : OsState) : openSeen Qv Lo (importedModules Pp.main.body) Xt true (sh hp231 605 w os) = openGood Qv Lo := by kernel_rfl
theorem t_look3 (w : World) (os : OsState) : Hk.obs (sh hp231 605 w os) = Hk.val w := by kernel_rfl
theorem left_ok : LeftO Pp Qv Lo Xt Hk.obs Hk.val 4866 :=
  LeftO.of_pieces t_open t_size t_run (by decide) fun w => funext fun os => Prod.ext (t_look1 w os) (Prod.ext (t_look2 w os) (t_look3 w os))
end Mine

-- L1
namespace Mine
open PySem PySem.Spec PySem.Calls PyProof.Rows PySem.W

/-- what a Whitespace object holds -/
structure WS where
  raw : Str
  n : Int
  nt : Int
  cnt : List Int
  b : Int
  simple : Bool

/-- data as trees -/
inductive D where
  | none
  | bool (b : Bool)
  | int (i : Int)
  | str (x : Str)
  | list (l : List D)
  | tup (l : List D)
  | val (v : Value)
  | ws (w : WS)

noncomputable abbrev Forb := Addr → Prop
noncomputable abbrev tupObj (items : Array Value) (n : Nat) : Obj := { cls := .type "tuple", data := .seq items n }
noncomputable abbrev cWS : Addr := 83

mutual
/-- the value v is the tree d in the heap h, by objects that W does not forbid -/
inductive Rd (W : Forb) (h : Heap) : D → Value → Prop
  | none : Rd W h .none .none
  | bool (b : Bool) : Rd W h (.bool b) (.bool b)
  | int (i : Int) (t : Tok) : Rd W h (.int i) (.int i t)
  | str (x : Str) (t : Tok) : Rd W h (.str x) (.str x t)
  | val (v : Value) : Rd W h (.val v) v
  | list {a : Addr} {vs : List Value} {n : Nat} {ds : List D} : h.get? a = some (listOf vs.toArray n) → ¬ W a → RdL W h ds vs → Rd W h (.list ds) (.ref a)
  | tup {a : Addr} {vs : List Value} {n : Nat} {ds : List D} : h.get? a = some (tupObj vs.toArray n) → ¬ W a → RdL W h ds vs → Rd W h (.tup ds) (.ref a)
  | ws {a dx : Addr} {k : Nat} {h1 h2 h3 h4 h5 : Int} {t1 t2 t3 t4 t5 u1 u2 u3 : Tok} {nv : Value} {w : WS} {cs : List D} : h.get? a = some (instObj cWS dx) → ¬ W a →
      h.get? dx = some (dictOf [⟨h1, .str "raw" t1, .str w.raw u1⟩, ⟨h2, .str "n" t2, .int w.n u2⟩, ⟨h3, .str "nt" t3, .int w.nt u3⟩, ⟨h4, .str "norm" t4, nv⟩, ⟨h5, .str "is_simple" t5, .bool w.simple⟩] k) → ¬ W dx →
      cs = w.cnt.map .int → Rd W h (.tup [.tup cs, .int w.b]) nv → Rd W h (.ws w) (.ref a)
inductive RdL (W : Forb) (h : Heap) : List D → List Value → Prop
  | nil : RdL W h [] []
  | cons {d : D} {v : Value} {ds : List D} {vs : List Value} : Rd W h d v → RdL W h ds vs → RdL W h (d :: ds) (v :: vs)
end

noncomputable def Sub (W : Forb) (h : Heap) (W' : Forb) (h' : Heap) : Prop := ∀ a o, h.get? a = some o → ¬ W a → ¬ W' a ∧ h'.get? a = some o

mutual
theorem Rd.sub {W W' : Forb} {h h' : Heap} (S : Sub W h W' h') : ∀ {d : D} {v : Value}, Rd W h d v → Rd W' h' d v
  | _, _, .none => .none
  | _, _, .bool b => .bool b
  | _, _, .int i t => .int i t
  | _, _, .str x t => .str x t
  | _, _, .val v => .val v
  | _, _, .list e w r => .list (S _ _ e w).2 (S _ _ e w).1 (RdL.sub S r)
  | _, _, .tup e w r => .tup (S _ _ e w).2 (S _ _ e w).1 (RdL.sub S r)
  | _, _, .ws e w e' w' q r => .ws (S _ _ e w).2 (S _ _ e w).1 (S _ _ e' w').2 (S _ _ e' w').1 q (Rd.sub S r)
theorem RdL.sub {W W' : Forb} {h h' : Heap} (S : Sub W h W' h') : ∀ {ds : List D} {vs : List Value}, RdL W h ds vs → RdL W' h' ds vs
  | _, _, .nil => .nil
  | _, _, .cons a b => .cons (Rd.sub S a) (RdL.sub S b)
end

noncomputable abbrev Stays (h h' : Heap) : Prop := ∀ b o, h.get? b = some o → h'.get? b = some o
theorem Stays.refl (h : Heap) : Stays h h := fun _ _ e => e
theorem Stays.trans {h h' h'' : Heap} (a : Stays h h') (b : Stays h' h'') : Stays h h'' := fun _ _ e => b _ _ (a _ _ e)
theorem Stays.push (h : Heap) (o : Obj) : Stays h (h.push o) := fun _ _ e => Heap.get?_push_of_some _ e
theorem Sub.stays {W : Forb} {h h' : Heap} (k : Stays h h') : Sub W h W h' := fun _ _ e w => ⟨w, k _ _ e⟩
theorem Rd.stays {W : Forb} {h h' : Heap} (k : Stays h h') {d : D} {v : Value} (r : Rd W h d v) : Rd W h' d v := r.sub (Sub.stays k)
theorem RdL.stays {W : Forb} {h h' : Heap} (k : Stays h h') {d : List D} {v : List Value} (r : RdL W h d v) : RdL W h' d v := r.sub (Sub.stays k)

theorem RdL.length {W : Forb} {h : Heap} : ∀ {ds : List D} {vs : List Value}, RdL W h ds vs → vs.length = ds.length
  | _, _, .nil => rfl
  | _, _, .cons _ b => by rw [List.length_cons, List.length_cons, b.length]
theorem RdL.append {W : Forb} {h : Heap} : ∀ {ds es : List D} {vs us : List Value}, RdL W h ds vs → RdL W h es us → RdL W h (ds ++ es) (vs ++ us)
  | _, _, _, _, .nil, k => k
  | _, _, _, _, .cons a b, k => .cons a (b.append k)
theorem RdL.get {W : Forb} {h : Heap} : ∀ {ds : List D} {vs : List Value}, RdL W h ds vs → ∀ {i : Nat} {v : Value}, vs[i]? = some v → ∃ d, ds[i]? = some d ∧ Rd W h d v
  | _, _, .nil, _, _, e => by simp at e
  | _, _, .cons a b, 0, _, e => by simp at e; subst e; exact ⟨_, rfl, a⟩
  | _, _, .cons a b, i + 1, _, e => by
    obtain ⟨d, e', r⟩ := b.get (i := i) (by simpa using e)
    exact ⟨d, by simpa using e', r⟩
theorem RdL.at {W : Forb} {h : Heap} : ∀ {ds : List D} {vs : List Value}, RdL W h ds vs → ∀ {i : Nat} {d : D}, ds[i]? = some d → ∃ v, vs[i]? = some v ∧ Rd W h d v
  | _, _, .nil, _, _, e => by simp at e
  | _, _, .cons a b, 0, _, e => by simp at e; subst e; exact ⟨_, rfl, a⟩
  | _, _, .cons a b, i + 1, _, e => by
    obtain ⟨v, e', r⟩ := b.at (i := i) (by simpa using e)
    exact ⟨v, by simpa using e', r⟩
theorem RdL.set {W : Forb} {h : Heap} : ∀ {ds : List D} {vs : List Value}, RdL W h ds vs → ∀ {i : Nat} {d : D} {v : Value}, Rd W h d v → RdL W h (ds.set i d) (vs.set i v)
  | _, _, .nil, _, _, _, _ => .nil
  | _, _, .cons a b, 0, _, _, r => .cons r b
  | _, _, .cons a b, i + 1, _, _, r => .cons a (b.set r)
theorem RdL.take {W : Forb} {h : Heap} : ∀ {ds : List D} {vs : List Value}, RdL W h ds vs → ∀ n : Nat, RdL W h (ds.take n) (vs.take n)
  | _, _, .nil, n => by simpa using RdL.nil
  | _, _, .cons a b, 0 => .nil
  | _, _, .cons a b, n + 1 => .cons a (b.take n)
theorem RdL.drop {W : Forb} {h : Heap} : ∀ {ds : List D} {vs : List Value}, RdL W h ds vs → ∀ n : Nat, RdL W h (ds.drop n) (vs.drop n)
  | _, _, .nil, n => by simpa using RdL.nil
  | _, _, .cons a b, 0 => .cons a b
  | _, _, .cons a b, n + 1 => b.drop n
theorem RdL.one {W : Forb} {h : Heap} {d : D} {v : Value} (r : Rd W h d v) : RdL W h [d] [v] := .cons r .nil

/-- a tree's value, by the tree's kind -/
theorem RdL.one_inv {W : Forb} {h : Heap} {d : D} {vs : List Value} (r : RdL W h [d] vs) : ∃ v, vs = [v] ∧ Rd W h d v := by
  cases r with | cons a r => cases r; exact ⟨_, rfl, a⟩
theorem RdL.two_inv {W : Forb} {h : Heap} {d e : D} {vs : List Value} (r : RdL W h [d, e] vs) : ∃ v u, vs = [v, u] ∧ Rd W h d v ∧ Rd W h e u := by
  cases r with | cons a r => obtain ⟨u, rfl, b⟩ := r.one_inv; exact ⟨_, _, rfl, a, b⟩
theorem RdL.three_inv {W : Forb} {h : Heap} {d e f : D} {vs : List Value} (r : RdL W h [d, e, f] vs) : ∃ v u x, vs = [v, u, x] ∧ Rd W h d v ∧ Rd W h e u ∧ Rd W h f x := by
  cases r with | cons a r => obtain ⟨u, x, rfl, b, c⟩ := r.two_inv; exact ⟨_, _, _, rfl, a, b, c⟩
theorem Rd.int_inv {W : Forb} {h : Heap} {i : Int} {v : Value} (r : Rd W h (.int i) v) : ∃ t, v = .int i t := by cases r; exact ⟨_, rfl⟩
theorem Rd.str_inv {W : Forb} {h : Heap} {x : Str} {v : Value} (r : Rd W h (.str x) v) : ∃ t, v = .str x t := by cases r; exact ⟨_, rfl⟩
theorem Rd.val_inv {W : Forb} {h : Heap} {u v : Value} (r : Rd W h (.val u) v) : v = u := by cases r; rfl
theorem Rd.list_inv {W : Forb} {h : Heap} {ds : List D} {v : Value} (r : Rd W h (.list ds) v) : ∃ a vs n, v = .ref a ∧ h.get? a = some (listOf (List.toArray vs) n) ∧ ¬ W a ∧ RdL W h ds vs := by
  cases r with | list e w p => exact ⟨_, _, _, rfl, e, w, p⟩

/-- room for calls -/
structure Rm (A : Around) (n : Nat) : Prop where
  hand : A.handled = none
  dep : A.depth + 4 * n + 4 < recursionLimit
  uni : A.units + 24 * n + 128 < cLine
theorem Rm.le {A : Around} {n m : Nat} (R : Rm A n) (h : m ≤ n) : Rm A m := ⟨R.hand, by have := R.dep; omega, by have := R.uni; omega⟩

end Mine

-- L2
namespace Mine
open PySem PySem.Spec PySem.Calls PyProof.Rows PySem.W

/-- one place of a frame: a name, and the address of its cell if it has one -/
noncomputable abbrev Slots := List (Str × Option Addr)

structure Cx where
  env : Env
  slots : Slots
  hb : Heap

noncomputable def SlotAt (h : Heap) (m : Str → Option Value) (x : Str) (l : Option Addr) (v : Value) : Prop := match l with
  | none => m x = some v
  | some a => h.IsCell a (some v)

noncomputable def Vars (W : Forb) (h : Heap) (m : Str → Option Value) : Slots → List (Option D) → Prop
  | (x, l) :: ps, some d :: ds => (∃ v, SlotAt h m x l v ∧ Rd W h d v) ∧ Vars W h m ps ds
  | _ :: ps, none :: ds => Vars W h m ps ds
  | _, _ => True

inductive VarAt : Slots → List (Option D) → Str → Option Addr → D → Prop
  | head {x : Str} {l : Option Addr} {ps : Slots} {d : D} {ds : List (Option D)} : VarAt ((x, l) :: ps) (some d :: ds) x l d
  | tail {x : Str} {l : Option Addr} {p : Str × Option Addr} {ps : Slots} {d : D} {e : Option D} {ds : List (Option D)} : VarAt ps ds x l d → VarAt (p :: ps) (e :: ds) x l d
inductive VarSet : Slots → List (Option D) → Str → Option Addr → D → List (Option D) → Prop
  | head {x : Str} {l : Option Addr} {ps : Slots} {d : D} {e : Option D} {ds : List (Option D)} : VarSet ((x, l) :: ps) (e :: ds) x l d (some d :: ds)
  | tail {x : Str} {l : Option Addr} {p : Str × Option Addr} {ps : Slots} {d : D} {e : Option D} {ds es : List (Option D)} : VarSet ps ds x l d es → VarSet (p :: ps) (e :: ds) x l d (e :: es)

theorem VarAt.mem {ps : Slots} {ds : List (Option D)} {x : Str} {l : Option Addr} {d : D} (V : VarAt ps ds x l d) : (x, l) ∈ ps := by
  induction V with
  | head => exact .head _
  | tail _ ih => exact .tail _ ih
theorem VarSet.mem {ps : Slots} {ds es : List (Option D)} {x : Str} {l : Option Addr} {d : D} (V : VarSet ps ds x l d es) : (x, l) ∈ ps := by
  induction V with
  | head => exact .head _
  | tail _ ih => exact .tail _ ih

theorem Vars.at {W : Forb} {h : Heap} {m : Str → Option Value} {ps : Slots} {ds : List (Option D)} {x : Str} {l : Option Addr} {d : D} (V : VarAt ps ds x l d) (H : Vars W h m ps ds) :
    ∃ v, SlotAt h m x l v ∧ Rd W h d v := by
  induction V with
  | head => exact H.1
  | @tail x l p ps d e ds _ ih =>
    obtain ⟨y, q⟩ := p
    cases e with
    | none => exact ih H
    | some e => exact ih H.2

/-- the values stand as they stood, where the places do -/
theorem Vars.move {W W' : Forb} {h h' : Heap} {m m' : Str → Option Value} (S : Sub W h W' h') : ∀ {ps : Slots} {ds : List (Option D)},
    (∀ p ∈ ps, ∀ v, SlotAt h m p.1 p.2 v → SlotAt h' m' p.1 p.2 v) → Vars W h m ps ds → Vars W' h' m' ps ds
  | [], _, _, _ => by unfold Vars; trivial
  | _ :: _, [], _, _ => by unfold Vars; trivial
  | (x, l) :: ps, none :: ds, k, H => Vars.move S (ps := ps) (ds := ds) (fun p hp => k p (.tail _ hp)) H
  | (x, l) :: ps, some d :: ds, k, H => by
    obtain ⟨⟨v, h1, h2⟩, h3⟩ := H
    exact ⟨⟨v, k (x, l) (.head _) v h1, h2.sub S⟩, Vars.move S (fun p hp => k p (.tail _ hp)) h3⟩

theorem Vars.set {W W' : Forb} {h h' : Heap} {m m' : Str → Option Value} {ps : Slots} {ds es : List (Option D)} {x : Str} {l : Option Addr} {d : D} {v : Value}
    (V : VarSet ps ds x l d es) (S : Sub W h W' h') (nd : (ps.map (·.1)).Nodup) (hv : SlotAt h' m' x l v) (r : Rd W' h' d v)
    (k : ∀ p ∈ ps, p.1 ≠ x → ∀ u, SlotAt h m p.1 p.2 u → SlotAt h' m' p.1 p.2 u) (H : Vars W h m ps ds) : Vars W' h' m' ps es := by
  induction V with
  | @head x l ps d e ds =>
    rw [List.map_cons, List.nodup_cons] at nd
    have k' : ∀ p ∈ ps, ∀ u, SlotAt h m p.1 p.2 u → SlotAt h' m' p.1 p.2 u := fun p hp => k p (.tail _ hp) fun e => nd.1 (e ▸ List.mem_map_of_mem (f := (·.1)) hp)
    refine ⟨⟨v, hv, r⟩, ?_⟩
    cases e with
    | none => exact Vars.move S k' H
    | some e => exact Vars.move S k' H.2
  | @tail x l p ps d e ds es V ih =>
    obtain ⟨y, q⟩ := p
    rw [List.map_cons, List.nodup_cons] at nd
    have hne : y ≠ x := fun e => nd.1 (e ▸ List.mem_map_of_mem (f := (·.1)) V.mem)
    cases e with
    | none => exact ih nd.2 hv r (fun p hp => k p (.tail _ hp)) H
    | some e =>
      obtain ⟨⟨u, h1, h2⟩, h3⟩ := H
      exact ⟨⟨u, k (y, q) (.head _) hne u h1, h2.sub S⟩, ih nd.2 hv r (fun p hp => k p (.tail _ hp)) h3⟩

/-- what is true of a context for good -/
structure Cx.Ok (Γ : Cx) : Prop where
  kind : Γ.env.scope.kind = .function
  glob : Γ.env.globals = mainGlobals
  bi : Γ.env.builtins = builtinsNs
  loc : ∀ x, (x, none) ∈ Γ.slots → Γ.env.kindOf x = some .local
  cel : ∀ x a, (x, some a) ∈ Γ.slots → Γ.env.kindOf x = some .cell ∧ Γ.env.cells.lookup x = some a
  nd : (Γ.slots.map (·.1)).Nodup
  dbg : ∀ p ∈ Γ.slots, (p.1 == ("__debug__" : Str)) = false
  apart : Γ.slots.Pairwise fun p q => ∀ a, p.2 = some a → q.2 ≠ some a
  off : ∀ x a, (x, some a) ∈ Γ.slots → a ≠ Γ.env.locals

/-- an object of the frame's own, that it changes -/
inductive OD where
  | list (ds : List D)
  | dict (kvs : List (Int × D))
  | attrs (kvs : List (Str × D))

inductive AttrsAre (W : Forb) (h : Heap) : List (Str × D) → List DictEntry → Prop
  | nil : AttrsAre W h [] []
  | cons {x : Str} {d : D} {hs : Int} {t : Tok} {v : Value} {ds : List (Str × D)} {es : List DictEntry} : Rd W h d v → AttrsAre W h ds es → AttrsAre W h ((x, d) :: ds) (⟨hs, .str x t, v⟩ :: es)
inductive IntsKeyed (W : Forb) (h : Heap) : List (Int × D) → List (Int × Value) → Prop
  | nil : IntsKeyed W h [] []
  | cons {x : Int} {d : D} {v : Value} {ds : List (Int × D)} {es : List (Int × Value)} : Rd W h d v → IntsKeyed W h ds es → IntsKeyed W h ((x, d) :: ds) ((x, v) :: es)
theorem AttrsAre.sub {W W' : Forb} {h h' : Heap} (S : Sub W h W' h') {ds : List (Str × D)} {es : List DictEntry} (H : AttrsAre W h ds es) : AttrsAre W' h' ds es := by
  induction H with
  | nil => exact .nil
  | cons a _ ih => exact .cons (a.sub S) ih
theorem IntsKeyed.sub {W W' : Forb} {h h' : Heap} (S : Sub W h W' h') {ds : List (Int × D)} {es : List (Int × Value)} (H : IntsKeyed W h ds es) : IntsKeyed W' h' ds es := by
  induction H with
  | nil => exact .nil
  | cons a _ ih => exact .cons (a.sub S) ih

noncomputable def OwnAt (W : Forb) (h : Heap) (a : Addr) : OD → Prop
  | .list ds => ∃ vs n, h.get? a = some (listOf vs.toArray n) ∧ RdL W h ds vs
  | .dict kvs => ∃ o us, h.get? a = some o ∧ (∀ prog w, o.IsDictOf (PySem.intKind prog w) us) ∧ IntsKeyed W h kvs us
  | .attrs kvs => ∃ es n, h.get? a = some (dictOf es n) ∧ AttrsAre W h kvs es
theorem OwnAt.move {W W' : Forb} {h h' : Heap} {a : Addr} (S : Sub W h W' h') (e : ∀ o, h.get? a = some o → h'.get? a = some o) : ∀ {o : OD}, OwnAt W h a o → OwnAt W' h' a o
  | .list _, ⟨vs, n, q, r⟩ => ⟨vs, n, e _ q, r.sub S⟩
  | .dict _, ⟨vs, n, q, i, r⟩ => ⟨vs, n, e _ q, i, r.sub S⟩
  | .attrs _, ⟨vs, n, q, r⟩ => ⟨vs, n, e _ q, r.sub S⟩

noncomputable abbrev Owns := List (Addr × OD)

/-- what holds of the heap while a frame runs: M are the addresses that it changes, W those that no tree leans on -/
structure Hx (Γ : Cx) (M W : Forb) (σ : List (Option D)) (ω : Owns) (h : Heap) : Prop where
  base : Stays Γ.hb h
  new : ∀ a, M a → Γ.hb.get? a = none
  vars : ∃ m, h.Ns Γ.env.locals m ∧ Vars W h m Γ.slots σ
  cells : ∀ x a, (x, some a) ∈ Γ.slots → ∃ v, h.IsCell a v
  own : ∀ p ∈ ω, OwnAt W h p.1 p.2
  ownM : ∀ p ∈ ω, M p.1
  ownL : ∀ p ∈ ω, p.1 ≠ Γ.env.locals
  ownC : ∀ p ∈ ω, ∀ x, (x, some p.1) ∉ Γ.slots
  ownN : ω.Pairwise fun p q => p.1 ≠ q.1
  locM : M Γ.env.locals
  celW : ∀ x a, (x, some a) ∈ Γ.slots → W a
  MW : ∀ a, M a → W a
  live : ∀ a, W a → ∃ o, h.get? a = some o

theorem IsCell.st {h h' : Heap} {a : Addr} {v : Option Value} (e : ∀ o, h.get? a = some o → h'.get? a = some o) (x : h.IsCell a v) : h'.IsCell a v := let ⟨o, ho, r⟩ := x; ⟨o, e _ ho, r⟩

theorem Hx.stays {Γ : Cx} {M W : Forb} {σ : List (Option D)} {ω : Owns} {h h' : Heap} (H : Hx Γ M W σ ω h) (k : Stays h h') : Hx Γ M W σ ω h' where
  base := H.base.trans k
  new := H.new
  vars := by
    obtain ⟨m, h1, h2⟩ := H.vars
    refine ⟨m, h1.keeps k, h2.move (Sub.stays k) fun p _ v e => ?_⟩
    obtain ⟨x, l⟩ := p
    cases l with
    | none => exact e
    | some a => exact IsCell.st (fun o => k a o) e
  cells := fun x a hm => let ⟨v, c⟩ := H.cells x a hm; ⟨v, c.keeps k⟩
  own := fun p hp => (H.own p hp).move (Sub.stays k) fun o => k _ o
  ownM := H.ownM
  ownL := H.ownL
  ownC := H.ownC
  ownN := H.ownN
  locM := H.locM
  celW := H.celW
  MW := H.MW
  live := fun a ha => let ⟨o, e⟩ := H.live a ha; ⟨o, k _ _ e⟩

theorem Hx.fresh {Γ : Cx} {M W : Forb} {σ : List (Option D)} {ω : Owns} {h : Heap} (H : Hx Γ M W σ ω h) {a : Addr} (e : h.get? a = none) : ¬ W a := fun hw => by
  obtain ⟨o, q⟩ := H.live a hw
  rw [e] at q; cases q
theorem get?_size (h : Heap) : h.get? h.objs.size = none := by
  cases e : h.get? h.objs.size with
  | none => rfl
  | some o => exact absurd (Heap.lt_size e) (Nat.lt_irrefl _)

/-- all stands but what M names -/
noncomputable abbrev Kp (M : Forb) (h h' : Heap) : Prop := ∀ a o, h.get? a = some o → ¬ M a → h'.get? a = some o
theorem Kp.of_stays {M : Forb} {h h' : Heap} (k : Stays h h') : Kp M h h' := fun _ _ e _ => k _ _ e
theorem Kp.trans {M : Forb} {h h' h'' : Heap} (a : Kp M h h') (b : Kp M h' h'') : Kp M h h'' := fun _ _ e w => b _ _ (a _ _ e w) w

section
variable {prog : Program} {w : World}

/-- an expression without effect: its value -/
noncomputable def Ev (prog : Program) (w : World) (Γ : Cx) (A : Around) (M W : Forb) (σ : List (Option D)) (ω : Owns) (e : Expr) (d : D) : Prop :=
  ∀ (s : Shared) (Q : Value → Shared → Prop) (E : Value → Shared → Prop), Hx Γ M W σ ω s.heap →
    (∀ v h' tk', Stays s.heap h' → Rd W h' d v → Q v { s with heap := h', toks := tk' }) → wpAny (model prog w) A (eval e Γ.env) Q E s

/-- a test -/
noncomputable def Ts (prog : Program) (w : World) (Γ : Cx) (A : Around) (M W : Forb) (σ : List (Option D)) (ω : Owns) (e : Expr) (b : Bool) : Prop :=
  ∀ (s : Shared) (Q : Bool → Shared → Prop) (E : Value → Shared → Prop), Hx Γ M W σ ω s.heap →
    (∀ h' tk', Stays s.heap h' → Q b { s with heap := h', toks := tk' }) → wpAny (model prog w) A (isTrue e Γ.env (eval e Γ.env)) Q E s

/-- the arguments of a call, the items of a display -/
noncomputable def Es (prog : Program) (w : World) (Γ : Cx) (A : Around) (M W : Forb) (σ : List (Option D)) (ω : Owns) (es : List Expr) (ds : List D) : Prop :=
  ∀ (pos : Pos) (s : Shared) (Q : List Value → Shared → Prop) (E : Value → Shared → Prop), Hx Γ M W σ ω s.heap →
    (∀ vs h' tk', Stays s.heap h' → RdL W h' ds vs → Q vs { s with heap := h', toks := tk' }) → wpAny (model prog w) A (spliced (backTo pos (starEach es Γ.env))) Q E s

variable {Γ : Cx} {A : Around} {M W : Forb} {σ : List (Option D)} {ω : Owns}

theorem Ev.int {i : Int} {k : Nat} {pos : Pos} : Ev prog w Γ A M W σ ω (.Constant (.int i) k pos) (.int i) :=
  fun _ _ _ _ h => wpAny_Constant_int (h _ _ _ (Stays.refl _) (.int _ _))
theorem Ev.str {x : Str} {k : Nat} {pos : Pos} : Ev prog w Γ A M W σ ω (.Constant (.str x) k pos) (.str x) :=
  fun _ _ _ _ h => wpAny_Constant_str (h _ _ _ (Stays.refl _) (.str _ _))
theorem Ev.bool {b : Bool} {k : Nat} {pos : Pos} : Ev prog w Γ A M W σ ω (.Constant (.bool b) k pos) (.bool b) :=
  fun s _ _ _ h => wpAny_Constant_bool (h _ s.heap s.toks (Stays.refl _) (.bool _))
theorem Ev.none {k : Nat} {pos : Pos} : Ev prog w Γ A M W σ ω (.Constant .none k pos) .none :=
  fun s _ _ _ h => wpAny_Constant_none (h _ s.heap s.toks (Stays.refl _) .none)

theorem Ev.name {x : Str} {l : Option Addr} {d : D} {pos : Pos} (O : Γ.Ok) (V : VarAt Γ.slots σ x l d) : Ev prog w Γ A M W σ ω (.Name x pos) d := by
  intro s Q E H h
  obtain ⟨m, h1, h2⟩ := H.vars
  obtain ⟨v, hv, r⟩ := h2.at V
  have fin : Q v s := h v s.heap s.toks (Stays.refl _) r
  cases l with
  | none => exact wpAny_Name (wpAny_loadName_local O.kind (O.loc x V.mem) h1 hv fin) (O.dbg _ V.mem)
  | some a => exact wpAny_Name (wpAny_loadName_cell O.kind (O.cel x a V.mem).1 (O.cel x a V.mem).2 hv fin) (O.dbg _ V.mem)

theorem Es.nil : Es prog w Γ A M W σ ω [] [] := fun _ s _ _ _ h => wpAny_items_nil (h _ s.heap s.toks (Stays.refl _) .nil)
theorem Es.cons {e : Expr} {es : List Expr} {d : D} {ds : List D} (a : Ev prog w Γ A M W σ ω e d) (b : Es prog w Γ A M W σ ω es ds)
    (he : starEach (e :: es) Γ.env = (false, eval e Γ.env) :: starEach es Γ.env := by rfl) : Es prog w Γ A M W σ ω (e :: es) (d :: ds) := by
  intro pos s Q E H h
  refine wpAny_items_cons (a s _ E H fun v h₁ tk₁ k₁ r₁ => b pos _ _ E (H.stays k₁) fun vs h₂ tk₂ k₂ r₂ => ?_) he
  exact h _ h₂ tk₂ (k₁.trans k₂) (.cons (r₁.stays k₂) r₂)

theorem Ev.list {es : List Expr} {ds : List D} {pos : Pos} (a : Es prog w Γ A M W σ ω es ds) (hz : ds.length ≤ 1000 := by first | decide | simp) : Ev prog w Γ A M W σ ω (.List es pos) (.list ds) := by
  intro s Q E H h
  refine wpAny_List (a pos s _ E H fun vs h₁ tk₁ k₁ r₁ => ⟨by rw [r₁.length, sizeLine_eq]; omega, ?_⟩)
  refine h _ _ _ (k₁.trans (Stays.push _ _)) (.list (n := 0) (Heap.get?_push_size _ rfl) ((H.stays k₁).fresh (get?_size _)) (r₁.stays (Stays.push _ _)))
theorem Ev.tup {es : List Expr} {ds : List D} {k : Nat} {pos : Pos} (a : Es prog w Γ A M W σ ω es ds) (hz : ds.length ≤ 1000 := by first | decide | simp) : Ev prog w Γ A M W σ ω (.Tuple es k pos) (.tup ds) := by
  intro s Q E H h
  refine wpAny_Tuple (a pos s _ E H fun vs h₁ tk₁ k₁ r₁ => ⟨by rw [r₁.length, sizeLine_eq]; omega, ?_⟩)
  refine h _ _ _ (k₁.trans (Stays.push _ _)) (.tup (n := 0) (Heap.get?_push_size _ rfl) ((H.stays k₁).fresh (get?_size _)) (r₁.stays (Stays.push _ _)))

/-- what a two-placed deed gives of trees -/
noncomputable def Bin (prog : Program) (w : World) (A : Around) (op : Operator) (d e r : D) : Prop :=
  ∀ (W : Forb) (s : Shared) (Q : Value → Shared → Prop) (E : Value → Shared → Prop) (a b : Value), (∀ x, W x → ∃ o, s.heap.get? x = some o) → Rd W s.heap d a → Rd W s.heap e b →
    (∀ v h' tk', Stays s.heap h' → Rd W h' r v → Q v { s with heap := h', toks := tk' }) → wpAny (model prog w) A (binaryOp op a b) Q E s
theorem Ev.bin {l r : Expr} {op : Operator} {pos : Pos} {d e f : D} (a : Ev prog w Γ A M W σ ω l d) (b : Ev prog w Γ A M W σ ω r e) (c : Bin prog w A op d e f) : Ev prog w Γ A M W σ ω (.BinOp l op r pos) f := by
  intro s Q E H h
  refine wpAny_BinOp (a s _ E H fun v h₁ tk₁ k₁ r₁ => b _ _ E (H.stays k₁) fun u h₂ tk₂ k₂ r₂ => ?_)
  exact c W _ _ E v u (H.stays (k₁.trans k₂)).live (r₁.stays k₂) r₂ fun x h₃ tk₃ k₃ r₃ => h x h₃ tk₃ ((k₁.trans k₂).trans k₃) r₃

noncomputable def Cmp (prog : Program) (w : World) (A : Around) (op : CmpOp) (d e : D) (c : Bool) : Prop :=
  ∀ (W : Forb) (s : Shared) (Q : Value → Shared → Prop) (E : Value → Shared → Prop) (a b : Value), (∀ x, W x → ∃ o, s.heap.get? x = some o) → Rd W s.heap d a → Rd W s.heap e b →
    (∀ h' tk', Stays s.heap h' → Q (.bool c) { s with heap := h', toks := tk' }) → wpAny (model prog w) A (compareOp op a b) Q E s
theorem Ev.cmp {l r : Expr} {op : CmpOp} {pos : Pos} {d e : D} {c : Bool} (a : Ev prog w Γ A M W σ ω l d) (b : Ev prog w Γ A M W σ ω r e) (k : Cmp prog w A op d e c)
    (hm : behindInMarks op r = false := by with_unfolding_all rfl) : Ev prog w Γ A M W σ ω (.Compare l [op] [r] pos) (.bool c) := by
  intro s Q E H h
  refine wpAny_Compare1 (a s _ E H fun v h₁ tk₁ k₁ r₁ => b _ _ E (H.stays k₁) fun u h₂ tk₂ k₂ r₂ => ?_) hm
  exact k W _ _ E v u (H.stays (k₁.trans k₂)).live (r₁.stays k₂) r₂ fun h₃ tk₃ k₃ => h _ h₃ tk₃ ((k₁.trans k₂).trans k₃) (.bool _)

theorem Ts.cmp {l r : Expr} {op : CmpOp} {pos : Pos} {d e : D} {c : Bool} (a : Ev prog w Γ A M W σ ω l d) (b : Ev prog w Γ A M W σ ω r e) (k : Cmp prog w A op d e c)
    (hm : behindInMarks op r = false := by with_unfolding_all rfl) : Ts prog w Γ A M W σ ω (.Compare l [op] [r] pos) c := by
  intro s Q E H h
  refine wpAny_isTrue_Compare1 (a s _ E H fun v h₁ tk₁ k₁ r₁ => b _ _ E (H.stays k₁) fun u h₂ tk₂ k₂ r₂ => ?_) hm
  exact k W _ _ E v u (H.stays (k₁.trans k₂)).live (r₁.stays k₂) r₂ fun h₃ tk₃ k₃ => wpAny_truthy_bool (h h₃ tk₃ ((k₁.trans k₂).trans k₃))
theorem Ts.not {x : Expr} {pos : Pos} {b : Bool} (a : Ts prog w Γ A M W σ ω x b) : Ts prog w Γ A M W σ ω (.UnaryOp .Not x pos) (!b) := by
  intro s Q E H h
  exact wpAny_isTrue_Not (a s _ E H fun h₁ tk₁ k₁ => h h₁ tk₁ k₁)
/-- a name, an attribute, an item .. that holds a bool -/
theorem Ts.val {e : Expr} {b : Bool} (a : Ev prog w Γ A M W σ ω e (.bool b))
    (he : ∀ whole, isTrue e Γ.env whole = (do let v ← whole; standAt e.pos; holding [v] (truthy v)) := by intro _; rfl) : Ts prog w Γ A M W σ ω e b := by
  intro s Q E H h
  refine wpAny_isTrue_value (a s _ E H fun v h₁ tk₁ k₁ r₁ => ?_) (he _)
  cases r₁
  exact wpAny_truthy_bool (h h₁ tk₁ k₁)

theorem Ev.ite {t x y : Expr} {pos : Pos} {b : Bool} {d : D} (a : Ts prog w Γ A M W σ ω t b) (p : b = true → Ev prog w Γ A M W σ ω x d) (q : b = false → Ev prog w Γ A M W σ ω y d) : Ev prog w Γ A M W σ ω (.IfExp t x y pos) d := by
  intro s Q E H h
  refine wpAny_IfExp (a s _ E H fun h₁ tk₁ k₁ => ?_)
  cases b with
  | true => exact p rfl _ Q E (H.stays k₁) fun v h₂ tk₂ k₂ => h v h₂ tk₂ (k₁.trans k₂)
  | false => exact q rfl _ Q E (H.stays k₁) fun v h₂ tk₂ k₂ => h v h₂ tk₂ (k₁.trans k₂)
theorem Ts.and2 {x y : Expr} {pos : Pos} {a b : Bool} (p : Ts prog w Γ A M W σ ω x a) (q : a = true → Ts prog w Γ A M W σ ω y b) : Ts prog w Γ A M W σ ω (.BoolOp .And [x, y] pos) (a && b) := by
  intro s Q E H h
  refine wpAny_isTrue_BoolOp (wpAny_allTrue_And_cons (p s _ E H fun h₁ tk₁ k₁ => ?_))
  cases a with
  | false => exact h h₁ tk₁ k₁
  | true =>
    refine wpAny_allTrue_And_cons (q rfl _ _ E (H.stays k₁) fun h₂ tk₂ k₂ => ?_)
    cases b with
    | false => exact h h₂ tk₂ (k₁.trans k₂)
    | true => exact wpAny_allTrue_And_nil (h h₂ tk₂ (k₁.trans k₂))
theorem Ts.or2 {x y : Expr} {pos : Pos} {a b : Bool} (p : Ts prog w Γ A M W σ ω x a) (q : a = false → Ts prog w Γ A M W σ ω y b) : Ts prog w Γ A M W σ ω (.BoolOp .Or [x, y] pos) (a || b) := by
  intro s Q E H h
  refine wpAny_isTrue_BoolOp (wpAny_allTrue_Or_cons (p s _ E H fun h₁ tk₁ k₁ => ?_))
  cases a with
  | true => exact h h₁ tk₁ k₁
  | false =>
    refine wpAny_allTrue_Or_cons (q rfl _ _ E (H.stays k₁) fun h₂ tk₂ k₂ => ?_)
    cases b with
    | true => exact h h₂ tk₂ (k₁.trans k₂)
    | false => exact wpAny_allTrue_Or_nil (h h₂ tk₂ (k₁.trans k₂))
end

end Mine

-- L3
namespace Mine
open PySem PySem.Spec PySem.Calls PyProof.Rows PySem.W

theorem Sub.sameBut {W : Forb} {h h' : Heap} {a : Addr} (hs : Heap.SameBut a h h') (ha : W a) : Sub W h W h' :=
  fun b o e wb => ⟨wb, (hs.2 b fun q => wb (q ▸ ha)).trans e⟩
theorem Kp.sameBut {M : Forb} {h h' : Heap} {a : Addr} (hs : Heap.SameBut a h h') (ha : M a) : Kp M h h' :=
  fun b _ e wb => (hs.2 b fun q => wb (q ▸ ha)).trans e

inductive OwnSet : Owns → Addr → OD → OD → Owns → Prop
  | head {a : Addr} {o o' : OD} {r : Owns} : OwnSet ((a, o) :: r) a o o' ((a, o') :: r)
  | tail {a : Addr} {o o' : OD} {p : Addr × OD} {r r' : Owns} : OwnSet r a o o' r' → OwnSet (p :: r) a o o' (p :: r')
theorem OwnSet.mem {ω ω' : Owns} {a : Addr} {o o' : OD} (S : OwnSet ω a o o' ω') : (a, o) ∈ ω := by
  induction S with
  | head => exact .head _
  | tail _ ih => exact .tail _ ih
theorem OwnSet.mem' {ω ω' : Owns} {a : Addr} {o o' : OD} (S : OwnSet ω a o o' ω') : (a, o') ∈ ω' := by
  induction S with
  | head => exact .head _
  | tail _ ih => exact .tail _ ih
theorem OwnSet.keys {ω ω' : Owns} {a : Addr} {o o' : OD} (S : OwnSet ω a o o' ω') : ω'.map (·.1) = ω.map (·.1) := by
  induction S with
  | head => rfl
  | tail _ ih => rw [List.map_cons, List.map_cons, ih]
theorem OwnSet.cases {ω ω' : Owns} {a : Addr} {o o' : OD} (S : OwnSet ω a o o' ω') : ∀ p ∈ ω', p = (a, o') ∨ p ∈ ω := by
  induction S with
  | head => intro p hp; cases hp with
    | head => exact .inl rfl
    | tail _ h => exact .inr (.tail _ h)
  | tail _ ih => intro p hp; cases hp with
    | head => exact .inr (.head _)
    | tail _ h => exact (ih p h).imp id fun h => .tail _ h

theorem key_mem {ω : Owns} {a : Addr} (h : a ∈ ω.map (·.1)) : ∃ o, (a, o) ∈ ω := by
  obtain ⟨⟨b, o⟩, hp, rfl⟩ := List.mem_map.mp h
  exact ⟨o, hp⟩
theorem own_unique : ∀ {ω : Owns}, (ω.Pairwise fun p q => p.1 ≠ q.1) → ∀ {a : Addr} {o o' : OD}, (a, o) ∈ ω → (a, o') ∈ ω → o = o'
  | _ :: r, hp, a, o, o', h, h' => by
    obtain ⟨h1, h2⟩ := List.pairwise_cons.mp hp
    cases h with
    | head => cases h' with
      | head => rfl
      | tail _ h' => exact absurd rfl (h1 (a, o') h')
    | tail _ h => cases h' with
      | head => exact absurd rfl (h1 (a, o) h)
      | tail _ h' => exact own_unique h2 h h'

section
variable {Γ : Cx} {M W : Forb} {σ σ' : List (Option D)} {ω ω' : Owns} {h h' : Heap}

theorem Hx.change {a : Addr} (H : Hx Γ M W σ ω h) (ha : M a) (hs : Heap.SameBut a h h') (hl : ∃ o, h'.get? a = some o) (hv : ∃ m, h'.Ns Γ.env.locals m ∧ Vars W h' m Γ.slots σ')
    (hc : ∀ x b, (x, some b) ∈ Γ.slots → ∃ v, h'.IsCell b v) (ho : ∀ p ∈ ω', OwnAt W h' p.1 p.2) (hk : ω'.map (·.1) = ω.map (·.1)) : Hx Γ M W σ' ω' h' := by
  have key : ∀ p ∈ ω', ∃ o, (p.1, o) ∈ ω := fun p hp => key_mem (hk ▸ List.mem_map_of_mem (f := (·.1)) hp)
  refine ⟨fun b o e => (hs.2 b fun q => ?_).trans (H.base b o e), H.new, hv, hc, ho, fun p hp => ?_, fun p hp => ?_, fun p hp => ?_, ?_, H.locM, H.celW, H.MW, fun b hb => ?_⟩
  · have := H.new b (q ▸ ha); rw [e] at this; cases this
  · obtain ⟨o, q⟩ := key p hp; exact H.ownM (p.1, o) q
  · obtain ⟨o, q⟩ := key p hp; exact H.ownL (p.1, o) q
  · obtain ⟨o, q⟩ := key p hp; exact H.ownC (p.1, o) q
  · have n := H.ownN
    have e1 : ω.Pairwise (fun p q => p.1 ≠ q.1) ↔ (ω.map (·.1)).Pairwise (· ≠ ·) := by rw [List.pairwise_map]
    have e2 : ω'.Pairwise (fun p q => p.1 ≠ q.1) ↔ (ω'.map (·.1)).Pairwise (· ≠ ·) := by rw [List.pairwise_map]
    rw [e2, hk, ← e1]; exact n
  · by_cases q : b = a
    · subst q; exact hl
    · obtain ⟨o, e⟩ := H.live b hb
      exact ⟨o, (hs.2 b q).trans e⟩

theorem cells_ne (H : Hx Γ M W σ ω h) (O : Γ.Ok) {x : Str} {a : Addr} (hx : (x, some a) ∈ Γ.slots) : a ≠ Γ.env.locals := O.off x a hx

theorem slots_apart : ∀ {l : Slots}, (l.Pairwise fun p q => ∀ a, p.2 = some a → q.2 ≠ some a) → ∀ {x y : Str} {a : Addr}, (x, some a) ∈ l → (y, some a) ∈ l → x = y
  | _ :: r, hp, x, y, a, h, h' => by
    obtain ⟨h1, h2⟩ := List.pairwise_cons.mp hp
    cases h with
    | head => cases h' with
      | head => rfl
      | tail _ h' => exact absurd rfl (h1 _ h' a rfl)
    | tail _ h => cases h' with
      | head => exact absurd rfl (h1 _ h a rfl)
      | tail _ h' => exact slots_apart h2 h h'

theorem Hx.store_loc {x : Str} {d : D} {v : Value} {m : Str → Option Value} (O : Γ.Ok) (H : Hx Γ M W σ ω h) (hm : h.Ns Γ.env.locals m) (hv : Vars W h m Γ.slots σ) (V : VarSet Γ.slots σ x none d σ') (r : Rd W h d v)
    (hn : h'.Ns Γ.env.locals fun y => if y = x then some v else m y) (hs : Heap.SameBut Γ.env.locals h h') : Hx Γ M W σ' ω h' := by
  have S := Sub.sameBut hs (H.MW _ H.locM)
  refine H.change H.locM hs (let ⟨o, _, _, e, _⟩ := hn; ⟨o, e⟩) ⟨_, hn, Vars.set V S O.nd (by simp [SlotAt]) (r.sub S) (fun p hp hne u e => ?_) hv⟩ (fun y b hb => ?_) (fun p hp => ?_) rfl
  · obtain ⟨y, l⟩ := p
    cases l with
    | none =>
      show (if y = x then some v else m y) = some u
      rw [if_neg hne]; exact e
    | some b => exact Heap.IsCell.sameBut e hs (O.off y b hp)
  · obtain ⟨u, c⟩ := H.cells y b hb
    exact ⟨u, c.sameBut hs (O.off y b hb)⟩
  · exact (H.own p hp).move S fun o e => (hs.2 _ (H.ownL p hp)).trans e

theorem Hx.store_cell {x : Str} {a : Addr} {d : D} {v : Value} (O : Γ.Ok) (H : Hx Γ M W σ ω h) (ha : M a) (V : VarSet Γ.slots σ x (some a) d σ') (r : Rd W h d v)
    (hn : h'.IsCell a (some v)) (hs : Heap.SameBut a h h') : Hx Γ M W σ' ω h' := by
  have S := Sub.sameBut hs (H.MW _ ha)
  obtain ⟨m, hm, hv⟩ := H.vars
  have hne := O.off x a V.mem
  refine H.change ha hs (let ⟨o, e, _⟩ := hn; ⟨o, e⟩) ⟨m, hm.sameBut hs (Ne.symm hne), Vars.set V S O.nd hn (r.sub S) (fun p hp hne' u e => ?_) hv⟩ (fun y b hb => ?_) (fun p hp => ?_) rfl
  · obtain ⟨y, l⟩ := p
    cases l with
    | none => exact e
    | some b =>
      refine Heap.IsCell.sameBut e hs fun q => hne' ?_
      subst q
      exact slots_apart O.apart hp V.mem
  · by_cases q : b = a
    · subst q; exact ⟨_, hn⟩
    · obtain ⟨u, c⟩ := H.cells y b hb
      exact ⟨u, c.sameBut hs q⟩
  · refine (H.own p hp).move S fun o e => (hs.2 _ fun q => ?_).trans e
    exact H.ownC p hp x (q ▸ V.mem)

theorem Hx.store_own {a : Addr} {o o' : OD} (H : Hx Γ M W σ ω h) (S : OwnSet ω a o o' ω') (hs : Heap.SameBut a h h') (hn : OwnAt W h' a o') : Hx Γ M W σ ω' h' := by
  have ha := H.ownM _ S.mem
  have U := Sub.sameBut hs (H.MW _ ha)
  obtain ⟨m, hm, hv⟩ := H.vars
  have hneL : a ≠ Γ.env.locals := H.ownL _ S.mem
  refine H.change ha hs ?_ ⟨m, hm.sameBut hs (Ne.symm hneL), hv.move U fun p hp u e => ?_⟩ (fun y b hb => ?_) (fun p hp => ?_) S.keys
  · cases o' with
    | list => obtain ⟨_, _, e, _⟩ := hn; exact ⟨_, e⟩
    | dict => obtain ⟨_, _, e, _⟩ := hn; exact ⟨_, e⟩
    | attrs => obtain ⟨_, _, e, _⟩ := hn; exact ⟨_, e⟩
  · obtain ⟨y, l⟩ := p
    cases l with
    | none => exact e
    | some b => exact Heap.IsCell.sameBut e hs fun q => H.ownC _ S.mem y (q ▸ hp)
  · obtain ⟨u, c⟩ := H.cells y b hb
    exact ⟨u, c.sameBut hs fun q => H.ownC _ S.mem y (q ▸ hb)⟩
  · by_cases q : p.1 = a
    · obtain ⟨b, o₁⟩ := p
      have q' : b = a := q
      subst q'
      rcases S.cases _ hp with e | hm'
      · cases e; exact hn
      · have n' : ω'.Pairwise fun p q => p.1 ≠ q.1 := by
          have e1 : ω.Pairwise (fun p q => p.1 ≠ q.1) ↔ (ω.map (·.1)).Pairwise (· ≠ ·) := by rw [List.pairwise_map]
          have e2 : ω'.Pairwise (fun p q => p.1 ≠ q.1) ↔ (ω'.map (·.1)).Pairwise (· ≠ ·) := by rw [List.pairwise_map]
          rw [e2, S.keys, ← e1]; exact H.ownN
        rw [own_unique n' hp S.mem']; exact hn
    · rcases S.cases p hp with e | hm'
      · exact absurd (by rw [e]) q
      · exact (H.own p hm').move U fun o e => (hs.2 _ q).trans e

theorem Sub.grow {W : Forb} {h h' : Heap} {a : Addr} (k : Stays h h') (hn : h.get? a = none) : Sub W h (fun b => b = a ∨ W b) h' := fun b o e wb =>
  ⟨fun q => q.elim (fun q => by rw [q, hn] at e; cases e) wb, k b o e⟩

/-- a new object of the frame's own -/
theorem Hx.add {a : Addr} {o : OD} (H : Hx Γ M W σ ω h) (k : Stays h h') (hn : h.get? a = none) (ho : OwnAt (fun b => b = a ∨ W b) h' a o) :
    Hx Γ (fun b => b = a ∨ M b) (fun b => b = a ∨ W b) σ ((a, o) :: ω) h' := by
  have S := Sub.grow (W := W) k hn
  obtain ⟨m, hm, hv⟩ := H.vars
  refine ⟨H.base.trans k, fun b hb => ?_, ⟨m, hm.keeps k, hv.move S fun p _ u e => ?_⟩, fun x b hb => ?_, fun p hp => ?_, fun p hp => ?_, fun p hp => ?_, fun p hp => ?_, ?_, .inr H.locM, fun x b hb => .inr (H.celW x b hb), fun b hb => hb.imp id (H.MW b), fun b hb => ?_⟩
  · rcases hb with rfl | hb
    · cases e : Γ.hb.get? b with
      | none => rfl
      | some o => have := H.base _ _ e; rw [hn] at this; cases this
    · exact H.new b hb
  · obtain ⟨y, l⟩ := p
    cases l with
    | none => exact e
    | some b => exact IsCell.st (fun o => k b o) e
  · obtain ⟨v, c⟩ := H.cells x b hb
    exact ⟨v, c.keeps k⟩
  · cases hp with
    | head => exact ho
    | tail _ hp => exact (H.own p hp).move S fun o => k _ o
  · cases hp with
    | head => exact .inl rfl
    | tail _ hp => exact .inr (H.ownM p hp)
  · cases hp with
    | head =>
      rintro rfl
      obtain ⟨o, _, _, e, _⟩ := hm
      rw [hn] at e; cases e
    | tail _ hp => exact H.ownL p hp
  · cases hp with
    | head =>
      intro x hx
      obtain ⟨o, e⟩ := H.live _ (H.celW x _ hx)
      rw [hn] at e; cases e
    | tail _ hp => exact H.ownC p hp
  · refine List.pairwise_cons.mpr ⟨fun p hp q => ?_, H.ownN⟩
    obtain ⟨o, e⟩ := H.live _ (H.MW _ (H.ownM p hp))
    have q' : a = p.1 := q
    rw [← q', hn] at e; cases e
  · rcases hb with rfl | hb
    · cases o with
      | list => obtain ⟨_, _, e, _⟩ := ho; exact ⟨_, e⟩
      | dict => obtain ⟨_, _, e, _⟩ := ho; exact ⟨_, e⟩
      | attrs => obtain ⟨_, _, e, _⟩ := ho; exact ⟨_, e⟩
    · obtain ⟨o, e⟩ := H.live b hb
      exact ⟨o, k _ _ e⟩
end

section
variable {prog : Program} {w : World} {A : Around}

/-- a run of statements: from what P says of the heap to what R says -/
noncomputable def Xs (prog : Program) (w : World) (Γ : Cx) (A : Around) (P : Heap → Prop) (M : Forb) (body : List Stmt) (R : Flow → Heap → Prop) : Prop :=
  ∀ (s : Shared) (Q : Flow → Shared → Prop) (E : Value → Shared → Prop), P s.heap →
    (∀ f h' tk', Kp M s.heap h' → R f h' → Q f { s with heap := h', toks := tk' }) → wpAny (model prog w) A (execs body Γ.env) Q E s
noncomputable def X1 (prog : Program) (w : World) (Γ : Cx) (A : Around) (P : Heap → Prop) (M : Forb) (st : Stmt) (R : Flow → Heap → Prop) : Prop :=
  ∀ (s : Shared) (Q : Flow → Shared → Prop) (E : Value → Shared → Prop), P s.heap →
    (∀ f h' tk', Kp M s.heap h' → R f h' → Q f { s with heap := h', toks := tk' }) → wpAny (model prog w) A (exec st Γ.env) Q E s

variable {Γ : Cx} {M W : Forb} {σ σ' : List (Option D)} {ω ω' : Owns} {P P₁ : Heap → Prop} {R R' : Flow → Heap → Prop}

theorem Xs.nil (h : ∀ hp, P hp → R .next hp) : Xs prog w Γ A P M [] R := fun s _ _ p q => wpAny_execs_nil (q .next s.heap s.toks (Kp.of_stays (Stays.refl _)) (h _ p))
/-- one statement, then the rest -/
noncomputable def Then (P₁ : Heap → Prop) (R : Flow → Heap → Prop) (f : Flow) (h : Heap) : Prop := match f with
  | .next => P₁ h
  | f => R f h
theorem Xs.cons {st : Stmt} {rest : List Stmt} (a : X1 prog w Γ A P M st (Then P₁ R)) (b : Xs prog w Γ A P₁ M rest R) : Xs prog w Γ A P M (st :: rest) R := by
  intro s Q E p q
  refine wpAny_execs_cons (a s _ E p fun f h₁ tk₁ k₁ r₁ => ?_)
  cases f with
  | next => exact b _ Q E r₁ fun f h₂ tk₂ k₂ r₂ => q f h₂ tk₂ (k₁.trans k₂) r₂
  | brk => exact q _ h₁ tk₁ k₁ r₁
  | cont => exact q _ h₁ tk₁ k₁ r₁
  | ret v => exact q _ h₁ tk₁ k₁ r₁
theorem Xs.one {st : Stmt} (a : X1 prog w Γ A P M st R) : Xs prog w Γ A P M [st] R := by
  refine Xs.cons (P₁ := R .next) (fun s Q E p q => a s Q E p fun f h tk k r => q f h tk k ?_) (Xs.nil fun _ h => h)
  cases f <;> exact r
theorem Xs.mono {body : List Stmt} (a : Xs prog w Γ A P M body R) (h : ∀ f hp, R f hp → R' f hp) : Xs prog w Γ A P M body R' :=
  fun s Q E p q => a s Q E p fun f h' tk k r => q f h' tk k (h _ _ r)
theorem Xs.pre {P' : Heap → Prop} {body : List Stmt} (a : Xs prog w Γ A P M body R) (h : ∀ hp, P' hp → P hp) : Xs prog w Γ A P' M body R :=
  fun s Q E p q => a s Q E (h _ p) q
theorem X1.pre {P' : Heap → Prop} {st : Stmt} (a : X1 prog w Γ A P M st R) (h : ∀ hp, P' hp → P hp) : X1 prog w Γ A P' M st R :=
  fun s Q E p q => a s Q E (h _ p) q
theorem X1.mono {st : Stmt} (a : X1 prog w Γ A P M st R) (h : ∀ f hp, R f hp → R' f hp) : X1 prog w Γ A P M st R' :=
  fun s Q E p q => a s Q E p fun f h' tk k r => q f h' tk k (h _ _ r)

theorem modeOk (O : Γ.Ok) : (Γ.env.scope.kind == .class || (Γ.env.scope.kind == .module && Γ.env.locals != Γ.env.globals)) = false := by rw [O.kind]; rfl

/-- a value into a name -/
theorem store_name {x : Str} {l : Option Addr} {d : D} {v : Value} {s : Shared} {Q : Unit → Shared → Prop} {E : Value → Shared → Prop} (O : Γ.Ok) (H : Hx Γ M W σ ω s.heap) (hM : ∀ a, l = some a → M a) (V : VarSet Γ.slots σ x l d σ') (r : Rd W s.heap d v)
    (q : ∀ h' tk', Kp M s.heap h' → Hx Γ M W σ' ω h' → Q () { s with heap := h', toks := tk' }) : wpAny (model prog w) A (storeName Γ.env x v) Q E s := by
  obtain ⟨m, hm, hv⟩ := H.vars
  cases l with
  | none => exact wpAny_storeName_local (O.loc x V.mem) hm (fun h' hn hs => q h' _ (Kp.sameBut hs H.locM) (Hx.store_loc O H hm hv V r hn hs)) (modeOk O)
  | some a =>
    obtain ⟨v₀, hc⟩ := H.cells x a V.mem
    exact wpAny_storeName_cell O.kind (O.cel x a V.mem).1 (O.cel x a V.mem).2 hc fun h' hn hs => q h' _ (Kp.sameBut hs (hM a rfl)) (Hx.store_cell O H (hM a rfl) V r hn hs)

theorem X1.assign {x : Str} {l : Option Addr} {d : D} {e : Expr} {p pos : Pos} (O : Γ.Ok) (a : Ev prog w Γ A M W σ ω e d) (V : VarSet Γ.slots σ x l d σ') (hM : ∀ a, l = some a → M a)
    (hs : swapsWith e (some (.Name x p)) pos.line Γ.env = pure false := by rfl) (h : ∀ hp, Hx Γ M W σ' ω hp → R .next hp) : X1 prog w Γ A (Hx Γ M W σ ω) M (.Assign [.Name x p] e pos) R := by
  intro s Q E H q
  refine wpAny_Assign_Name (a s _ E H fun v h₁ tk₁ k₁ r₁ => ?_) hs
  exact store_name O (H.stays k₁) hM V r₁ fun h₂ tk₂ k₂ H₂ => q _ h₂ tk₂ ((Kp.of_stays k₁).trans k₂) (h _ H₂)

theorem X1.ite {t : Expr} {x y : List Stmt} {pos : Pos} {b : Bool} (a : Ts prog w Γ A M W σ ω t b) (p : b = true → Xs prog w Γ A (Hx Γ M W σ ω) M x R) (q : b = false → Xs prog w Γ A (Hx Γ M W σ ω) M y R) :
    X1 prog w Γ A (Hx Γ M W σ ω) M (.If t x y pos) R := by
  intro s Q E H k
  refine wpAny_If (a s _ E H fun h₁ tk₁ k₁ => ?_)
  cases b with
  | true => exact p rfl _ Q E (H.stays k₁) fun f h₂ tk₂ k₂ => k f h₂ tk₂ ((Kp.of_stays k₁).trans k₂)
  | false => exact q rfl _ Q E (H.stays k₁) fun f h₂ tk₂ k₂ => k f h₂ tk₂ ((Kp.of_stays k₁).trans k₂)

theorem X1.ret {e : Expr} {d : D} {pos : Pos} (a : Ev prog w Γ A M W σ ω e d) (h : ∀ hp v, Hx Γ M W σ ω hp → Rd W hp d v → R (.ret v) hp) : X1 prog w Γ A (Hx Γ M W σ ω) M (.Return (some e) pos) R := by
  intro s Q E H k
  exact wpAny_Return_some (a s _ E H fun v h₁ tk₁ k₁ r₁ => k _ h₁ tk₁ (Kp.of_stays k₁) (h _ _ (H.stays k₁) r₁))
end

end Mine

-- L4
namespace Mine
open PySem PySem.Spec PySem.Calls PyProof.Rows PySem.W

noncomputable abbrev Kf : Params → Frag := Kx

/-- what the top left, and the built-ins -/
structure Gl (w : World) (h : Heap) : Prop where
  K : (Kf w.params).In h
  lim : h.NoLimit
  main : ∃ mg, h.Ns mainGlobals mg ∧ ∀ x v, nsIn (Kf w.params) mainGlobals x = some v → mg x = v
  bi : ∃ mb, h.Ns builtinsNs mb ∧ ∀ x : Str, x ≠ "__name__" → mb x = bootBuiltins x
theorem Gl.stays {w : World} {h h' : Heap} (G : Gl w h) (k : Stays h h') : Gl w h' :=
  ⟨G.K.keeps k, G.lim.keeps k, let ⟨m, a, b⟩ := G.main; ⟨m, a.keeps k, b⟩, let ⟨m, a, b⟩ := G.bi; ⟨m, a.keeps k, b⟩⟩

section
variable {prog : Program} {w : World} {Γ : Cx} {A : Around} {M W : Forb} {σ σ' : List (Option D)} {ω ω' : Owns}

theorem Ev.glob {x : Str} {v : Value} {pos : Pos} (G : Gl w Γ.hb) (O : Γ.Ok) (e : nsIn (Kf w.params) mainGlobals x = some (some v)) (hk : Γ.env.kindOf x = some .globalImplicit := by rfl) (hd : (x == ("__debug__" : Str)) = false := by decide) :
    Ev prog w Γ A M W σ ω (.Name x pos) (.val v) := by
  intro s Q E H h
  obtain ⟨mg, h1, h2⟩ := (G.stays H.base).main
  exact Name_function_global O.kind hk (loadGlobal_global (by rw [O.glob]; exact h1) (h2 x _ e) (h v s.heap s.toks (Stays.refl _) (.val v))) hd
theorem Ev.built {x : Str} {v : Value} {pos : Pos} (G : Gl w Γ.hb) (O : Γ.Ok) (e : nsIn (Kf w.params) mainGlobals x = some Option.none) (hv : bootBuiltins x = some v) (hn : x ≠ "__name__" := by decide) (hk : Γ.env.kindOf x = some .globalImplicit := by rfl) (hd : (x == ("__debug__" : Str)) = false := by decide) :
    Ev prog w Γ A M W σ ω (.Name x pos) (.val v) := by
  intro s Q E H h
  obtain ⟨mg, h1, h2⟩ := (G.stays H.base).main
  obtain ⟨mb, h3, h4⟩ := (G.stays H.base).bi
  exact Name_function_global O.kind hk (loadGlobal_builtin (by rw [O.glob]; exact h1) (h2 x _ e) (by rw [O.bi]; exact h3) ((h4 x hn).trans hv) (h v s.heap s.toks (Stays.refl _) (.val v))) hd

/-- what a def gives back -/
noncomputable def Fn (prog : Program) (w : World) (f : Addr) (n : Nat) (args : List D) (d : D) : Prop :=
  ∀ (A : Around) (W : Forb) (s : Shared) (vs : List Value) (Q : Value → Shared → Prop) (E : Value → Shared → Prop), Rm A n → Gl w s.heap → (∀ a, W a → ∃ o, s.heap.get? a = some o) → RdL W s.heap args vs →
    (∀ v h' tk', Stays s.heap h' → Rd W h' d v → Q v { s with heap := h', toks := tk' }) → wpAny (model prog w) A (call (.ref f) vs) Q E s

/-- the end of a def -/
noncomputable def RetIs (W : Forb) (d : D) (f : Flow) (h : Heap) : Prop := match f with
  | .ret v => Rd W h d v
  | .next => d = .none
  | _ => False

theorem Rm.deeper {n : Nat} {env : Env} (R : Rm A (n + 1)) : Rm (A.deeper env) n := by
  refine ⟨R.hand, ?_, ?_⟩
  · have := R.dep
    show A.depth + 1 + 4 * n + 4 < recursionLimit
    omega
  · have := R.uni
    show A.units + 3 + 24 * n + 128 < cLine
    omega

theorem lookup_zip_rev : ∀ (ns : List Str) (vs : List Value), ns.Nodup → ∀ (i : Nat) (x : Str) (v : Value), ns[i]? = some x → vs[i]? = some v → (ns.zip vs).reverse.lookup x = some v
  | [], _, _, _, _, _, e, _ => by simp at e
  | _ :: _, [], _, _, _, _, _, e => by simp at e
  | n :: ns, u :: vs, nd, 0, x, v, e, e' => by
    simp at e e'
    subst e; subst e'
    rw [List.nodup_cons] at nd
    rw [List.zip_cons_cons, List.reverse_cons, List.lookup_append]
    have : ((ns.zip vs).reverse.lookup n) = none := by
      rw [List.lookup_eq_none_iff]
      intro p hp
      have := List.of_mem_zip (a := p.1) (b := p.2) (List.mem_reverse.mp hp)
      have ne : n ≠ p.1 := fun e => nd.1 (by rw [e]; exact this.1)
      simpa using ne
    rw [this]; simp
  | n :: ns, u :: vs, nd, i + 1, x, v, e, e' => by
    rw [List.nodup_cons] at nd
    have := lookup_zip_rev ns vs nd.2 i x v (by simpa using e) (by simpa using e')
    rw [List.zip_cons_cons, List.reverse_cons, List.lookup_append, this]; rfl

theorem vars_none {W : Forb} {h : Heap} {m : Str → Option Value} : ∀ (ps : Slots) (k : Nat), Vars W h m ps (List.replicate k none)
  | [], _ => by unfold Vars; trivial
  | _ :: _, 0 => by unfold Vars; trivial
  | (x, l) :: ps, k + 1 => by rw [List.replicate_succ]; exact vars_none ps k
theorem vars_args {W : Forb} {h : Heap} {m : Str → Option Value} : ∀ (ns : List Str) (ds : List D) (vs : List Value) (rest : Slots) (k : Nat), RdL W h ds vs → ns.length = ds.length → (∀ (i : Nat) (x : Str) (v : Value), ns[i]? = some x → vs[i]? = some v → m x = some v) →
    Vars W h m (ns.map (fun x => (x, none)) ++ rest) (ds.map some ++ List.replicate k none)
  | [], [], _, rest, k, _, _, _ => vars_none rest k
  | n :: ns, d :: ds, _, rest, k, .cons a b, hl, hm => by
    refine ⟨⟨_, hm 0 n _ rfl rfl, a⟩, vars_args ns ds _ rest k b (by simpa using hl) fun i x v e e' => hm (i + 1) x v (by simpa using e) (by simpa using e')⟩

/-- a def without cells: walked once, for all its calls -/
theorem Fn.plain {f : Addr} {name qual : Str} {params : Arguments} {body : List Stmt} {scope : Scope} {dV kV doc pm cdv ct oc : Value} {an od : Option Addr} {osl : Array (Option Value)} {n k : Nat} {args : List D} {d : D} {ns : List Str} {rest : List Str}
    (ho : (Kf w.params).lookup f = some ⟨oc, od, .func (fnOf name qual params body scope dV kV doc pm an cdv ct), osl⟩) (hcd : codeIn (Kf w.params) cdv qual = true)
    (hlen : ns.length = args.length)
    (hbind : ∀ vs : List Value, vs.length = ns.length → bindArgs (fnOf name qual params body scope dV kV doc pm an cdv ct) ⟨vs, []⟩ = pure (ns.zip vs))
    (hkind : ∀ x ∈ ns ++ rest, scope.names.lookup x = some .local) (hnd : (ns ++ rest).Nodup) (hdb : ∀ x ∈ ns ++ rest, (x == ("__debug__" : Str)) = false)
    (hcell : ∀ x ∈ scope.names, x.2 ≠ .cell) (hco : scope.isCoroutine = false) (hgen : scope.isGenerator = false) (hk : scope.kind = .function)
    (h : ∀ (A : Around) (hb : Heap) (L : Addr) (W : Forb), Rm A n → Gl w hb → hb.get? L = none →
      (⟨envOf qual scope L f cdv, (ns ++ rest).map fun x => (x, none), hb⟩ : Cx).Ok →
      Xs prog w ⟨envOf qual scope L f cdv, (ns ++ rest).map fun x => (x, none), hb⟩ A
        (Hx ⟨envOf qual scope L f cdv, (ns ++ rest).map fun x => (x, none), hb⟩ (fun a => a = L) (fun a => a = L ∨ W a) (args.map some ++ List.replicate k none) []) (fun a => a = L) body (RetIs W d)) :
    Fn prog w f (n + 1) args d := by
  intro A W s vs Q E R G hW r q
  have hd : A.depth < recursionLimit := by have := R.dep; omega
  have hvl := r.length
  refine wpAny_call (codeAny_call_def (binds := ns.zip vs) hd (G.K _ _ ho) rfl G.lim (codeRec_of G.K hcd) rfl (BindsTo.of_eq (hbind vs (by rw [hvl, hlen]))) hcell (fun x hx => hkind _ (List.mem_append_left _ (List.of_mem_zip (a := x.1) (b := x.2) hx).1)) (fun h₀ hns hk₀ => ?_) hco hgen hk)
  have hL : s.heap.get? s.heap.objs.size = none := get?_size _
  have ok : (⟨envOf qual scope s.heap.objs.size f cdv, (ns ++ rest).map fun x => (x, none), s.heap⟩ : Cx).Ok := by
    refine ⟨hk, rfl, rfl, fun x hx => ?_, fun x a hx => ?_, ?_, fun p hp => ?_, ?_, fun x a hx => ?_⟩
    · obtain ⟨y, hy, e⟩ := List.mem_map.mp hx
      cases e
      exact hkind x hy
    · obtain ⟨y, hy, e⟩ := List.mem_map.mp hx
      cases e
    · rw [List.map_map]
      have : ((fun p : Str × Option Addr => p.1) ∘ fun x : Str => (x, (none : Option Addr))) = id := rfl
      rw [this, List.map_id]; exact hnd
    · obtain ⟨y, hy, e⟩ := List.mem_map.mp hp
      cases e
      exact hdb y hy
    · rw [List.pairwise_map]
      exact List.Pairwise.imp (fun _ a e => nomatch e) hnd
    · obtain ⟨y, hy, e⟩ := List.mem_map.mp hx
      cases e
  have nsnd : ns.Nodup := (List.nodup_append.mp hnd).1
  have sub : Sub W s.heap (fun a => a = s.heap.objs.size ∨ W a) h₀ := fun b o e wb => ⟨fun x => x.elim (fun x => by rw [x, hL] at e; cases e) wb, hk₀ b o e⟩
  have H : Hx ⟨envOf qual scope s.heap.objs.size f cdv, (ns ++ rest).map fun x => (x, none), s.heap⟩ (fun a => a = s.heap.objs.size) (fun a => a = s.heap.objs.size ∨ W a) (args.map some ++ List.replicate k none) [] h₀ := by
    refine ⟨hk₀, fun a e => by subst e; exact hL, ⟨_, hns, ?_⟩, fun x a hx => ?_, fun p hp => (nomatch hp), fun p hp => (nomatch hp), fun p hp => (nomatch hp), fun p hp => (nomatch hp), .nil, rfl, fun x a hx => ?_, fun a e => .inl e, fun a e => ?_⟩
    · show Vars _ _ _ ((ns ++ rest).map fun x => (x, none)) _
      rw [List.map_append]
      exact vars_args ns args vs _ k (r.sub sub) hlen fun i x v e e' => lookup_zip_rev ns vs nsnd i x v e e'
    · obtain ⟨y, hy, e⟩ := List.mem_map.mp hx; cases e
    · obtain ⟨y, hy, e⟩ := List.mem_map.mp hx; cases e
    · rcases e with rfl | e
      · obtain ⟨o, _, _, e, _⟩ := hns; exact ⟨o, e⟩
      · obtain ⟨o, e⟩ := hW a e; exact ⟨o, hk₀ _ _ e⟩
  refine h _ s.heap s.heap.objs.size W R.deeper G hL ok _ _ _ H fun fl h' tk' kp rr => ?_
  have st : Stays s.heap h' := fun b o e => kp b o (hk₀ b o e) fun x => by rw [x, hL] at e; cases e
  cases fl with
  | ret v => exact q v h' tk' st rr
  | next => exact q .none h' tk' st (by have e : d = .none := rr; rw [e]; exact .none)
  | brk => exact rr.elim
  | cont => exact rr.elim

theorem keeps_f {f : Addr} (G : Gl w Γ.hb) (hke : keepIn (Kf w.params) (.ref f) = true) (M' : Model) {h : Heap} (H : Hx Γ M W σ ω h) : ∃ k, (k = Keeper.frame ∨ k = Keeper.machine ∨ k = Keeper.boundFrame) ∧ Looks M' h (keeperOf (.ref f)) k :=
  keeps_K hke h (G.stays H.base).K

theorem eval_CallName (x : Str) (p : Pos) (es : List Expr) (pos : Pos) (env : Env) : eval (.Call (.Name x p) es [] pos) env = (do callWith pos (← eval (.Name x p) env) [] (backTo pos (starEach es env)) (backToKw pos (keywordEach [] env))) := rfl

/-- a call of a def by its name -/
theorem Ev.callFn {x : Str} {p : Pos} {f : Addr} {e : Expr} {es : List Expr} {ds : List D} {d : D} {n : Nat} {pos : Pos} (G : Gl w Γ.hb) (R : Rm A n) (hf : Ev prog w Γ A M W σ ω (.Name x p) (.val (.ref f))) (hke : keepIn (Kf w.params) (.ref f) = true) (a : Es prog w Γ A M W σ ω (e :: es) ds) (c : Fn prog w f n ds d)
    (he : starEach (e :: es) Γ.env = (false, eval e Γ.env) :: starEach es Γ.env := by rfl) (hst : (backTo pos (starEach es Γ.env)).any (·.1) = false := by rfl) :
    Ev prog w Γ A M W σ ω (.Call (.Name x p) (e :: es) [] pos) d := by
  intro s Q E H h
  rw [eval_CallName]
  refine wpAny_bind (hf s _ E H fun v h₁ tk₁ k₁ r₁ => ?_)
  cases r₁
  refine callWith_K (h₀ := Γ.hb) G.K hke (a pos _ _ E (H.stays k₁) fun vs h₂ tk₂ k₂ r₂ => ⟨(G.stays ((H.stays k₁).stays k₂).base).K, ?_⟩) he hst
  have H₂ := (H.stays k₁).stays k₂
  exact c A W _ vs Q E R (G.stays H₂.base) H₂.live r₂ fun v h₃ tk₃ k₃ r₃ => h v h₃ tk₃ ((k₁.trans k₂).trans k₃) r₃
theorem Ev.callFn0 {x : Str} {p : Pos} {f : Addr} {d : D} {n : Nat} {pos : Pos} (G : Gl w Γ.hb) (R : Rm A n) (hf : Ev prog w Γ A M W σ ω (.Name x p) (.val (.ref f))) (hke : keepIn (Kf w.params) (.ref f) = true) (c : Fn prog w f n [] d) :
    Ev prog w Γ A M W σ ω (.Call (.Name x p) [] [] pos) d := by
  intro s Q E H h
  rw [eval_CallName]
  refine wpAny_bind (hf s _ E H fun v h₁ tk₁ k₁ r₁ => ?_)
  cases r₁
  have H₁ := H.stays k₁
  exact callWith_K0 (G.stays H₁.base).K hke (c A W _ [] Q E R (G.stays H₁.base) H₁.live .nil fun v h₃ tk₃ k₃ r₃ => h v h₃ tk₃ (k₁.trans k₃) r₃)
end

end Mine

-- L5
namespace Mine
open PySem PySem.Spec PySem.Calls PyProof.Rows PySem.W

section
variable {prog : Program} {w : World} {A : Around}

theorem Cmp.lt {a b : Int} : Cmp prog w A .Lt (.int a) (.int b) (decide (a < b)) := by
  intro W s Q E x y _ ra rb h
  cases ra; cases rb
  exact lt_int (h s.heap s.toks (Stays.refl _))
theorem Cmp.gt {a b : Int} : Cmp prog w A .Gt (.int a) (.int b) (decide (b < a)) := by
  intro W s Q E x y _ ra rb h
  cases ra; cases rb
  exact gt_int (h s.heap s.toks (Stays.refl _))
theorem Cmp.le {a b : Int} : Cmp prog w A .LtE (.int a) (.int b) (decide (a ≤ b)) := by
  intro W s Q E x y _ ra rb h
  cases ra; cases rb
  exact le_int (h s.heap s.toks (Stays.refl _))
theorem Cmp.ge {a b : Int} : Cmp prog w A .GtE (.int a) (.int b) (decide (b ≤ a)) := by
  intro W s Q E x y _ ra rb h
  cases ra; cases rb
  exact ge_int (h s.heap s.toks (Stays.refl _))
theorem Cmp.eq {a b : Int} : Cmp prog w A .Eq (.int a) (.int b) (a == b) := by
  intro W s Q E x y _ ra rb h
  cases ra; cases rb
  exact eq_int (h s.heap s.toks (Stays.refl _))
theorem Cmp.ne {a b : Int} : Cmp prog w A .NotEq (.int a) (.int b) (a != b) := by
  intro W s Q E x y _ ra rb h
  cases ra; cases rb
  exact ne_int (h s.heap s.toks (Stays.refl _))
theorem Cmp.eqS {a b : Str} : Cmp prog w A .Eq (.str a) (.str b) (a == b) := by
  intro W s Q E x y _ ra rb h
  cases ra; cases rb
  exact PyProof.Rows.eq_str (h s.heap s.toks (Stays.refl _))

theorem Bin.add {a b : Int} : Bin prog w A .Add (.int a) (.int b) (.int (a + b)) := by
  intro W s Q E x y _ ra rb h
  cases ra; cases rb
  exact add_int (h _ s.heap (s.toks + 1) (Stays.refl _) (.int _ _))
theorem Bin.sub {a b : Int} : Bin prog w A .Sub (.int a) (.int b) (.int (a - b)) := by
  intro W s Q E x y _ ra rb h
  cases ra; cases rb
  exact sub_int (h _ s.heap (s.toks + 1) (Stays.refl _) (.int _ _))
theorem Bin.mod {a b : Int} (hb : b ≠ 0) : Bin prog w A .Mod (.int a) (.int b) (.int (a.fmod b)) := by
  intro W s Q E x y _ ra rb h
  cases ra; cases rb
  exact mod_int' hb (h _ s.heap (s.toks + 1) (Stays.refl _) (.int _ _))
theorem Bin.div {a b : Int} (hb : b ≠ 0) (ha : 0 ≤ a) (ha' : a < 100000) (hb' : 0 ≤ b) (hb'' : b < 100000) : Bin prog w A .FloorDiv (.int a) (.int b) (.int (a.fdiv b)) := by
  intro W s Q E x y _ ra rb h
  cases ra; cases rb
  exact floordiv_int hb (h _ s.heap (s.toks + 1) (Stays.refl _) (.int _ _)) (.inl (PyProof.noPylong_small (by omega)))
theorem bits_small {a : Int} (h1 : -100000000 ≤ a) (h2 : a ≤ 100000000) : Builtin.Int.intBits a ≤ 64 := intBits_le_64 (by omega) (by omega)
theorem Bin.mul {a b : Int} (h1 : -100000000 ≤ a) (h2 : a ≤ 100000000) : Bin prog w A .Mult (.int a) (.int b) (.int (a * b)) := by
  intro W s Q E x y _ ra rb h
  cases ra; cases rb
  exact PyProof.Rows.mul_int (h _ s.heap (s.toks + 1) (Stays.refl _) (.int _ _)) (IntMulOk.of_left (bits_small h1 h2))
theorem Bin.shr {a b : Int} (hb : 0 ≤ b) : Bin prog w A .RShift (.int a) (.int b) (.int (a.fdiv (2 ^ b.toNat))) := by
  intro W s Q E x y _ ra rb h
  cases ra; cases rb
  exact rshift_int hb (h _ s.heap (s.toks + 1) (Stays.refl _) (.int _ _))
theorem Bin.shl {a b : Int} (h1 : -100000000 ≤ a) (h2 : a ≤ 100000000) (hb : 0 ≤ b) (hb' : b ≤ 1000) : Bin prog w A .LShift (.int a) (.int b) (.int (a * 2 ^ b.toNat)) := by
  intro W s Q E x y _ ra rb h
  cases ra; cases rb
  refine lshift_int hb ?_ (h _ s.heap (s.toks + 1) (Stays.refl _) (.int _ _))
  have := bits_small h1 h2
  omega
theorem Bin.and {a b : Int} : Bin prog w A .BitAnd (.int a) (.int b) (.int (Builtin.bitAnd a b)) := by
  intro W s Q E x y _ ra rb h
  cases ra; cases rb
  exact and_int (h _ s.heap (s.toks + 1) (Stays.refl _) (.int _ _))
theorem Bin.addS {a b : Str} (hz : a.length + b.length ≤ 1000000) : Bin prog w A .Add (.str a) (.str b) (.str (a ++ b)) := by
  intro W s Q E x y _ ra rb h
  cases ra; cases rb
  exact PyProof.Rows.add_str (fun t tk => h _ s.heap tk (Stays.refl _) (.str _ _)) (by rw [sizeLine_eq]; omega)
theorem Bin.mulS {a : Str} {b : Int} (hz : a.length ≤ 1000) (hb : b ≤ 1000) (hb' : -1000 ≤ b) : Bin prog w A .Mult (.str a) (.int b) (.str (Txt.mul a b)) := by
  intro W s Q E x y _ ra rb h
  cases ra; cases rb
  exact SB.mul (mulOk_of 1000 1000 hz hb (by omega) (by omega) (by omega)) (fun t tk => h _ s.heap tk (Stays.refl _) (.str _ _))

/-- a list: a tree's, or the frame's own -/
noncomputable def DL (ω : Owns) (d : D) (ds : List D) : Prop := d = .list ds ∨ ∃ a, d = .val (.ref a) ∧ (a, .list ds) ∈ ω
noncomputable def LsAt (W : Forb) (h : Heap) (v : Value) (ds : List D) : Prop := ∃ a vs n, v = .ref a ∧ h.get? a = some (listOf vs.toArray n) ∧ RdL W h ds vs
theorem DL.at {Γ : Cx} {M W : Forb} {σ : List (Option D)} {ω : Owns} {h : Heap} {d : D} {ds : List D} {v : Value} (H : Hx Γ M W σ ω h) (k : DL ω d ds) (r : Rd W h d v) : LsAt W h v ds := by
  rcases k with rfl | ⟨a, rfl, hm⟩
  · cases r with
    | list e _ r => exact ⟨_, _, _, rfl, e, r⟩
  · cases r
    obtain ⟨vs, n, e, r⟩ := H.own _ hm
    exact ⟨a, vs, n, rfl, e, r⟩
theorem LsAt.stays {W : Forb} {h h' : Heap} {v : Value} {ds : List D} (k : Stays h h') : LsAt W h v ds → LsAt W h' v ds
  | ⟨a, vs, n, e, q, r⟩ => ⟨a, vs, n, e, k _ _ q, r.stays k⟩
theorem listAt {h : Heap} {a : Addr} {vs : List Value} {n : Nat} (e : h.get? a = some (listOf vs.toArray n)) : h.IsList a vs.toArray := ⟨_, e, rfl, n, rfl⟩

variable {Γ : Cx} {M W : Forb} {σ σ' : List (Option D)} {ω ω' : Owns}

/-- an expression that makes a list -/
noncomputable def EvF (prog : Program) (w : World) (Γ : Cx) (A : Around) (M W : Forb) (σ : List (Option D)) (ω : Owns) (e : Expr) (ds : List D) : Prop :=
  ∀ (s : Shared) (Q : Value → Shared → Prop) (E : Value → Shared → Prop), Hx Γ M W σ ω s.heap →
    (∀ a vs n h' tk', Stays s.heap h' → s.heap.get? a = none → h'.get? a = some (listOf vs.toArray n) → RdL (fun b => b = a ∨ W b) h' ds vs → Q (.ref a) { s with heap := h', toks := tk' }) → wpAny (model prog w) A (eval e Γ.env) Q E s
theorem EvF.ev {e : Expr} {ds : List D} (a : EvF prog w Γ A M W σ ω e ds) : Ev prog w Γ A M W σ ω e (.list ds) := by
  intro s Q E H h
  refine a s Q E H fun a vs n h' tk' k e q r => h _ h' tk' k (.list q (H.fresh e) (r.sub fun b o e wb => ⟨fun x => wb (.inr x), e⟩))

theorem EvF.list {es : List Expr} {ds : List D} {pos : Pos} (a : Es prog w Γ A M W σ ω es ds) (hz : ds.length ≤ 1000 := by first | decide | simp) : EvF prog w Γ A M W σ ω (.List es pos) ds := by
  intro s Q E H h
  refine wpAny_List (a pos s _ E H fun vs h₁ tk₁ k₁ r₁ => ⟨by rw [r₁.length, sizeLine_eq]; omega, ?_⟩)
  have hf := get?_size h₁
  refine h _ vs 0 _ _ (k₁.trans (Stays.push _ _)) ?_ (Heap.get?_push_size _ rfl) (r₁.sub (Sub.grow (Stays.push _ _) hf))
  cases e : s.heap.get? h₁.objs.size with
  | none => rfl
  | some o => have := k₁ _ _ e; rw [hf] at this; cases this

theorem fresh_back {h h' : Heap} {a : Addr} (k : Stays h h') (e : h'.get? a = none) : h.get? a = none := by
  cases q : h.get? a with
  | none => rfl
  | some o => have := k _ _ q; rw [e] at this; cases this

theorem EvF.addL {l r : Expr} {pos : Pos} {d e : D} {ds es : List D} (a : Ev prog w Γ A M W σ ω l d) (ka : DL ω d ds) (b : Ev prog w Γ A M W σ ω r e) (kb : DL ω e es) (hz : ds.length + es.length ≤ 1000000) :
    EvF prog w Γ A M W σ ω (.BinOp l .Add r pos) (ds ++ es) := by
  intro s Q E H h
  refine wpAny_BinOp (a s _ E H fun v h₁ tk₁ k₁ r₁ => b _ _ E (H.stays k₁) fun u h₂ tk₂ k₂ r₂ => ?_)
  obtain ⟨a₁, vs, n, rfl, q₁, p₁⟩ := (ka.at (H.stays k₁) r₁).stays k₂
  obtain ⟨a₂, us, n', rfl, q₂, p₂⟩ := kb.at ((H.stays k₁).stays k₂) r₂
  have hf := get?_size h₂
  refine P.add_list (s := { s with heap := h₂, toks := tk₂ }) q₁ q₂ ?_ (by rw [List.size_toArray, List.size_toArray, p₁.length, p₂.length, sizeLine_eq]; omega)
  refine h _ (vs ++ us) 0 _ _ ((k₁.trans k₂).trans (Stays.push _ _)) (fresh_back (k₁.trans k₂) hf) ?_ ((p₁.append p₂).sub (Sub.grow (Stays.push _ _) hf))
  rw [show (vs ++ us).toArray = vs.toArray ++ us.toArray from by simp]
  exact Heap.get?_push_size _ rfl

theorem mulIts (vs : List Value) (k : Nat) : List.foldl (fun x1 x2 => x1 ++ x2) #[] (List.replicate (if vs.toArray.isEmpty = true then 0 else k) vs.toArray) = (List.replicate k vs).flatten.toArray := by
  have e : ∀ (n : Nat) (acc : List Value), List.foldl (fun x1 x2 => x1 ++ x2) acc.toArray (List.replicate n vs.toArray) = (acc ++ (List.replicate n vs).flatten).toArray := by
    intro n
    induction n with
    | zero => intro acc; simp
    | succ n ih => intro acc; rw [List.replicate_succ, List.foldl_cons, show acc.toArray ++ vs.toArray = (acc ++ vs).toArray from by simp, ih, List.replicate_succ, List.flatten_cons, List.append_assoc]
  have := e (if vs.toArray.isEmpty = true then 0 else k) []
  rw [show (#[] : Array Value) = ([] : List Value).toArray from rfl, this]
  by_cases h : vs = []
  · subst h; simp
  · have : vs.toArray.isEmpty = false := by simpa using h
    rw [this]; simp
theorem RdL.rep {W : Forb} {h : Heap} {ds : List D} {vs : List Value} (r : RdL W h ds vs) : ∀ k : Nat, RdL W h (List.replicate k ds).flatten (List.replicate k vs).flatten
  | 0 => .nil
  | k + 1 => by rw [List.replicate_succ, List.flatten_cons, List.replicate_succ, List.flatten_cons]; exact r.append (r.rep k)

/-- a list, so many times -/
theorem Ev.mulL {l r : Expr} {pos : Pos} {d : D} {ds : List D} {x : Int} (a : Ev prog w Γ A M W σ ω l d) (ka : DL ω d ds) (b : Ev prog w Γ A M W σ ω r (.int x)) (hx : x ≤ 1000) (hx' : -1000 ≤ x) (hz : ds.length ≤ 1000) :
    Ev prog w Γ A M W σ ω (.BinOp l .Mult r pos) (.list (List.replicate x.toNat ds).flatten) := by
  intro s Q E H h
  refine wpAny_BinOp (a s _ E H fun v h₁ tk₁ k₁ r₁ => b _ _ E (H.stays k₁) fun u h₂ tk₂ k₂ r₂ => ?_)
  obtain ⟨a₁, vs, n, rfl, q₁, p₁⟩ := (ka.at (H.stays k₁) r₁).stays k₂
  cases r₂ with
  | int i t =>
    have hf := get?_size h₂
    have hn : x.toNat ≤ 1000 := by omega
    have hm : vs.length * x.toNat ≤ 1000 * 1000 := Nat.mul_le_mul (by rw [p₁.length]; exact hz) hn
    have hq : Q (.ref h₂.objs.size) { s with heap := h₂.push { cls := .type "list", data := .seq (List.foldl (fun x1 x2 => x1 ++ x2) #[] (List.replicate (if vs.toArray.isEmpty = true then 0 else x.toNat) vs.toArray)) }, toks := tk₂ } := by
      rw [mulIts]
      exact h _ _ _ ((k₁.trans k₂).trans (Stays.push _ _)) (.list (n := 0) (vs := (List.replicate x.toNat vs).flatten) (Heap.get?_push_size _ rfl) (((H.stays k₁).stays k₂).fresh hf) ((p₁.rep x.toNat).stays (Stays.push _ _)))
    exact wpAny_binaryOp_repeat_ref (s := { s with heap := h₂, toks := tk₂ }) (T := "list") (U := "int") (by decide) ⟨_, q₁, rfl⟩ (fun s' => typeIs_int s' x t) noFill_list_mul F.fills_int_mul F.slot_int_rmul repeat_list F.slot_int_index.lookup
      (call_meets F.slot_int_rmul (typeIs_int _ x t) F.entry_int_rmul (F.args_int_rmul_2 _ _) (int___rmul___int_list x t a₁ vs.toArray n)
        ⟨q₁, rfl, ⟨_, q₁, rfl⟩, call_meets F.slot_list_mul ⟨_, q₁, rfl⟩ F.entry_list_mul (F.args_list_mul_2 _ _)
          (AutoListH.list___mul___list_int_3 a₁ vs.toArray n x t (by simp [Builtin.List.listFitsIndex]; omega) (by rw [List.size_toArray]; omega) (by simp [Builtin.List.listTooLong, sizeLine]; omega))
          ⟨q₁, hq⟩⟩)
end

end Mine

-- L6
namespace Mine
open PySem PySem.Spec PySem.Calls PyProof.Rows PySem.W

section
variable {prog : Program} {w : World} {A : Around} {Γ : Cx} {M W : Forb} {σ σ' : List (Option D)} {ω ω' : Owns}

/-- what a built-in (a function, a type) gives of values -/
noncomputable def Bf (prog : Program) (w : World) (A : Around) (f : Value) (args : List D) (d : D) : Prop :=
  ∀ (W : Forb) (s : Shared) (vs : List Value) (Q : Value → Shared → Prop) (E : Value → Shared → Prop), (∀ x, W x → ∃ o, s.heap.get? x = some o) → RdL W s.heap args vs →
    (∀ v h' tk', Stays s.heap h' → Rd W h' d v → Q v { s with heap := h', toks := tk' }) → wpAny (model prog w) A (call f vs) Q E s

theorem Ev.callB {x : Str} {p : Pos} {id : String} {e : Expr} {es : List Expr} {ds : List D} {d : D} {pos : Pos} (hf : Ev prog w Γ A M W σ ω (.Name x p) (.val (.builtin id))) (a : Es prog w Γ A M W σ ω (e :: es) ds) (c : Bf prog w A (.builtin id) ds d)
    (he : starEach (e :: es) Γ.env = (false, eval e Γ.env) :: starEach es Γ.env := by rfl) (hst : (backTo pos (starEach es Γ.env)).any (·.1) = false := by rfl) :
    Ev prog w Γ A M W σ ω (.Call (.Name x p) (e :: es) [] pos) d := by
  intro s Q E H h
  rw [eval_CallName]
  refine wpAny_bind (hf s _ E H fun v h₁ tk₁ k₁ r₁ => ?_)
  cases r₁
  have H₁ := H.stays k₁
  refine callWith_builtin1 (a pos _ _ E H₁ fun vs h₂ tk₂ k₂ r₂ => ?_) he hst
  exact c W _ vs Q E (H₁.stays k₂).live r₂ fun v h₃ tk₃ k₃ r₃ => h v h₃ tk₃ ((k₁.trans k₂).trans k₃) r₃
theorem Ev.callT {x : Str} {p : Pos} {id : String} {e : Expr} {es : List Expr} {ds : List D} {d : D} {pos : Pos} (hf : Ev prog w Γ A M W σ ω (.Name x p) (.val (.type id))) (a : Es prog w Γ A M W σ ω (e :: es) ds) (c : Bf prog w A (.type id) ds d)
    (he : starEach (e :: es) Γ.env = (false, eval e Γ.env) :: starEach es Γ.env := by rfl) (hst : (backTo pos (starEach es Γ.env)).any (·.1) = false := by rfl) :
    Ev prog w Γ A M W σ ω (.Call (.Name x p) (e :: es) [] pos) d := by
  intro s Q E H h
  rw [eval_CallName]
  refine wpAny_bind (hf s _ E H fun v h₁ tk₁ k₁ r₁ => ?_)
  cases r₁
  have H₁ := H.stays k₁
  refine PyProof.Rows.callWith_type1 (a pos _ _ E H₁ fun vs h₂ tk₂ k₂ r₂ => ?_) he hst
  exact c W _ vs Q E (H₁.stays k₂).live r₂ fun v h₃ tk₃ k₃ r₃ => h v h₃ tk₃ ((k₁.trans k₂).trans k₃) r₃

/-- a built-in of one value, whose answer hangs on the heap beneath an own list -/
theorem Ev.callB1 {x : Str} {p : Pos} {id : String} {e : Expr} {d₀ d : D} {pos : Pos} (hf : Ev prog w Γ A M W σ ω (.Name x p) (.val (.builtin id))) (a : Ev prog w Γ A M W σ ω e d₀)
    (c : ∀ (s : Shared) (v : Value) (Q : Value → Shared → Prop) (E : Value → Shared → Prop), Hx Γ M W σ ω s.heap → Rd W s.heap d₀ v → (∀ u h' tk', Stays s.heap h' → Rd W h' d u → Q u { s with heap := h', toks := tk' }) → wpAny (model prog w) A (call (.builtin id) [v]) Q E s)
    (he : starEach [e] Γ.env = (false, eval e Γ.env) :: starEach [] Γ.env := by rfl) :
    Ev prog w Γ A M W σ ω (.Call (.Name x p) [e] [] pos) d := by
  intro s Q E H h
  rw [eval_CallName]
  refine wpAny_bind (hf s _ E H fun v h₁ tk₁ k₁ r₁ => ?_)
  cases r₁
  have H₁ := H.stays k₁
  refine callWith_builtin1 (wpAny_items_cons (a _ _ E H₁ fun v h₂ tk₂ k₂ r₂ => wpAny_items_nil ?_) he) he rfl
  exact c _ v Q E (H₁.stays k₂) r₂ fun u h₃ tk₃ k₃ r₃ => h u h₃ tk₃ ((k₁.trans k₂).trans k₃) r₃
theorem Ev.callT1 {x : Str} {p : Pos} {id : String} {e : Expr} {d₀ d : D} {pos : Pos} (hf : Ev prog w Γ A M W σ ω (.Name x p) (.val (.type id))) (a : Ev prog w Γ A M W σ ω e d₀)
    (c : ∀ (s : Shared) (v : Value) (Q : Value → Shared → Prop) (E : Value → Shared → Prop), Hx Γ M W σ ω s.heap → Rd W s.heap d₀ v → (∀ u h' tk', Stays s.heap h' → Rd W h' d u → Q u { s with heap := h', toks := tk' }) → wpAny (model prog w) A (call (.type id) [v]) Q E s)
    (he : starEach [e] Γ.env = (false, eval e Γ.env) :: starEach [] Γ.env := by rfl) :
    Ev prog w Γ A M W σ ω (.Call (.Name x p) [e] [] pos) d := by
  intro s Q E H h
  rw [eval_CallName]
  refine wpAny_bind (hf s _ E H fun v h₁ tk₁ k₁ r₁ => ?_)
  cases r₁
  have H₁ := H.stays k₁
  refine PyProof.Rows.callWith_type1 (wpAny_items_cons (a _ _ E H₁ fun v h₂ tk₂ k₂ r₂ => wpAny_items_nil ?_) he) he rfl
  exact c _ v Q E (H₁.stays k₂) r₂ fun u h₃ tk₃ k₃ r₃ => h u h₃ tk₃ ((k₁.trans k₂).trans k₃) r₃

theorem Ev.len {x : Str} {p : Pos} {e : Expr} {d : D} {ds : List D} {pos : Pos} (hf : Ev prog w Γ A M W σ ω (.Name x p) (.val (.builtin "len"))) (a : Ev prog w Γ A M W σ ω e d) (k : DL ω d ds) (hz : ds.length < 2 ^ 62)
    (he : starEach [e] Γ.env = (false, eval e Γ.env) :: starEach [] Γ.env := by rfl) : Ev prog w Γ A M W σ ω (.Call (.Name x p) [e] [] pos) (.int ds.length) := by
  refine Ev.callB1 hf a (fun s v Q E H r h => ?_) he
  obtain ⟨l, vs, n, rfl, q, p⟩ := k.at H r
  refine call_len_list (listAt q) (by rw [List.size_toArray, p.length]; omega) ?_
  rw [List.size_toArray, p.length]
  exact h _ s.heap _ (Stays.refl _) (.int _ _)

theorem Ev.item {x i : Expr} {pos : Pos} {d r : D} {ds : List D} {k : Int} (a : Ev prog w Γ A M W σ ω x d) (q : DL ω d ds) (b : Ev prog w Γ A M W σ ω i (.int k)) (h0 : 0 ≤ k) (hk : ds[k.toNat]? = some r)
    (hs : ∀ l t, subscripted i false (.ref l) (.int k t) = operate [.ref l, .int k t] (getItem (.ref l) (.int k t)) := by intro _ _; with_unfolding_all rfl) (hz : ds.length < 2 ^ 62 := by first | decide | simp) : Ev prog w Γ A M W σ ω (.Subscript x i pos) r := by
  intro s Q E H h
  refine Subscript_ (a s _ E H fun v h₁ tk₁ k₁ r₁ => b _ _ E (H.stays k₁) fun u h₂ tk₂ k₂ r₂ => ?_)
  obtain ⟨l, vs, n, rfl, e, p⟩ := (q.at (H.stays k₁) r₁).stays k₂
  cases r₂
  obtain ⟨y, hy, ry⟩ := p.at hk
  have hl : k.toNat < ds.length := by
    rcases Nat.lt_or_ge k.toNat ds.length with h | h
    · exact h
    · rw [List.getElem?_eq_none h] at hk; cases hk
  exact tail_any (s := { s with heap := h₂, toks := tk₂ }) (listAt e).typeIs slot_list_getitem.lookup (wpAny_getItem_list (listAt e) h0 (by omega) (by simpa using hy) (h y h₂ tk₂ (k₁.trans k₂) ry)) (hs l _)

theorem Es.of {e : Expr} {d : D} (a : Ev prog w Γ A M W σ ω e d) (he : starEach [e] Γ.env = (false, eval e Γ.env) :: starEach [] Γ.env := by rfl) : Es prog w Γ A M W σ ω [e] [d] := Es.cons a Es.nil he

/-- a part of a slice -/
noncomputable def Pt (prog : Program) (w : World) (Γ : Cx) (A : Around) (M W : Forb) (σ : List (Option D)) (ω : Owns) (e : Option Expr) (k : Option Nat) : Prop := match e, k with
  | none, none => True
  | some e, some k => Ev prog w Γ A M W σ ω e (.int k)
  | _, _ => False
noncomputable def lcut {α : Type} (l : List α) : Option Nat → Option Nat → List α
  | none, none => l
  | some a, none => l.drop a
  | none, some b => l.take b
  | some a, some b => (l.drop a).take (b - a)
theorem RdL.cut {W : Forb} {h : Heap} {ds : List D} {vs : List Value} (r : RdL W h ds vs) : ∀ a b : Option Nat, RdL W h (lcut ds a b) (lcut vs a b)
  | none, none => r
  | some a, none => r.drop a
  | none, some b => r.take b
  | some a, some b => (r.drop a).take _

theorem pick_cut (vs : List Value) : ∀ (a b : Option Nat), (∀ x y, a = some x → b = some y → x ≤ y ∧ y ≤ vs.length) → slicePick vs.toArray (a.map Int.ofNat) (b.map Int.ofNat) none = (lcut vs a b).toArray
  | none, none, _ => slicePick_all _
  | some a, none, _ => slicePick_from' _ a
  | none, some b, _ => slicePick_upto' _ b
  | some a, some b, h => by
    obtain ⟨h1, h2⟩ := h a b rfl rfl
    exact slicePick_run _ a b (by simpa using h2) h1

theorem part_ev {e : Option Expr} {k : Option Nat} (a : Pt prog w Γ A M W σ ω e k) (s : Shared) (Q : Value → Shared → Prop) (E : Value → Shared → Prop) (H : Hx Γ M W σ ω s.heap)
    (h : ∀ v h' tk', Stays s.heap h' → IsPart v (k.map Int.ofNat) → Q v { s with heap := h', toks := tk' }) : wpAny (model prog w) A (valueOrNone (evalOpt e Γ.env)) Q E s := by
  cases e with
  | none => cases k with
    | none => exact wpAny_pure (h _ s.heap s.toks (Stays.refl _) .none)
    | some k => exact a.elim
  | some e => cases k with
    | none => exact a.elim
    | some k =>
      show wpAny _ _ (eval e Γ.env) _ _ _
      refine a s Q E H fun v h' tk' st r => ?_
      cases r
      exact h _ h' tk' st (.int _ _)

theorem eval_Slice2 (l u : Option Expr) (pos : Pos) (env : Env) : eval (.Slice l u none pos) env = (do
    let l ← valueOrNone (evalOpt l env)
    let u ← holding [l] (valueOrNone (evalOpt u env))
    let s ← holding [l, u] (valueOrNone (evalOpt none env))
    newFields "slice" [l, u, s]) := rfl

/-- a piece of a list -/
theorem EvF.cut {x : Expr} {lo hi : Option Expr} {pos spos : Pos} {d : D} {ds : List D} {a b : Option Nat} (e : Ev prog w Γ A M W σ ω x d) (q : DL ω d ds) (pa : Pt prog w Γ A M W σ ω lo a) (pb : Pt prog w Γ A M W σ ω hi b)
    (hab : ∀ x y, a = some x → b = some y → x ≤ y ∧ y ≤ ds.length) (hz : ds.length ≤ 1000000) : EvF prog w Γ A M W σ ω (.Subscript x (.Slice lo hi none spos) pos) (lcut ds a b) := by
  intro s Q E H h
  refine Subscript_ (e s _ E H fun v h₁ tk₁ k₁ r₁ => ?_)
  have H₁ := H.stays k₁
  rw [eval_Slice2]
  refine wpAny_bind (part_ev pa _ _ E H₁ fun l h₂ tk₂ k₂ p₂ => wpAny_bind (wpAny_holding (part_ev pb _ _ E (H₁.stays k₂) fun u h₃ tk₃ k₃ p₃ => ?_)))
  have H₃ := (H₁.stays k₂).stays k₃
  obtain ⟨a₀, vs, n, rfl, e₀, p₀⟩ := ((q.at H₁ r₁).stays k₂).stays k₃
  refine wpAny_bind (wpAny_holding (wpAny_pure (wpAny_newObj_type ?_)))
  refine tail_any (T := "list") (Heap.IsList.typeIs (s := { s with heap := h₃.push { cls := .type "slice", data := .fields #[l, u, .none] }, toks := tk₃ }) ((listAt e₀).push _)) list_getitem_lookup
    (wpAny_getItem_list_slice (s := { s with heap := h₃.push { cls := .type "slice", data := .fields #[l, u, .none] }, toks := tk₃ }) ((listAt e₀).push _) (Heap.IsSliceOf.new ..) p₂ p₃ .none (by simp) ?_ (by rw [List.size_toArray, p₀.length, sizeLine_eq]; omega)) (by with_unfolding_all rfl)
  have hf := get?_size (h₃.push { cls := .type "slice", data := .fields #[l, u, .none] })
  have st : Stays s.heap (h₃.push { cls := .type "slice", data := .fields #[l, u, .none] }) := ((k₁.trans k₂).trans k₃).trans (Stays.push _ _)
  rw [pick_cut vs a b fun x y e₁ e₂ => by rw [p₀.length]; exact hab x y e₁ e₂]
  exact h _ (lcut vs a b) 0 _ _ (st.trans (Stays.push _ _)) (fresh_back st hf) (Heap.get?_push_size _ rfl) (((p₀.cut a b).stays (Stays.push _ _)).sub (Sub.grow (Stays.push _ _) hf))
end

end Mine

-- L7
namespace Mine
open PySem PySem.Spec PySem.Calls PyProof.Rows PySem.W

section
variable {Γ : Cx} {M W W' : Forb} {σ σ' : List (Option D)} {ω ω' : Owns} {h h' : Heap}

/-- a new object that no tree leans on -/
theorem Hx.wide {I : Addr} (H : Hx Γ M W σ ω h) (k : Stays h h') (hn : h.get? I = none) (hl : ∃ o, h'.get? I = some o) : Hx Γ M (fun b => b = I ∨ W b) σ ω h' := by
  have S := Sub.grow (W := W) k hn
  obtain ⟨m, hm, hv⟩ := H.vars
  refine ⟨H.base.trans k, H.new, ⟨m, hm.keeps k, hv.move S fun p _ u e => ?_⟩, fun x b hb => ?_, fun p hp => (H.own p hp).move S fun o => k _ o, H.ownM, H.ownL, H.ownC, H.ownN, H.locM, fun x b hb => .inr (H.celW x b hb), fun b hb => .inr (H.MW b hb), fun b hb => ?_⟩
  · obtain ⟨y, l⟩ := p
    cases l with
    | none => exact e
    | some b => exact IsCell.st (fun o => k b o) e
  · obtain ⟨v, c⟩ := H.cells x b hb
    exact ⟨v, c.keeps k⟩
  · rcases hb with rfl | hb
    · exact hl
    · obtain ⟨o, e⟩ := H.live b hb
      exact ⟨o, k _ _ e⟩

/-- fewer addresses barred -/
theorem Hx.weak (H : Hx Γ M W' σ ω h) (hW : ∀ b, W b → W' b) (hM : ∀ b, M b → W b) (hc : ∀ x a, (x, some a) ∈ Γ.slots → W a) : Hx Γ M W σ ω h := by
  have S : Sub W' h W h := fun b o e wb => ⟨fun x => wb (hW b x), e⟩
  obtain ⟨m, hm, hv⟩ := H.vars
  exact ⟨H.base, H.new, ⟨m, hm, hv.move S fun _ _ _ e => e⟩, H.cells, fun p hp => (H.own p hp).move S fun _ e => e, H.ownM, H.ownL, H.ownC, H.ownN, H.locM, hc, hM, fun b hb => H.live b (hW b hb)⟩

/-- an iterator goes on -/
theorem Hx.step {I : Addr} (H : Hx Γ M W σ ω h) (hW : W I) (hM : ¬ M I) (hc : ∀ x, (x, some I) ∉ Γ.slots) (hb : Γ.hb.get? I = none) (k : ∀ b o, b ≠ I → h.get? b = some o → h'.get? b = some o) (hl : ∃ o, h'.get? I = some o) :
    Hx Γ M W σ ω h' := by
  have S : Sub W h W h' := fun b o e wb => ⟨wb, k b o (fun q => wb (q ▸ hW)) e⟩
  obtain ⟨m, hm, hv⟩ := H.vars
  have kM : ∀ b, M b → ∀ o, h.get? b = some o → h'.get? b = some o := fun b hb o => k b o fun q => hM (q ▸ hb)
  refine ⟨fun b o e => k b o (fun q => by rw [q, hb] at e; cases e) (H.base b o e), H.new, ⟨m, hm.at' fun o => kM _ H.locM o, hv.move S fun p hp u e => ?_⟩, fun x b hb' => ?_, fun p hp => (H.own p hp).move S fun o => kM _ (H.ownM p hp) o, H.ownM, H.ownL, H.ownC, H.ownN, H.locM, H.celW, H.MW, fun b hb' => ?_⟩
  · obtain ⟨y, l⟩ := p
    cases l with
    | none => exact e
    | some b => exact IsCell.st (fun o => k b o fun q => hc y (q ▸ hp)) e
  · obtain ⟨v, c⟩ := H.cells x b hb'
    exact ⟨v, IsCell.st (fun o => k b o fun q => hc x (q ▸ hb')) c⟩
  · by_cases q : b = I
    · subst q; exact hl
    · obtain ⟨o, e⟩ := H.live b hb'
      exact ⟨o, k b o q e⟩
/-- an iterator is done -/
theorem Hx.stepEnd {I : Addr} (H : Hx Γ M W σ ω h) (hW : W I) (hM : ¬ M I) (hc : ∀ x, (x, some I) ∉ Γ.slots) (hb : Γ.hb.get? I = none) (k : ∀ b o, b ≠ I → h.get? b = some o → h'.get? b = some o) :
    Hx Γ M (fun b => W b ∧ b ≠ I) σ ω h' := by
  have S : Sub W h (fun b => W b ∧ b ≠ I) h' := fun b o e wb => ⟨fun x => wb x.1, k b o (fun q => wb (q ▸ hW)) e⟩
  obtain ⟨m, hm, hv⟩ := H.vars
  have kM : ∀ b, M b → ∀ o, h.get? b = some o → h'.get? b = some o := fun b hb o => k b o fun q => hM (q ▸ hb)
  refine ⟨fun b o e => k b o (fun q => by rw [q, hb] at e; cases e) (H.base b o e), H.new, ⟨m, hm.at' fun o => kM _ H.locM o, hv.move S fun p hp u e => ?_⟩, fun x b hb' => ?_, fun p hp => (H.own p hp).move S fun o => kM _ (H.ownM p hp) o, H.ownM, H.ownL, H.ownC, H.ownN, H.locM, fun x b hb' => ⟨H.celW x b hb', fun q => hc x (q ▸ hb')⟩, fun b hb' => ⟨H.MW b hb', fun q => hM (q ▸ hb')⟩, fun b hb' => ?_⟩
  · obtain ⟨y, l⟩ := p
    cases l with
    | none => exact e
    | some b => exact IsCell.st (fun o => k b o fun q => hc y (q ▸ hp)) e
  · obtain ⟨v, c⟩ := H.cells x b hb'
    exact ⟨v, IsCell.st (fun o => k b o fun q => hc x (q ▸ hb')) c⟩
  · obtain ⟨o, e⟩ := H.live b hb'.1
    exact ⟨o, k b o hb'.2 e⟩
end

section
variable {prog : Program} {w : World} {A : Around} {Γ : Cx} {M W : Forb} {σ σ' : List (Option D)} {ω ω' : Owns}

/-- an iterator that gives ds -/
structure Itr (prog : Program) (w : World) (W : Forb) (I : Addr) (ds : List D) (h : Heap) (fp : List Addr) (P : Nat → Value → Prop) (St : Nat → Heap → Prop) : Prop where
  walks : ∀ A' : Around, A'.handled = none → Walks prog w A' I fp [I] ds.length P St
  st : St 0 h
  live : ∀ i h, St i h → ∃ o, h.get? I = some o
  fpo : ∀ b ∈ fp, b = I ∨ ((∃ o, h.get? b = some o) ∧ ¬ W b)
  item : ∀ i v, P i v → ∃ d, ds[i]? = some d ∧ Rd (fun b => b = I ∨ W b) h d v
  quiet : ∀ (i : Nat) (target : Expr) (v : Value) (A' : Around) (s : Shared) (Q : Unit → Shared → Prop) (E : Value → Shared → Prop), P i v → St (i + 1) s.heap → Q () s → wpAny (model prog w) A' (letOwnedTupleGo target (.ref I) v) Q E s

/-- an expression to go through -/
noncomputable def It (prog : Program) (w : World) (Γ : Cx) (A : Around) (M W : Forb) (σ : List (Option D)) (ω : Owns) (e : Expr) (ds : List D) : Prop :=
  ∀ (s : Shared) (Q : Value → Shared → Prop) (E : Value → Shared → Prop), Hx Γ M W σ ω s.heap →
    (∀ I h' tk' fp P St, Stays s.heap h' → s.heap.get? I = none → Itr prog w W I ds h' fp P St → Q (.ref I) { s with heap := h', toks := tk' }) →
    wpAny (model prog w) A (eval e Γ.env) (fun v s₁ => wpAny (model prog w) A (pyIter v) Q E s₁) E s

theorem It.list {e : Expr} {ds : List D} (a : Ev prog w Γ A M W σ ω e (.list ds)) : It prog w Γ A M W σ ω e ds := by
  intro s Q E H h
  refine a s _ E H fun v h₁ tk₁ k₁ r₁ => ?_
  cases r₁ with
  | @list a vs n _ q hw p =>
    have hne : a ≠ h₁.objs.size := fun x => by rw [x, get?_size] at q; cases q
    have hl : ds.length = vs.toArray.size := by rw [List.size_toArray, p.length]
    refine wpAny_pyIter_list (s := { s with heap := h₁, toks := tk₁ }) (listAt q) (h h₁.objs.size _ tk₁ [h₁.objs.size, a] (fun i v => vs.toArray[i]? = some v) (fun i h => h.IsListIter h₁.objs.size a i ∧ h.IsList a vs.toArray) (k₁.trans (Stays.push _ _)) (fresh_back k₁ (get?_size h₁)) ?_)
    refine ⟨fun A' hh => hl ▸ Walks.list hh _ a hne vs.toArray, ⟨⟨_, Heap.get?_push_size _ rfl, rfl, rfl⟩, (listAt q).push _⟩, fun i h st => let ⟨o, e, _⟩ := st.1; ⟨o, e⟩, fun b hb => ?_, fun i v e => ?_, fun i target v A' s Q E _ st hq => letGo_listiter st.1 hq⟩
    · rcases List.mem_cons.mp hb with rfl | hb
      · exact .inl rfl
      · rw [List.mem_singleton.mp hb]
        exact .inr ⟨⟨_, Stays.push _ _ _ _ q⟩, hw⟩
    · obtain ⟨d, e', r⟩ := p.get (by simpa using e)
      exact ⟨d, e', r.sub (Sub.grow (Stays.push _ _) (get?_size _))⟩

theorem letGo_int {target : Expr} {I : Addr} {i : Int} {t : Tok} {s : Shared} {Q : Unit → Shared → Prop} {E : Value → Shared → Prop} (h : Q () s) : wpAny (model prog w) A (letOwnedTupleGo target (.ref I) (.int i t)) Q E s := by
  unfold letOwnedTupleGo
  cases target <;> exact wpAny_pure h
theorem letGo_str {target : Expr} {I : Addr} {i : Str} {t : Tok} {s : Shared} {Q : Unit → Shared → Prop} {E : Value → Shared → Prop} (h : Q () s) : wpAny (model prog w) A (letOwnedTupleGo target (.ref I) (.str i t)) Q E s := by
  unfold letOwnedTupleGo
  cases target <;> exact wpAny_pure h

/-- the zspan from a on, below b -/
noncomputable def zspan (a b : Int) : List Int := (List.range (b - a).toNat).map fun (i : Nat) => a + (i : Int)

theorem range_itr {W : Forb} {h : Heap} {a b : Int} {I : Addr} (hs : Builtin.Range.rangeSize a b 1 = ((b - a).toNat : Int)) (e : IsRangeIter h I a (Builtin.Range.rangeSize a b 1) 1) :
    Itr prog w W I ((zspan a b).map .int) h [I] (fun i v => i < (b - a).toNat ∧ ∃ t, v = .int (a + i * 1) t) (fun i h => IsRangeIter h I (a + (i : Nat) * 1) (((b - a).toNat : Int) - (i : Nat)) 1) := by
  have hl : ((zspan a b).map D.int).length = (b - a).toNat := by simp [zspan]
  refine ⟨fun A' hh => ?_, ?_, fun i h st => ⟨_, st⟩, fun b hb => .inl (by simpa using hb), fun i v ⟨hi, t, ev⟩ => ?_, fun i target v A' s Q E ⟨_, t, ev⟩ st hq => ev ▸ letGo_int hq⟩
  · rw [hl]
    have W := Walks.range (prog := prog) (w := w) hh I a 1 (b - a).toNat
    exact ⟨W.sub, W.frame, fun i s Q E hi st q => W.item i s Q E hi st fun v h' tk p => q v h' tk ⟨hi, p⟩, W.done, W.self⟩
  · rw [hs] at e
    simpa using e
  · subst ev
    refine ⟨.int (a + i), by simp [zspan, hi], ?_⟩
    have : a + (i : Int) * 1 = a + i := by omega
    rw [this]; exact .int _ _

theorem size_ints (a b : Int) : Builtin.Range.rangeSize a b 1 = ((b - a).toNat : Int) := by rw [rangeSize_one]; split <;> omega

theorem It.range1 {p pos : Pos} {e : Expr} {b : Int} (hf : Ev prog w Γ A M W σ ω (.Name "range" p) (.val (.type "range"))) (a : Ev prog w Γ A M W σ ω e (.int b)) (h1 : -(2 ^ 62) ≤ b) (h2 : b < 2 ^ 62)
    (he : starEach [e] Γ.env = (false, eval e Γ.env) :: starEach [] Γ.env := by rfl) : It prog w Γ A M W σ ω (.Call (.Name "range" p) [e] [] pos) ((zspan 0 b).map .int) := by
  intro s Q E H h
  rw [eval_CallName]
  refine wpAny_bind (hf s _ E H fun v h₁ tk₁ k₁ r₁ => ?_)
  cases r₁
  have H₁ := H.stays k₁
  refine PyProof.Rows.callWith_type1 (wpAny_items_cons (a _ _ E H₁ fun v h₂ tk₂ k₂ r₂ => wpAny_items_nil ?_) he) he rfl
  cases r₂ with
  | int i t =>
    refine call_range_1 ?_
    refine wpAny_pyIter_range (IsRange.new ..) (small_one (by decide) (by decide) h1 h2) ?_
    refine h _ _ _ [_] _ _ (((k₁.trans k₂).trans (Stays.push _ _)).trans (Stays.push _ _)) (fresh_back ((k₁.trans k₂).trans (Stays.push _ _)) (get?_size _)) (range_itr (size_ints 0 b) (Heap.get?_push_size _ rfl))
theorem It.range2 {p pos : Pos} {e e' : Expr} {x b : Int} (hf : Ev prog w Γ A M W σ ω (.Name "range" p) (.val (.type "range"))) (a' : Ev prog w Γ A M W σ ω e (.int x)) (a : Ev prog w Γ A M W σ ω e' (.int b)) (h0 : -(2 ^ 62) ≤ x) (h0' : x < 2 ^ 62) (h1 : -(2 ^ 62) ≤ b) (h2 : b < 2 ^ 62)
    (he' : starEach [e, e'] Γ.env = (false, eval e Γ.env) :: starEach [e'] Γ.env := by rfl) (he : starEach [e'] Γ.env = (false, eval e' Γ.env) :: starEach [] Γ.env := by rfl) (hst : ∀ pos : Pos, (backTo pos (starEach [e'] Γ.env)).any (·.1) = false := by intro _; rfl) :
    It prog w Γ A M W σ ω (.Call (.Name "range" p) [e, e'] [] pos) ((zspan x b).map .int) := by
  intro s Q E H h
  rw [eval_CallName]
  refine wpAny_bind (hf s _ E H fun v h₁ tk₁ k₁ r₁ => ?_)
  cases r₁
  have H₁ := H.stays k₁
  refine PyProof.Rows.callWith_type1 (wpAny_items_cons (a' _ _ E H₁ fun v h₂ tk₂ k₂ r₂ => wpAny_items_cons (a _ _ E (H₁.stays k₂) fun u h₃ tk₃ k₃ r₃ => wpAny_items_nil ?_) he) he') he' (hst pos)
  cases r₂ with
  | int i t => cases r₃ with
    | int i' t' =>
      refine call_range_2 ?_
      refine wpAny_pyIter_range (IsRange.new ..) (small_one h0 h0' h1 h2) ?_
      refine h _ _ _ [_] _ _ ((((k₁.trans k₂).trans k₃).trans (Stays.push _ _)).trans (Stays.push _ _)) (fresh_back (((k₁.trans k₂).trans k₃).trans (Stays.push _ _)) (get?_size _)) (range_itr (size_ints x b) (Heap.get?_push_size _ rfl))

/-- the signs of a text -/
noncomputable def signs (x : Str) : List D := x.cps.toList.map fun c => .str ⟨#[c]⟩
theorem It.str {e : Expr} {x : Str} (a : Ev prog w Γ A M W σ ω e (.str x)) : It prog w Γ A M W σ ω e (signs x) := by
  intro s Q E H h
  refine a s _ E H fun v h₁ tk₁ k₁ r₁ => ?_
  cases r₁ with
  | str _ t =>
    have hl : (signs x).length = x.cps.size := by simp [signs]
    have it : ∀ (i : Nat) (v : Value), SignAt x i v → ∃ d, (signs x)[i]? = some d ∧ Rd (fun b => b = h₁.objs.size ∨ W b) (h₁.push { cls := .type (strIterType x), data := .fields #[.str x t, .int 0 0] }) d v := fun i v ⟨c, u, e, ev⟩ => ⟨.str ⟨#[c]⟩, by simp [signs]; exact e, by rw [ev]; exact .str _ _⟩
    refine wpAny_pyIter_strU (h h₁.objs.size _ tk₁ [h₁.objs.size] (SignAt x) (fun i h => h.IsStrIter h₁.objs.size (strIterType x) x t i) (k₁.trans (Stays.push _ _)) (fresh_back k₁ (get?_size h₁)) ⟨fun A' hh => ?_, ⟨_, Heap.get?_push_size _ rfl, rfl, rfl⟩, fun i h st => let ⟨o, e, _⟩ := st; ⟨o, e⟩, fun b hb => .inl (by simpa using hb), it, fun i target v A' s Q E ⟨_, _, _, ev⟩ st hq => ev ▸ letGo_str hq⟩)
    rw [hl]
    unfold strIterType
    split
    · exact Walks.strAscii hh _ x t
    · exact Walks.strWide hh _ x t
end

end Mine

-- L8
namespace Mine
open PySem PySem.Spec PySem.Calls PyProof.Rows PySem.W

/-- more own objects, all new -/
structure Grw (h : Heap) (M W M' W' : Forb) : Prop where
  m1 : ∀ b, M b → M' b
  m2 : ∀ b, M' b → M b ∨ h.get? b = none
  w1 : ∀ b, W b → W' b
  w2 : ∀ b, W' b → W b ∨ h.get? b = none
theorem Grw.refl (h : Heap) (M W : Forb) : Grw h M W M W := ⟨fun _ x => x, fun _ x => .inl x, fun _ x => x, fun _ x => .inl x⟩

section
variable {prog : Program} {w : World} {A : Around} {Γ : Cx} {M W : Forb} {σ σ' : List (Option D)} {ω ω' : Owns} {R : Flow → Heap → Prop}

/-- a target takes a value -/
noncomputable def Tg (prog : Program) (w : World) (Γ : Cx) (A : Around) (M W : Forb) (σ : List (Option D)) (ω : Owns) (t : Expr) (d : D) (σ' : List (Option D)) : Prop :=
  ∀ (s : Shared) (v : Value) (Q : Unit → Shared → Prop) (E : Value → Shared → Prop), Hx Γ M W σ ω s.heap → Rd W s.heap d v →
    (∀ h' tk', Kp M s.heap h' → Hx Γ M W σ' ω h' → Q () { s with heap := h', toks := tk' }) → wpAny (model prog w) A (assign t Γ.env v) Q E s
theorem Tg.name {x : Str} {p : Pos} {l : Option Addr} {d : D} (O : Γ.Ok) (V : VarSet Γ.slots σ x l d σ') (hM : ∀ a, l = some a → M a) : Tg prog w Γ A M W σ ω (.Name x p) d σ' :=
  fun _ _ _ _ H r q => wpAny_assign_Name (store_name O H hM V r q)

theorem X1.forG {target iter : Expr} {body : List Stmt} {pos : Pos} {ds : List D} {h₀ : Heap} (hh : A.handled = none) (it : It prog w Γ A M W σ ω iter ds)
    (J : Nat → Forb → List (Option D) → Owns → Prop) (h0 : J 0 M σ ω)
    (hb : ∀ M' W', (∀ b, M b → M' b) → (∀ b, W b → W' b) → (∀ b, M' b → M b ∨ h₀.get? b = none) → ∀ i d σ₁ ω₁, ds[i]? = some d → J i M' σ₁ ω₁ → ∃ σ₂, Tg prog w Γ A M' W' σ₁ ω₁ target d σ₂ ∧
      ∀ h₂, Kp M h₀ h₂ → Xs prog w Γ A (fun h => h = h₂ ∧ Hx Γ M' W' σ₂ ω₁ h) M' body (fun f h => match f with
        | .next | .cont => ∃ M'' W'' σ₃ ω₃, Grw h₂ M' W' M'' W'' ∧ J (i + 1) M'' σ₃ ω₃ ∧ Hx Γ M'' W'' σ₃ ω₃ h
        | .brk => R .next h
        | .ret v => R (.ret v) h))
    (hend : ∀ hp M' W' σ' ω', Grw h₀ M W M' W' → J ds.length M' σ' ω' → Hx Γ M' W' σ' ω' hp → R .next hp)
    (hs : ∀ x, foldedSetIterable iter Γ.env x = pure x := by intro _; rfl) :
    X1 prog w Γ A (fun h => h = h₀ ∧ Hx Γ M W σ ω h) M (.For target iter body [] pos) R := by
  intro s Q E ⟨hs₀, H⟩ q
  refine wpAny_For (it s _ E H fun I h₁ tk₁ fp P St k₁ hI X => ?_) hs
  have hIl := X.live 0 _ X.st
  have hMI : ¬ M I := fun x => H.fresh hI (H.MW _ x)
  have hcI : ∀ x, (x, some I) ∉ Γ.slots := fun x hx => by obtain ⟨v, o, e, _⟩ := H.cells x I hx; rw [hI] at e; cases e
  have hbI : Γ.hb.get? I = none := fresh_back H.base hI
  have Wk := X.walks A hh
  refine codeAny_forLoop_any (fun n s' => ∃ i h' tk' M' W' σ' ω', s' = { s with heap := h', toks := tk' } ∧ n = ds.length + 1 - i ∧ i ≤ ds.length ∧ St i h' ∧ Grw h₁ M (fun b => b = I ∨ W b) M' W' ∧ J i M' σ' ω' ∧ Hx Γ M' W' σ' ω' h' ∧
    (∀ b o, h₁.get? b = some o → ¬ M b → b ≠ I → h'.get? b = some o)) ?_ (ds.length + 1)
    ⟨0, h₁, tk₁, M, _, σ, ω, rfl, rfl, Nat.zero_le _, X.st, Grw.refl _ _ _, h0, H.wide k₁ hI hIl, fun _ _ e _ _ => e⟩
  rintro n s' ⟨i, h', tk', M', W', σ', ω', rfl, rfl, hi, st, G, hJ, H', kp⟩
  have hM'I : ¬ M' I := fun x => (G.m2 _ x).elim hMI fun e => by obtain ⟨o, e'⟩ := hIl; rw [e] at e'; cases e'
  have hW'I : W' I := G.w1 _ (.inl rfl)
  have keep : ∀ b o, s.heap.get? b = some o → ¬ M b → h'.get? b = some o := fun b o e hm => kp b o (k₁ b o e) hm fun x => by rw [x, hI] at e; cases e
  by_cases hlt : i < ds.length
  · refine Wk.item i _ _ _ hlt st fun v h₂ tk₂ hP st₂ k₂ => ?_
    have k₂' : ∀ b o, b ≠ I → h'.get? b = some o → h₂.get? b = some o := fun b o hb => k₂ b o (by simpa using hb)
    have H₂ := H'.step hW'I hM'I hcI hbI k₂' (X.live _ _ st₂)
    refine X.quiet i target v A _ _ _ hP st₂ ?_
    obtain ⟨d, hd, r⟩ := X.item i v hP
    have S : Sub (fun b => b = I ∨ W b) h₁ W' h₂ := fun b o e wb =>
      ⟨fun x => (G.w2 b x).elim wb fun n => (by rw [e] at n; cases n), k₂' b o (fun x => wb (.inl x)) (kp b o e (fun x => wb (.inr (H.MW b x))) fun x => wb (.inl x))⟩
    obtain ⟨σ₂, T, B⟩ := hb M' W' G.m1 (fun b x => G.w1 b (.inr x)) (fun b x => (G.m2 b x).imp id fun e => hs₀ ▸ fresh_back k₁ e) i d σ' ω' hd hJ
    refine T _ v _ _ H₂ (r.sub S) fun h₃ tk₃ k₃ H₃ => ?_
    have kpQ : Kp M h₀ h₃ := fun b o e hm => by
      have e : s.heap.get? b = some o := hs₀ ▸ e
      have hbI : b ≠ I := fun x => by rw [x, hI] at e; cases e
      have hm' : ¬ M' b := fun x => (G.m2 b x).elim hm fun n => by rw [k₁ b o e] at n; cases n
      exact k₃ b o (k₂' b o hbI (kp b o (k₁ b o e) hm hbI)) hm'
    refine B h₃ kpQ _ _ _ ⟨rfl, H₃⟩ fun f h₄ tk₄ k₄ r₄ => ?_
    have keep₄ : ∀ b o, h₁.get? b = some o → ¬ M b → b ≠ I → h₃.get? b = some o ∧ h₄.get? b = some o := fun b o e hm hbI => by
      have hm' : ¬ M' b := fun x => (G.m2 b x).elim hm fun n => by rw [e] at n; cases n
      have e₃ := k₃ b o (k₂' b o hbI (kp b o e hm hbI)) hm'
      exact ⟨e₃, k₄ b o e₃ hm'⟩
    have keepQ : Kp M s.heap h₄ := fun b o e hm => (keep₄ b o (k₁ b o e) hm fun x => by rw [x, hI] at e; cases e).2
    have nextq : (∃ M'' W'' σ₃ ω₃, Grw h₃ M' W' M'' W'' ∧ J (i + 1) M'' σ₃ ω₃ ∧ Hx Γ M'' W'' σ₃ ω₃ h₄) → ∃ m, m < ds.length + 1 - i ∧ ∃ i' h' tk' M' W' σ' ω', ({ s with heap := h₄, toks := tk₄ } : Shared) = { s with heap := h', toks := tk' } ∧ m = ds.length + 1 - i' ∧ i' ≤ ds.length ∧ St i' h' ∧ Grw h₁ M (fun b => b = I ∨ W b) M' W' ∧ J i' M' σ' ω' ∧ Hx Γ M' W' σ' ω' h' ∧ (∀ b o, h₁.get? b = some o → ¬ M b → b ≠ I → h'.get? b = some o) := by
      rintro ⟨M'', W'', σ₃, ω₃, G₄, hJ₄, H₄⟩
      have stI : ∀ b, b = I ∨ ((∃ o, h₁.get? b = some o) ∧ ¬ W b) → ∀ o, h₂.get? b = some o → h₄.get? b = some o := fun b hb o e => by
        have hm' : ¬ M' b := by
          rcases hb with rfl | ⟨⟨o', e'⟩, hw⟩
          · exact hM'I
          · exact fun x => (G.m2 b x).elim (fun x => hw (H.MW b x)) fun n => by rw [e'] at n; cases n
        exact k₄ b o (k₃ b o e hm') hm'
      have alive : ∀ b, h₃.get? b = none → ¬ M b → h₁.get? b = none := fun b e hm => by
        cases e₁ : h₁.get? b with
        | none => rfl
        | some o =>
          by_cases q : b = I
          · subst q
            obtain ⟨o', e'⟩ := X.live _ _ st₂
            have := k₃ b o' e' hM'I
            rw [e] at this; cases this
          · have := (keep₄ b o e₁ hm q).1
            rw [e] at this; cases this
      refine ⟨ds.length + 1 - (i + 1), by omega, i + 1, h₄, tk₄, M'', W'', σ₃, ω₃, rfl, rfl, hlt, Wk.frame _ _ _ st₂ fun b hb o e => stI b (X.fpo b hb) o e, ⟨fun b x => G₄.m1 b (G.m1 b x), fun b x => ?_, fun b x => G₄.w1 b (G.w1 b x), fun b x => ?_⟩, hJ₄, H₄, fun b o e hm hbI => (keep₄ b o e hm hbI).2⟩
      · by_cases hm : M b
        · exact .inl hm
        · exact (G₄.m2 b x).elim (G.m2 b) fun e => .inr (alive b e hm)
      · by_cases hm : M b
        · exact .inl (.inr (H.MW b hm))
        · exact (G₄.w2 b x).elim (G.w2 b) fun e => .inr (alive b e hm)
    cases f with
    | next => exact nextq r₄
    | cont => exact nextq r₄
    | brk => exact q _ h₄ tk₄ keepQ r₄
    | ret v => exact q _ h₄ tk₄ keepQ r₄
  · have hin : i = ds.length := by omega
    refine Wk.done _ _ _ (hin ▸ st) fun h₂ tk₂ k₂ => ?_
    have k₂' : ∀ b o, b ≠ I → h'.get? b = some o → h₂.get? b = some o := fun b o hb => k₂ b o (by simpa using hb)
    refine wpAny_execs_nil (q _ h₂ tk₂ (fun b o e hm => k₂' b o (fun x => by rw [x, hI] at e; cases e) (keep b o e hm)) ?_)
    refine hend h₂ M' _ σ' ω' ⟨G.m1, fun b x => (G.m2 b x).imp id fun e => hs₀ ▸ fresh_back k₁ e, fun b x => ⟨G.w1 b (.inr x), fun y => H.fresh hI (y ▸ x)⟩, fun b x => ?_⟩ (hin ▸ hJ) (H'.stepEnd hW'I hM'I hcI hbI k₂')
    exact (G.w2 b x.1).elim (fun y => y.elim (fun y => absurd y x.2) .inl) fun e => .inr (hs₀ ▸ fresh_back k₁ e)

theorem Xs.fix {P : Heap → Prop} {body : List Stmt} (a : ∀ h₀, Xs prog w Γ A (fun h => h = h₀ ∧ P h) M body R) : Xs prog w Γ A P M body R := fun s Q E p q => a s.heap s Q E ⟨rfl, p⟩ q
theorem X1.fix {P : Heap → Prop} {st : Stmt} (a : ∀ h₀, X1 prog w Γ A (fun h => h = h₀ ∧ P h) M st R) : X1 prog w Γ A P M st R := fun s Q E p q => a s.heap s Q E ⟨rfl, p⟩ q

/-- the end of one turn of a loop -/
noncomputable def Turn (J : List (Option D) → Owns → Prop) (Γ : Cx) (M W : Forb) (R : Flow → Heap → Prop) (f : Flow) (h : Heap) : Prop := match f with
  | .next | .cont => ∃ σ ω, J σ ω ∧ Hx Γ M W σ ω h
  | .brk => R .next h
  | .ret v => R (.ret v) h

theorem X1.forIn {target iter : Expr} {body : List Stmt} {pos : Pos} {ds : List D} (hh : A.handled = none) (it : It prog w Γ A M W σ ω iter ds)
    (J : Nat → List (Option D) → Owns → Prop) (h0 : J 0 σ ω)
    (hb : ∀ W', (∀ b, W b → W' b) → ∀ i d σ₁ ω₁, ds[i]? = some d → J i σ₁ ω₁ → ∃ σ₂, Tg prog w Γ A M W' σ₁ ω₁ target d σ₂ ∧
      Xs prog w Γ A (Hx Γ M W' σ₂ ω₁) M body (Turn (J (i + 1)) Γ M W' R))
    (hend : ∀ hp σ' ω', J ds.length σ' ω' → Hx Γ M W σ' ω' hp → R .next hp)
    (hs : ∀ x, foldedSetIterable iter Γ.env x = pure x := by intro _; rfl) :
    X1 prog w Γ A (Hx Γ M W σ ω) M (.For target iter body [] pos) R := by
  refine X1.fix fun h₀ s Q E p q => ?_
  have H := p.2
  refine X1.forG (h₀ := h₀) hh it (fun i M' σ ω => M' = M ∧ J i σ ω) ⟨rfl, h0⟩ (fun M' W' _ hW _ i d σ₁ ω₁ hd hJ => ?_) (fun hp M' W' σ' ω' G hJ H' => ?_) hs s Q E p q
  · obtain ⟨rfl, hJ⟩ := hJ
    obtain ⟨σ₂, T, B⟩ := hb W' hW i d σ₁ ω₁ hd hJ
    refine ⟨σ₂, T, fun h₂ _ => (B.pre fun _ x => x.2).mono fun f h r => ?_⟩
    cases f with
    | next => obtain ⟨σ₃, ω₃, a, b⟩ := r; exact ⟨M', W', σ₃, ω₃, Grw.refl _ _ _, ⟨rfl, a⟩, b⟩
    | cont => obtain ⟨σ₃, ω₃, a, b⟩ := r; exact ⟨M', W', σ₃, ω₃, Grw.refl _ _ _, ⟨rfl, a⟩, b⟩
    | brk => exact r
    | ret v => exact r
  · obtain ⟨rfl, hJ⟩ := hJ
    exact hend hp σ' ω' hJ (H'.weak G.w1 H.MW H.celW)
end

end Mine

-- L9
namespace Mine
open PySem PySem.Spec PySem.Calls PyProof.Rows PySem.W

/-- the cells that a comprehension reads -/
inductive Caps : Slots → List (Option D) → Slots → List (Option D) → Prop
  | done {ps : Slots} {ds : List (Option D)} : Caps ps ds [] []
  | skip {p : Str × Option Addr} {ps qs : Slots} {d : Option D} {ds es : List (Option D)} : Caps ps ds qs es → Caps (p :: ps) (d :: ds) qs es
  | keep {x : Str} {a : Addr} {ps qs : Slots} {d : Option D} {ds es : List (Option D)} : Caps ps ds qs es → Caps ((x, some a) :: ps) (d :: ds) ((x, some a) :: qs) (d :: es)

theorem Caps.sub {ps qs : Slots} {ds es : List (Option D)} (C : Caps ps ds qs es) : List.Sublist qs ps := by
  induction C with
  | done => exact List.nil_sublist _
  | skip _ ih => exact .cons _ ih
  | keep _ ih => exact .cons_cons _ ih
theorem Caps.cell {ps qs : Slots} {ds es : List (Option D)} (C : Caps ps ds qs es) : ∀ p ∈ qs, ∃ a, p.2 = some a := by
  induction C with
  | done => intro p hp; cases hp
  | skip _ ih => exact ih
  | keep _ ih =>
    intro p hp
    cases hp with
    | head => exact ⟨_, rfl⟩
    | tail _ h => exact ih p h
theorem Caps.vars {ps qs : Slots} {ds es : List (Option D)} (C : Caps ps ds qs es) {W W' : Forb} {h h' : Heap} {m m' : Str → Option Value} (S : Sub W h W' h') (k : Stays h h') (H : Vars W h m ps ds) : Vars W' h' m' qs es := by
  induction C with
  | done => unfold Vars; trivial
  | @skip p ps qs d ds es _ ih =>
    obtain ⟨x, l⟩ := p
    cases d with
    | none => exact ih H
    | some d => exact ih H.2
  | @keep x a ps qs d ds es _ ih =>
    cases d with
    | none => exact ih H
    | some d => exact ⟨let ⟨v, c, r⟩ := H.1; ⟨v, IsCell.st (fun o => k a o) c, r.sub S⟩, ih H.2⟩

/-- the context of a comprehension -/
noncomputable def compCx (Γ : Cx) (scope : Scope) (cl : List (Str × Addr)) (x : Str) (slots : Slots) (C : Addr) : Cx := ⟨compEnvC scope cl C Γ.env, (x, none) :: slots, Γ.hb⟩

theorem compCx_ok {Γ : Cx} {scope : Scope} {cl : List (Str × Addr)} {x : Str} {slots : Slots} {C : Addr} (O : Γ.Ok) (hkind : scope.kind = .function) (hx : scope.names.lookup x = some .local) (hdx : (x == ("__debug__" : Str)) = false)
    (hsub : List.Sublist slots Γ.slots) (hcl : ∀ p ∈ slots, ∃ a, p.2 = some a) (hcel : ∀ y a, (y, some a) ∈ slots → (relabel scope Γ.env).names.lookup y = some .cell ∧ cl.lookup y = some a) (hxn : x ∉ slots.map (·.1))
    (hC : ∀ y a, (y, some a) ∈ slots → a ≠ C) : (compCx Γ scope cl x slots C).Ok := by
  refine ⟨hkind, O.glob, O.bi, fun y hy => ?_, fun y a hy => ?_, ?_, fun p hp => ?_, ?_, fun y a hy => ?_⟩
  · cases hy with
    | head => exact lookup_relabel_local hx
    | tail _ hy => obtain ⟨a, e⟩ := hcl _ hy; cases e
  · cases hy with
    | tail _ hy => exact hcel y a hy
  · show (x :: slots.map (·.1)).Nodup
    exact List.nodup_cons.mpr ⟨hxn, O.nd.sublist (hsub.map _)⟩
  · cases hp with
    | head => exact hdx
    | tail _ hp => exact O.dbg p (hsub.subset hp)
  · exact List.pairwise_cons.mpr ⟨fun _ _ a e => (nomatch e), O.apart.sublist hsub⟩
  · cases hy with
    | tail _ hy => exact hC y a hy

section
variable {prog : Program} {w : World} {A : Around} {Γ : Cx} {M W : Forb} {σ σ' : List (Option D)} {ω ω' : Owns}

/-- the tests of a clause -/
noncomputable def Tss (prog : Program) (w : World) (Γ : Cx) (A : Around) (M W : Forb) (σ : List (Option D)) (ω : Owns) (ifs : List Expr) (b : Bool) : Prop :=
  ∀ (s : Shared) (Q : Bool → Shared → Prop) (E : Value → Shared → Prop), Hx Γ M W σ ω s.heap → (∀ h' tk', Stays s.heap h' → Q b { s with heap := h', toks := tk' }) →
    wpAny (model prog w) A (forIn ifs true fun c r => if r = true then do let ok ← isTrue c Γ.env (eval c Γ.env); pure (ForInStep.yield ok) else pure (ForInStep.yield r)) Q E s
theorem Tss.nil : Tss prog w Γ A M W σ ω [] true := fun s _ _ _ q => wpAny_tests_nil (q s.heap s.toks (Stays.refl _))
theorem Tss.one {c : Expr} {b : Bool} (a : Ts prog w Γ A M W σ ω c b) : Tss prog w Γ A M W σ ω [c] b := fun s Q E H q => wpAny_tests_one (a s Q E H q)

theorem Hx.enter {C : Addr} {scope : Scope} {cl : List (Str × Addr)} {x : Str} {slots : Slots} {W' : Forb} {h h' : Heap} {m : Str → Option Value} (H : Hx Γ M W σ ω h) (k : Stays h h') (c : Caps Γ.slots σ slots σ') (hC : h.get? C = none)
    (hn : h'.Ns C m) (hW : ∀ b, W b → W' b) (hWC : W' C) (hW' : ∀ b, W' b → W b ∨ h.get? b = none) (hl : ∀ b, W' b → ∃ o, h'.get? b = some o) :
    Hx (compCx Γ scope cl x slots C) (fun b => b = C ∨ M b) W' (none :: σ') ω h' := by
  have S : Sub W h W' h' := fun b o e wb => ⟨fun x => (hW' b x).elim wb fun n => by (rw [e] at n; cases n), k b o e⟩
  obtain ⟨m₀, hm, hv⟩ := H.vars
  refine ⟨H.base.trans k, fun b hb => ?_, ⟨m, hn, c.vars S k hv⟩, fun y a hy => ?_, fun p hp => (H.own p hp).move S fun o => k _ o, fun p hp => .inr (H.ownM p hp), fun p hp => ?_, fun p hp y hy => ?_, H.ownN, .inl rfl, fun y a hy => ?_, fun b hb => ?_, hl⟩
  · rcases hb with rfl | hb
    · exact fresh_back H.base hC
    · exact H.new b hb
  · cases hy with
    | tail _ hy =>
      obtain ⟨v, c⟩ := H.cells y a (c.sub.subset hy)
      exact ⟨v, c.keeps k⟩
  · rintro (q : p.1 = C)
    obtain ⟨o, e⟩ := H.live _ (H.MW _ (H.ownM p hp))
    rw [q, hC] at e; cases e
  · cases hy with
    | tail _ hy => exact H.ownC p hp y (c.sub.subset hy)
  · cases hy with
    | tail _ hy => exact hW _ (H.celW y a (c.sub.subset hy))
  · rcases hb with rfl | hb
    · exact hWC
    · exact hW _ (H.MW b hb)

theorem comp_any {α : Type} {elt iter : Expr} {x : Str} {px : Pos} {ifs : List Expr} {scope : Scope} {pos pos' : Pos} {cl : List (Str × Addr)} {slots : Slots} (as : List α) (g f : α → D) (p : α → Bool) (use : Option (Value → Sem Unit))
    (O : Γ.Ok) (hh : A.handled = none) (it : It prog w Γ A M W σ ω iter (as.map g)) (c : Caps Γ.slots σ slots σ')
    (hclos : closureFor scope Γ.env = pure cl) (hcell : ∀ y ∈ scope.names, y.2 ≠ .cell) (hkind : scope.kind = .function) (hnames : ∀ y ∈ scope.names, y.2 = .local → scope.names.lookup y.1 = some .local) (hx : scope.names.lookup x = some .local)
    (hdx : (x == ("__debug__" : Str)) = false) (hcel : ∀ y a, (y, some a) ∈ slots → (relabel scope Γ.env).names.lookup y = some .cell ∧ cl.lookup y = some a) (hxn : x ∉ slots.map (·.1)) (hlen : as.length ≤ 1000000)
    (elt_ : ∀ C W', (∀ b, W b → W' b) → (compCx Γ scope cl x slots C).Ok → ∀ a ∈ as, Tss prog w (compCx Γ scope cl x slots C) A (fun b => b = C ∨ M b) W' (some (g a) :: σ') ω ifs (p a) ∧
      (p a = true → Ev prog w (compCx Γ scope cl x slots C) A (fun b => b = C ∨ M b) W' (some (g a) :: σ') ω elt (f a)))
    (s : Shared) (Q : Value → Shared → Prop) (E : Value → Shared → Prop) (H : Hx Γ M W σ ω s.heap)
    (hQ : ∀ D C vs n h' tk' m, Stays s.heap h' → s.heap.get? D = none → s.heap.get? C = none → D ≠ C → h'.get? D = some (listOf vs.toArray n) → h'.Ns C m → RdL (fun b => b = C ∨ b = D ∨ W b) h' ((as.filter p).map f) vs →
      compPost (model prog w) A E use Q (.ref D) C (.ok .next) { s with heap := h', toks := tk' })
    (hs : ∀ x, foldedSetIterable iter Γ.env x = pure x := by intro _; rfl) :
    wpAny (model prog w) A (comprehension (.ListComp elt [⟨.Name x px, iter, ifs, 0⟩] scope pos) scope Γ.env pos' (newList []) false (eval iter Γ.env) use) Q E s := by
  refine wpAny_comprehension_free rfl hs hclos hkind hnames (it s _ E H fun I h₁ tk₁ fp P St k₁ hI X => ?_)
  refine wpAny_newObj_type (wpAny_newFunctionEnv hcell (by intro y hy; simp at hy) (fun h₃ hns hsb => ?_) hkind)
  dsimp only at hns hsb ⊢
  generalize hH2 : h₁.push { cls := .type "list", dict := none, data := .seq ([] : List Value).toArray } = H2 at hns hsb ⊢
  have hCs : H2.objs.size = h₁.objs.size + 1 := by rw [← hH2, Heap.size_push]
  have hDC : h₁.objs.size ≠ H2.objs.size := by rw [hCs]; exact Nat.ne_of_lt (Nat.lt_succ_self _)
  have hD₁ : h₁.get? h₁.objs.size = none := get?_size _
  have hC₁ : h₁.get? H2.objs.size = none := by
    cases e : h₁.get? H2.objs.size with
    | none => rfl
    | some o => exact absurd (hCs ▸ Heap.lt_size e) (Nat.not_lt.mpr (Nat.le_succ _))
  have k₃ : Stays h₁ h₃ := fun b o e => hsb.extBut b o (fun q => by rw [q, hC₁] at e; cases e) (Heap.get?_push_of_some _ (hH2 ▸ Heap.get?_push_of_some _ e))
  have hacc : h₃.get? h₁.objs.size = some (listOf ([] : List Value).toArray 0) := hsb.extBut _ _ hDC (Heap.get?_push_of_some _ (hH2 ▸ Heap.get?_push_size _ rfl))
  generalize hDe : h₁.objs.size = Dd at hDC hD₁ hacc
  generalize hCe : H2.objs.size = C at hns hDC hC₁
  have hIl := X.live 0 _ X.st
  have hDs : s.heap.get? Dd = none := fresh_back k₁ hD₁
  have hCn : s.heap.get? C = none := fresh_back k₁ hC₁
  have hID : I ≠ Dd := fun q => by obtain ⟨o, e⟩ := hIl; rw [q, hD₁] at e; cases e
  have hIC : I ≠ C := fun q => by obtain ⟨o, e⟩ := hIl; rw [q, hC₁] at e; cases e
  have K₀ : Stays s.heap h₃ := k₁.trans k₃
  have Ok' : (compCx Γ scope cl x slots C).Ok := compCx_ok O hkind hx hdx c.sub c.cell hcel hxn fun y a hy q => by
    obtain ⟨v, o, e, _⟩ := H.cells y a (c.sub.subset hy); rw [q, hCn] at e; cases e
  have H₀ : Hx (compCx Γ scope cl x slots C) (fun b => b = C ∨ M b) (fun b => b = I ∨ b = C ∨ b = Dd ∨ W b) (none :: σ') ω h₃ := by
    refine H.enter K₀ c hCn hns (fun b hb => .inr (.inr (.inr hb))) (.inr (.inl rfl)) (fun b hb => ?_) fun b hb => ?_
    · rcases hb with rfl | rfl | rfl | hb
      · exact .inr hI
      · exact .inr hCn
      · exact .inr hDs
      · exact .inl hb
    · rcases hb with rfl | rfl | rfl | hb
      · obtain ⟨o, e⟩ := hIl; exact ⟨o, k₃ _ _ e⟩
      · obtain ⟨o, _, _, e, _⟩ := hns; exact ⟨o, e⟩
      · exact ⟨_, hacc⟩
      · obtain ⟨o, e⟩ := H.live b hb; exact ⟨o, K₀ _ _ e⟩
  have nM : ∀ b, s.heap.get? b = none → ¬ M b := fun b e x => H.fresh e (H.MW _ x)
  have nC : ∀ b, s.heap.get? b = none → ∀ y, (y, some b) ∉ (compCx Γ scope cl x slots C).slots := fun b e y hy => by
    cases hy with
    | tail _ hy => obtain ⟨v, o, e', _⟩ := H.cells y b (c.sub.subset hy); rw [e] at e'; cases e'
  have nB : ∀ b, s.heap.get? b = none → Γ.hb.get? b = none := fun b e => fresh_back H.base e
  have Wk := X.walks A hh
  have fpI : ∀ b ∈ fp, b = I ∨ ((∃ o, h₁.get? b = some o) ∧ ¬ W b) := X.fpo
  have loop : codeAny (model prog w) A (.compLoop (.ListComp elt [⟨.Name x px, iter, ifs, 0⟩] scope pos) 0 (.ref I) (.ref Dd) (compEnvC scope cl C Γ.env)) (compPost (model prog w) A E use Q (.ref Dd) C)
      { s with heap := h₃, toks := tk₁ + ([] : List (Str × Value)).length } := by
    refine codeAny_compLoop_tests (fun k s' => ∃ i h' tk' vs n e, s' = { s with heap := h', toks := tk' } ∧ k = as.length + 1 - i ∧ i ≤ as.length ∧ St i h' ∧ h'.get? Dd = some (listOf vs.toArray n) ∧
      RdL (fun b => b = I ∨ b = C ∨ b = Dd ∨ W b) h' (((as.take i).filter p).map f) vs ∧ Hx (compCx Γ scope cl x slots C) (fun b => b = C ∨ M b) (fun b => b = I ∨ b = C ∨ b = Dd ∨ W b) (e :: σ') ω h' ∧
      (∀ b o, b ≠ I → b ≠ C → b ≠ Dd → h₁.get? b = some o → h'.get? b = some o)) ?_ (as.length + 1)
      ⟨0, h₃, _, [], 0, _, rfl, rfl, Nat.zero_le _, Wk.frame _ _ _ X.st fun b _ o e => k₃ b o e, hacc, .nil, H₀, fun b o _ _ _ e => k₃ b o e⟩
    rintro k s' ⟨i, h', tk', vs, n, e, rfl, rfl, hi, st, hD, rl, H', kp⟩
    by_cases hlt : i < as.length
    · refine Wk.item i _ _ _ (by simpa using hlt) st fun v h₂ tk₂ hP st₂ k₂ => ?_
      have k₂' : ∀ b o, b ≠ I → h'.get? b = some o → h₂.get? b = some o := fun b o hb => k₂ b o (by simpa using hb)
      have H₂ := H'.step (.inl rfl) (fun q => q.elim hIC (nM I hI)) (nC I hI) (nB I hI) k₂' (X.live _ _ st₂)
      obtain ⟨d, hd, r⟩ := X.item i v hP
      have ha : ∃ a, as[i]? = some a ∧ a ∈ as ∧ d = g a := by
        rw [List.getElem?_map] at hd
        obtain ⟨a, e1, e2⟩ := Option.map_eq_some_iff.mp hd
        exact ⟨a, e1, List.mem_of_getElem? e1, e2.symm⟩
      obtain ⟨a, ea, hma, rfl⟩ := ha
      have kp₂ : ∀ b o, b ≠ I → b ≠ C → b ≠ Dd → h₁.get? b = some o → h₂.get? b = some o := fun b o hb hb' hb'' e => k₂' b o hb (kp b o hb hb' hb'' e)
      have S : Sub (fun b => b = I ∨ W b) h₁ (fun b => b = I ∨ b = C ∨ b = Dd ∨ W b) h₂ := fun b o e wb => by
        have h1 : b ≠ I := fun q => wb (.inl q)
        have h2 : b ≠ C := fun q => by rw [q, hC₁] at e; cases e
        have h3 : b ≠ Dd := fun q => by rw [q, hD₁] at e; cases e
        exact ⟨fun x => x.elim h1 fun x => x.elim h2 fun x => x.elim h3 fun x => wb (.inr x), kp₂ b o h1 h2 h3 e⟩
      have SS : ∀ {h h' : Heap}, (∀ b o, b ≠ I → b ≠ C → b ≠ Dd → h.get? b = some o → h'.get? b = some o) → Sub (fun b => b = I ∨ b = C ∨ b = Dd ∨ W b) h (fun b => b = I ∨ b = C ∨ b = Dd ∨ W b) h' := fun k b o e wb =>
        ⟨wb, k b o (fun q => wb (.inl q)) (fun q => wb (.inr (.inl q))) (fun q => wb (.inr (.inr (.inl q)))) e⟩
      obtain ⟨m₂, hm₂, hv₂⟩ := H₂.vars
      refine wpAny_assign_Name (wpAny_storeName_local (Ok'.loc x (.head _)) hm₂ (fun h₃ hn₃ hs₃ => ?_) (modeOk Ok'))
      have H₃ := Hx.store_loc (v := v) Ok' H₂ hm₂ hv₂ .head (r.sub S) hn₃ hs₃
      have k₃' : ∀ b o, b ≠ C → h₂.get? b = some o → h₃.get? b = some o := fun b o hb e => (hs₃.2 b hb).trans e
      obtain ⟨tst, el⟩ := elt_ C (fun b => b = I ∨ b = C ∨ b = Dd ∨ W b) (fun b hb => .inr (.inr (.inr hb))) Ok' a hma
      refine tst _ _ _ H₃ fun h₄ tk₄ k₄ => ?_
      have H₄ := H₃.stays k₄
      have st₄ : St (i + 1) h₄ := Wk.frame _ _ _ st₂ fun b hb o e => k₄ b o (k₃' b o (fun q => by
        rcases fpI b hb with h | ⟨⟨o', h⟩, _⟩
        · exact hIC (h.symm.trans q)
        · rw [q, hC₁] at h; cases h) e)
      have k14 : ∀ b o, b ≠ I → b ≠ C → h'.get? b = some o → h₄.get? b = some o := fun b o h1 h2 e => k₄ b o (k₃' b o h2 (k₂' b o h1 e))
      have hD₄ := k14 Dd _ (Ne.symm hID) hDC hD
      have tk : (as.take (i + 1)).filter p = (as.take i).filter p ++ (if p a then [a] else []) := take_succ_filter p as i a ea
      have rl₄ := rl.sub (SS fun b o h1 h2 h3 e => k14 b o h1 h2 e)
      cases hp : p a with
      | false =>
        simp only [Bool.false_eq_true, if_false]
        refine ⟨as.length + 1 - (i + 1), by omega, i + 1, h₄, tk₄, vs, n, _, rfl, rfl, hlt, st₄, hD₄, ?_, H₄, fun b o h1 h2 h3 e => k14 b o h1 h2 (kp b o h1 h2 h3 e)⟩
        rw [tk, hp]; simpa using rl₄
      | true =>
        simp only [if_true]
        refine el hp _ _ _ H₄ fun y h₅ tk₅ k₅ r₅ => ?_
        have hvl := rl.length
        have hvs : vs.length ≤ 1000000 := by
          rw [hvl, List.length_map]
          exact Nat.le_trans (List.length_filter_le _ _) (Nat.le_trans (by rw [List.length_take]; omega) hlen)
        refine wpAny_list_append_plain (hsz := by rw [List.size_toArray, sizeLine_eq]; omega) ⟨n, k₅ _ _ hD₄⟩ fun h₆ hl₆ hs₆ => ?_
        obtain ⟨n₆, e₆⟩ := hl₆
        have k₆ : ∀ b o, b ≠ Dd → h₅.get? b = some o → h₆.get? b = some o := fun b o hb e => (hs₆.2 b hb).trans e
        refine ⟨as.length + 1 - (i + 1), by omega, i + 1, h₆, tk₅, vs ++ [y], n₆, _, rfl, rfl, hlt, Wk.frame _ _ _ st₄ fun b hb o e => k₆ b o (fun q => by
          rcases fpI b hb with h | ⟨⟨o', h⟩, _⟩
          · exact hID (h.symm.trans q)
          · rw [q, hD₁] at h; cases h) (k₅ b o e), by rw [e₆]; simp, ?_, (H₄.stays k₅).step (.inr (.inr (.inl rfl))) (fun q => q.elim hDC (nM Dd hDs)) (nC Dd hDs) (nB Dd hDs) k₆ ⟨_, e₆⟩, fun b o h1 h2 h3 e => k₆ b o h3 (k₅ b o (k14 b o h1 h2 (kp b o h1 h2 h3 e)))⟩
        rw [tk, hp, List.map_append]
        exact ((rl₄.stays k₅).sub (SS fun b o _ _ h3 e => k₆ b o h3 e)).append (RdL.one (r₅.sub (SS fun b o _ _ h3 e => k₆ b o h3 e)))
    · have hin : i = as.length := by omega
      refine Wk.done _ _ _ ((by simpa using hin : i = (as.map g).length) ▸ st) fun h₂ tk₂ k₂ => ?_
      have k₂' : ∀ b o, b ≠ I → h'.get? b = some o → h₂.get? b = some o := fun b o hb => k₂ b o (by simpa using hb)
      obtain ⟨m₂, hm₂, _⟩ := H'.vars
      refine hQ Dd C vs n h₂ tk₂ m₂ (fun b o e => k₂' b o (fun q => by rw [q, hI] at e; cases e) (kp b o (fun q => by rw [q, hI] at e; cases e) (fun q => by rw [q, hCn] at e; cases e) (fun q => by rw [q, hDs] at e; cases e) (k₁ b o e))) hDs hCn hDC (k₂' _ _ (Ne.symm hID) hD)
        (hm₂.at' fun o e => k₂' _ o (Ne.symm hIC) e) ?_
      rw [hin, List.take_of_length_le (Nat.le_refl _)] at rl
      exact rl.sub fun b o e wb => ⟨fun x => wb (.inr x), k₂' b o (fun q => wb (.inl q)) e⟩
  subst hDe
  subst hCe
  exact codeAny_compStart_list loop (Wk.self 0 _ _ _ (Wk.frame _ _ _ X.st fun b _ o e => k₃ b o e) loop)

theorem EvF.comp {α : Type} {elt iter : Expr} {x : Str} {px : Pos} {ifs : List Expr} {scope : Scope} {pos : Pos} {cl : List (Str × Addr)} {slots : Slots} (as : List α) (g f : α → D) (p : α → Bool)
    (O : Γ.Ok) (hh : A.handled = none) (it : It prog w Γ A M W σ ω iter (as.map g)) (c : Caps Γ.slots σ slots σ')
    (elt_ : ∀ C W', (∀ b, W b → W' b) → (compCx Γ scope cl x slots C).Ok → ∀ a ∈ as, Tss prog w (compCx Γ scope cl x slots C) A (fun b => b = C ∨ M b) W' (some (g a) :: σ') ω ifs (p a) ∧
      (p a = true → Ev prog w (compCx Γ scope cl x slots C) A (fun b => b = C ∨ M b) W' (some (g a) :: σ') ω elt (f a)))
    (hclos : closureFor scope Γ.env = pure cl) (hcell : ∀ y ∈ scope.names, y.2 ≠ .cell) (hkind : scope.kind = .function) (hnames : ∀ y ∈ scope.names, y.2 = .local → scope.names.lookup y.1 = some .local) (hx : scope.names.lookup x = some .local)
    (hdx : (x == ("__debug__" : Str)) = false) (hcel : ∀ y a, (y, some a) ∈ slots → (relabel scope Γ.env).names.lookup y = some .cell ∧ cl.lookup y = some a) (hxn : x ∉ slots.map (·.1)) (hlen : as.length ≤ 1000000)
    (hs : ∀ x, foldedSetIterable iter Γ.env x = pure x := by intro _; rfl) :
    EvF prog w Γ A M W σ ω (.ListComp elt [⟨.Name x px, iter, ifs, 0⟩] scope pos) ((as.filter p).map f) := by
  intro s Q E H h
  rw [eval_ListComp]
  refine comp_any as g f p (Option.none) O hh it c hclos hcell hkind hnames hx hdx hcel hxn hlen elt_ s Q E H (fun Dd C vs n h' tk' m k hD hC hDC e hn rl => ⟨m, hn, fun h'' hs'' => ?_⟩) hs
  exact h Dd vs n h'' tk' (fun b o e => (hs''.2 b fun q => by (rw [q, hC] at e; cases e)).trans (k b o e)) hD ((hs''.2 _ hDC).trans e) (rl.sub fun b o e wb => ⟨fun x => wb (.inr x), (hs''.2 b fun q => wb (.inl q)).trans e⟩)

/-- a list comprehension straight into a name -/
theorem X1.assignComp {α : Type} {R : Flow → Heap → Prop} {σ₂ : List (Option D)} {y : Str} {py spos : Pos} {l : Option Addr} {elt iter : Expr} {x : Str} {px : Pos} {ifs : List Expr} {scope : Scope} {pos : Pos} {cl : List (Str × Addr)} {slots : Slots} (as : List α) (g f : α → D) (p : α → Bool)
    (O : Γ.Ok) (hh : A.handled = none) (it : It prog w Γ A M W σ ω iter (as.map g)) (c : Caps Γ.slots σ slots σ') (V : VarSet Γ.slots σ y l (.list ((as.filter p).map f)) σ₂) (hM : ∀ a, l = some a → M a)
    (h : ∀ hp, Hx Γ M W σ₂ ω hp → R .next hp)
    (elt_ : ∀ C W', (∀ b, W b → W' b) → (compCx Γ scope cl x slots C).Ok → ∀ a ∈ as, Tss prog w (compCx Γ scope cl x slots C) A (fun b => b = C ∨ M b) W' (some (g a) :: σ') ω ifs (p a) ∧
      (p a = true → Ev prog w (compCx Γ scope cl x slots C) A (fun b => b = C ∨ M b) W' (some (g a) :: σ') ω elt (f a)))
    (hsw : swapsWith (.ListComp elt [⟨.Name x px, iter, ifs, 0⟩] scope pos) (some (.Name y py)) spos.line Γ.env = pure true)
    (hclos : closureFor scope Γ.env = pure cl) (hcell : ∀ y ∈ scope.names, y.2 ≠ .cell) (hkind : scope.kind = .function) (hnames : ∀ y ∈ scope.names, y.2 = .local → scope.names.lookup y.1 = some .local) (hx : scope.names.lookup x = some .local)
    (hdx : (x == ("__debug__" : Str)) = false) (hcel : ∀ y a, (y, some a) ∈ slots → (relabel scope Γ.env).names.lookup y = some .cell ∧ cl.lookup y = some a) (hxn : x ∉ slots.map (·.1)) (hlen : as.length ≤ 1000000)
    (hs : ∀ x, foldedSetIterable iter Γ.env x = pure x := by intro _; rfl) :
    X1 prog w Γ A (Hx Γ M W σ ω) M (.Assign [.Name y py] (.ListComp elt [⟨.Name x px, iter, ifs, 0⟩] scope pos) spos) R := by
  intro s Q E H q
  rw [exec_Assign_Name_used _ _ _ _ hsw]
  refine wpAny_bind (wpAny_standAt (wpAny_bind ?_))
  show wpAny _ A (do let _ ← comprehension (.ListComp elt [⟨.Name x px, iter, ifs, 0⟩] scope pos) scope Γ.env _ (newList []) false (eval iter Γ.env) (some (PySem.assign (.Name y py) Γ.env))) _ _ s
  refine wpAny_bind (comp_any as g f p (some _) O hh it c hclos hcell hkind hnames hx hdx hcel hxn hlen elt_ s (fun _ s' => wpAny (model prog w) A _ _ E s') E H (fun Dd C vs n h' tk' m k hD hC hDC e hn rl => ?_) hs)
  have hn' := hn
  obtain ⟨o, _, _, eC, _⟩ := hn'
  have H' := H.wide k hC ⟨o, eC⟩
  have hCM : ¬ M C := fun x => H.fresh hC (H.MW _ x)
  have hCc : ∀ x, (x, some C) ∉ Γ.slots := fun x hx => by obtain ⟨v, o, e, _⟩ := H.cells x C hx; rw [hC] at e; cases e
  have hLC : Γ.env.locals ≠ C := fun q => hCM (q ▸ H.locM)
  have r : Rd (fun b => b = C ∨ W b) h' (.list ((as.filter p).map f)) (.ref Dd) := .list e (fun x => x.elim hDC (H.fresh hD)) (rl.sub fun b o e wb => ⟨fun x => wb (x.elim .inl fun x => .inr (.inr x)), e⟩)
  refine wpAny_assign_Name (store_name O H' hM V r fun h₂ tk₂ k₂ H₂ => ?_)
  refine ⟨m, hn.at' fun o e => k₂ _ o e hCM, fun h₃ hs₃ => wpAny_pure (wpAny_pure (q _ h₃ _ ?_ (h _ ?_)))⟩
  · intro b o e hm
    have e₂ := k₂ b o (k b o e) hm
    exact (hs₃.2 b fun q => by rw [q, hC] at e; cases e).trans e₂
  · have H₃ := H₂.stepEnd (h' := h₃) (.inl rfl) hCM hCc (fresh_back H.base hC) fun b o hb e => (hs₃.2 b hb).trans e
    exact H₃.weak (fun b hb => ⟨.inr hb, fun q => H.fresh hC (q ▸ hb)⟩) H.MW H.celW
end
end Mine

-- L10
namespace Mine
open PySem PySem.Spec PySem.Calls PyProof.Rows PySem.W

noncomputable def wsGet (w : WS) (x : Str) : Option D :=
  if x = "n" then some (.int w.n) else if x = "nt" then some (.int w.nt) else if x = "norm" then some (.tup [.tup (w.cnt.map .int), .int w.b]) else if x = "is_simple" then some (.bool w.simple) else if x = "raw" then some (.str w.raw) else none

theorem k_hasDict (p : Params) : hasDictIn (Kf p) 83 = true := by rfl
theorem k_ga (p : Params) : findIn (Kf p) (.ref 83) "__getattribute__" = some (some (.builtin "object.__getattribute__")) := by rfl
theorem k_gat (p : Params) : findIn (Kf p) (.ref 83) "__getattr__" = some none := by rfl
theorem k_n (p : Params) : findIn (Kf p) (.ref 83) "n" = some none := by rfl
theorem k_nt (p : Params) : findIn (Kf p) (.ref 83) "nt" = some none := by rfl
theorem k_norm (p : Params) : findIn (Kf p) (.ref 83) "norm" = some none := by rfl
theorem k_simple (p : Params) : findIn (Kf p) (.ref 83) "is_simple" = some none := by rfl
theorem k_raw (p : Params) : findIn (Kf p) (.ref 83) "raw" = some none := by rfl

section
variable {prog : Program} {w : World} {A : Around} {Γ : Cx} {M W : Forb} {σ σ' : List (Option D)} {ω ω' : Owns}

theorem ws_get {s : Shared} {a dx : Addr} {es : List DictEntry} {k : Nat} {x : Str} {v : Value} {Q : Value → Shared → Prop} {E : Value → Shared → Prop} {expr : Bool} (X : (Kf w.params).In s.heap) (e1 : s.heap.get? a = some (instObj cWS dx)) (e2 : s.heap.get? dx = some (dictOf es k))
    (hf : findIn (Kf w.params) (.ref 83) x = some none) (hg : getL x es = some (some v)) (hv : handedIn v = true) (h : Q v { s with toks := s.toks + 1 }) : wpAny (model prog w) A (getAttr (.ref a) x expr) Q E s :=
  get_value (K := Kf w.params) (C := 83) (ox := instObj cWS dx) (od := some (dictOf es k)) X ⟨e1, rfl, rfl, e2⟩ (k_ga _) (findObj_own (k_hasDict _) hf rfl ((lookIn_dict _ _ _).trans hg)) hv h

theorem rd_handed {W : Forb} {h : Heap} {d : D} {v : Value} (hd : ∀ u, d ≠ .val u) (r : Rd W h d v) : handedIn v = true := by
  cases r <;> first | rfl | exact absurd rfl (hd _)

theorem Ev.attr {x nm : Str} {xp pos : Pos} {c : WS} {d : D} (G : Gl w Γ.hb) (a : Ev prog w Γ A M W σ ω (.Name x xp) (.ws c)) (hd : wsGet c nm = some d) : Ev prog w Γ A M W σ ω (.Attribute (.Name x xp) nm pos) d := by
  intro s Q E H h
  refine Attribute_Name_ (a s _ E H fun v h₁ tk₁ k₁ r₁ => ?_)
  have G₁ := G.stays (H.stays k₁).base
  cases r₁ with
  | ws e1 w1 e2 w2 q r =>
    subst q
    unfold wsGet at hd
    split at hd
    · rename_i q; subst q; cases hd
      exact ws_get (s := { s with heap := h₁, toks := tk₁ }) G₁.K e1 e2 (k_n _) rfl rfl (h _ _ _ k₁ (.int _ _))
    split at hd
    · rename_i q; subst q; cases hd
      exact ws_get (s := { s with heap := h₁, toks := tk₁ }) G₁.K e1 e2 (k_nt _) rfl rfl (h _ _ _ k₁ (.int _ _))
    split at hd
    · rename_i q; subst q; cases hd
      exact ws_get (s := { s with heap := h₁, toks := tk₁ }) G₁.K e1 e2 (k_norm _) rfl (rd_handed (by intro u e; cases e) r) (h _ _ _ k₁ r)
    split at hd
    · rename_i q; subst q; cases hd
      exact ws_get (s := { s with heap := h₁, toks := tk₁ }) G₁.K e1 e2 (k_simple _) rfl rfl (h _ _ _ k₁ (.bool _))
    split at hd
    · rename_i q; subst q; cases hd
      exact ws_get (s := { s with heap := h₁, toks := tk₁ }) G₁.K e1 e2 (k_raw _) rfl rfl (h _ _ _ k₁ (.str _ _))
    · cases hd

/-- a method of a Whitespace -/
theorem Ev.meth {x nm : Str} {xp apos pos : Pos} {f : Addr} {e : Expr} {es : List Expr} {c : WS} {ds : List D} {d : D} {n : Nat} (G : Gl w Γ.hb) (R : Rm A n) (a : Ev prog w Γ A M W σ ω (.Name x xp) (.ws c))
    (hf : findIn (Kf w.params) (.ref 83) nm = some (some (.ref f))) (ht : typeIn (Kf w.params) (.ref f) = some (.type "function")) (hsh : ∀ es k, (∃ h1 h2 h3 h4 h5 t1 t2 t3 t4 t5 v1 v2 v3 v4 v5, es = ([⟨h1, .str "raw" t1, v1⟩, ⟨h2, .str "n" t2, v2⟩, ⟨h3, .str "nt" t3, v3⟩, ⟨h4, .str "norm" t4, v4⟩, ⟨h5, .str "is_simple" t5, v5⟩] : List DictEntry)) → shadowIn (some (dictOf es k)) nm = some false)
    (hke : keepIn (Kf w.params) (.ref f) = true) (b : Es prog w Γ A M W σ ω (e :: es) ds) (cc : Fn prog w f n (.ws c :: ds) d)
    (he : starEach (e :: es) Γ.env = (false, eval e Γ.env) :: starEach es Γ.env := by rfl) (hst : (backTo pos (starEach es Γ.env)).any (·.1) = false := by rfl)
    {pl : Sem Bool} (hpl : eval (.Call (.Attribute (.Name x xp) nm apos) (e :: es) [] pos) Γ.env = (do
      let ov ← eval (.Name x xp) Γ.env
      standAt apos.atName
      let (f, first) ← holding [ov] (getMethod ov nm pl)
      callWith pos f first (backTo pos (starEach (e :: es) Γ.env)) []) := by rfl) :
    Ev prog w Γ A M W σ ω (.Call (.Attribute (.Name x xp) nm apos) (e :: es) [] pos) d := by
  intro s Q E H h
  refine MethodCall_ (a s _ E H fun v h₁ tk₁ k₁ r₁ => ?_) hpl
  have H₁ := H.stays k₁
  have G₁ := G.stays H₁.base
  have r₁' := r₁
  cases r₁' with
  | @ws a dx k h1 h2 h3 h4 h5 t1 t2 t3 t4 t5 u1 u2 u3 nv _ cs e1 w1 e2 w2 q r =>
    refine method_fn (s := { s with heap := h₁, toks := tk₁ }) (C := 83) (ox := instObj cWS dx) (od := some (dictOf _ k)) G₁.K ⟨e1, rfl, rfl, e2⟩ (k_ga _) (k_gat _) hf ht (hsh _ k ⟨_, _, _, _, _, _, _, _, _, _, _, _, _, _, _, rfl⟩) ?_
    refine callWith_K (h₀ := Γ.hb) G.K hke (b pos _ _ E H₁ fun vs h₂ tk₂ k₂ r₂ => ⟨(G₁.stays k₂).K, ?_⟩) he hst
    have H₂ := H₁.stays k₂
    exact cc A W _ _ Q E R (G.stays H₂.base) H₂.live (.cons (r₁.stays k₂) r₂) fun v h₃ tk₃ k₃ r₃ => h v h₃ tk₃ ((k₁.trans k₂).trans k₃) r₃
theorem Ev.meth0 {x nm : Str} {xp apos pos : Pos} {f : Addr} {c : WS} {d : D} {n : Nat} (G : Gl w Γ.hb) (R : Rm A n) (a : Ev prog w Γ A M W σ ω (.Name x xp) (.ws c))
    (hf : findIn (Kf w.params) (.ref 83) nm = some (some (.ref f))) (ht : typeIn (Kf w.params) (.ref f) = some (.type "function")) (hsh : ∀ es k, (∃ h1 h2 h3 h4 h5 t1 t2 t3 t4 t5 v1 v2 v3 v4 v5, es = ([⟨h1, .str "raw" t1, v1⟩, ⟨h2, .str "n" t2, v2⟩, ⟨h3, .str "nt" t3, v3⟩, ⟨h4, .str "norm" t4, v4⟩, ⟨h5, .str "is_simple" t5, v5⟩] : List DictEntry)) → shadowIn (some (dictOf es k)) nm = some false)
    (hke : keepIn (Kf w.params) (.ref f) = true) (cc : Fn prog w f n [.ws c] d)
    {pl : Sem Bool} (hpl : eval (.Call (.Attribute (.Name x xp) nm apos) [] [] pos) Γ.env = (do
      let ov ← eval (.Name x xp) Γ.env
      standAt apos.atName
      let (f, first) ← holding [ov] (getMethod ov nm pl)
      callWith pos f first (backTo pos (starEach [] Γ.env)) []) := by rfl) :
    Ev prog w Γ A M W σ ω (.Call (.Attribute (.Name x xp) nm apos) [] [] pos) d := by
  intro s Q E H h
  refine MethodCall_ (a s _ E H fun v h₁ tk₁ k₁ r₁ => ?_) hpl
  have H₁ := H.stays k₁
  have G₁ := G.stays H₁.base
  have r₁' := r₁
  cases r₁' with
  | @ws a dx k h1 h2 h3 h4 h5 t1 t2 t3 t4 t5 u1 u2 u3 nv _ cs e1 w1 e2 w2 q r =>
    refine method_fn (s := { s with heap := h₁, toks := tk₁ }) (C := 83) (ox := instObj cWS dx) (od := some (dictOf _ k)) G₁.K ⟨e1, rfl, rfl, e2⟩ (k_ga _) (k_gat _) hf ht (hsh _ k ⟨_, _, _, _, _, _, _, _, _, _, _, _, _, _, _, rfl⟩) ?_
    refine callWith_K0 (s := { s with heap := h₁, toks := tk₁ }) G₁.K hke ?_
    exact cc A W _ _ Q E R G₁ H₁.live (.cons r₁ .nil) fun v h₃ tk₃ k₃ r₃ => h v h₃ tk₃ (k₁.trans k₃) r₃
end
end Mine

-- L11
namespace Mine
open PySem PySem.Spec PySem.Calls PyProof.Rows PySem.W

section
variable {prog : Program} {w : World} {A : Around} {Γ : Cx} {M W : Forb} {σ σ' σ₁ σ₂ : List (Option D)} {ω ω' : Owns} {R : Flow → Heap → Prop}

theorem Xs.ex {α : Type} {P : α → Heap → Prop} {body : List Stmt} (a : ∀ x, Xs prog w Γ A (P x) M body R) : Xs prog w Γ A (fun h => ∃ x, P x h) M body R := fun s Q E ⟨x, p⟩ q => a x s Q E p q

theorem Cmp.isB {a b : Bool} : Cmp prog w A .Is (.bool a) (.bool b) (a == b) := by
  intro W s Q E x y _ ra rb h
  cases ra; cases rb
  have := wpAny_is_plain (M := model prog w) (A := A) (E := E) (a := .bool a) (b := .bool b) (s := s) (Q := Q) rfl (by have := h s.heap s.toks (Stays.refl _); cases a <;> cases b <;> exact this)
  exact this
theorem Cmp.isNotB {a b : Bool} : Cmp prog w A .IsNot (.bool a) (.bool b) (!(a == b)) := by
  intro W s Q E x y _ ra rb h
  cases ra; cases rb
  exact wpAny_isNot_plain (M := model prog w) (A := A) (E := E) (a := .bool a) (b := .bool b) (s := s) (Q := Q) rfl (by have := h s.heap s.toks (Stays.refl _); cases a <;> cases b <;> exact this)

theorem Bf.max2 {a b : Int} (hh : A.handled = none) : Bf prog w A (.builtin "max") [.int a, .int b] (.int (if b > a then b else a)) := by
  intro W s vs Q E _ r h
  obtain ⟨_, _, rfl, ra, rb⟩ := r.two_inv
  obtain ⟨t, rfl⟩ := ra.int_inv
  obtain ⟨u, rfl⟩ := rb.int_inv
  ·
    refine max_two_ints hh fun h' tk k => ?_
    by_cases c : b > a
    · rw [if_pos c] at h ⊢
      exact h _ h' tk k (.int _ _)
    · rw [if_neg c] at h ⊢
      exact h _ h' tk k (.int _ _)

theorem Bf.tupOf {ds : List D} (hz : ds.length ≤ 1000000) : Bf prog w A (.type "tuple") [.list ds] (.tup ds) := by
  intro W s vs Q E hW r h
  obtain ⟨_, rfl, rv⟩ := r.one_inv
  obtain ⟨_, us, _, rfl, e, hw, p⟩ := rv.list_inv
  ·
    refine call_tuple_list (listAt e) (fun h' k => ?_) (by rw [List.size_toArray, p.length, sizeLine_eq]; omega)
    have st : Stays s.heap (h'.push { cls := .type "tuple", data := .seq us.toArray }) := Stays.trans k (Stays.push _ _)
    have hf : ¬ W h'.objs.size := fun x => by
      obtain ⟨o, e⟩ := hW _ x
      have := k _ _ e; rw [get?_size] at this; cases this
    exact h _ _ s.toks st (.tup (n := 0) (Heap.get?_push_size _ rfl) hf (p.stays st))

theorem Tg.pair {x y : Str} {px py pos : Pos} {k : Nat} {lx ly : Option Addr} {d e : D} (O : Γ.Ok) (hh : A.handled = none) (V : VarSet Γ.slots σ x lx d σ₁) (V' : VarSet Γ.slots σ₁ y ly e σ₂) (hM : ∀ a, lx = some a → M a) (hM' : ∀ a, ly = some a → M a) :
    Tg prog w Γ A M W σ ω (.Tuple [.Name x px, .Name y py] k pos) (.tup [d, e]) σ₂ := by
  intro s v Q E H r q
  cases r with
  | @tup t vs n ds e₀ hw p =>
    obtain ⟨u₁, u₂, rfl, r₁, r₂⟩ := p.two_inv
    ·
      refine wpAny_assign_Tuple hh ⟨_, e₀, rfl, n, rfl⟩ rfl rfl fun h₁ k₁ => ?_
      have st : Stays s.heap h₁ := fun b o e => k₁ b o (Nat.ne_of_lt (Heap.lt_size e)) e
      refine wpAny_bind (wpAny_holding (wpAny_assign_Name (store_name (s := { s with heap := h₁ }) O (H.stays st) hM V (r₁.stays st) fun h₂ tk₂ k₂ H₂ => ?_)))
      have S : Sub W h₁ W h₂ := fun b o e wb => ⟨wb, k₂ b o e fun m => wb (H.MW _ m)⟩
      refine wpAny_bind (wpAny_holding (wpAny_assign_Name (store_name (s := { s with heap := h₂, toks := tk₂ }) O H₂ hM' V' ((r₂.stays st).sub S) fun h₃ tk₃ k₃ H₃ => wpAny_pure ?_)))
      exact q h₃ tk₃ (((Kp.of_stays st).trans k₂).trans k₃) H₃

theorem X1.assignTo {elts : List Expr} {k : Nat} {tp pos : Pos} {e : Expr} {d : D} (a : Ev prog w Γ A M W σ ω e d) (t : Tg prog w Γ A M W σ ω (.Tuple elts k tp) d σ') (h : ∀ hp, Hx Γ M W σ' ω hp → R .next hp)
    (hs : swapsWithSole [.Tuple elts k tp] e pos.line Γ.env = pure false := by rfl) (hw : swappedStores [.Tuple elts k tp] e Γ.env = pure none := by rfl) :
    X1 prog w Γ A (Hx Γ M W σ ω) M (.Assign [.Tuple elts k tp] e pos) R := by
  intro s Q E H q
  refine Assign_Tuple (a s _ E H fun v h₁ tk₁ k₁ r₁ => ?_) hs hw
  exact t _ v _ E (H.stays k₁) r₁ fun h₂ tk₂ k₂ H₂ => q _ h₂ tk₂ ((Kp.of_stays k₁).trans k₂) (h _ H₂)

theorem Ev.lenT {x : Str} {p : Pos} {e : Expr} {ds : List D} {pos : Pos} (hf : Ev prog w Γ A M W σ ω (.Name x p) (.val (.builtin "len"))) (a : Ev prog w Γ A M W σ ω e (.tup ds)) (hz : ds.length < 2 ^ 62)
    (he : starEach [e] Γ.env = (false, eval e Γ.env) :: starEach [] Γ.env := by rfl) : Ev prog w Γ A M W σ ω (.Call (.Name x p) [e] [] pos) (.int ds.length) := by
  refine Ev.callB1 hf a (fun s v Q E H r h => ?_) he
  cases r with
  | @tup t vs n ds e₀ hw p =>
    refine len_tuple (items := vs.toArray) ⟨_, e₀, rfl, n, rfl⟩ (by rw [List.size_toArray, p.length]; omega) ?_
    rw [List.size_toArray, p.length]
    exact h _ s.heap _ (Stays.refl _) (.int _ _)

theorem Ev.itemT {x i : Expr} {pos : Pos} {r : D} {ds : List D} {k : Int} (a : Ev prog w Γ A M W σ ω x (.tup ds)) (b : Ev prog w Γ A M W σ ω i (.int k)) (h0 : 0 ≤ k) (hk : ds[k.toNat]? = some r)
    (hs : ∀ l t, subscripted i false (.ref l) (.int k t) = operate [.ref l, .int k t] (getItem (.ref l) (.int k t)) := by intro _ _; with_unfolding_all rfl) (hz : ds.length < 2 ^ 62) : Ev prog w Γ A M W σ ω (.Subscript x i pos) r := by
  intro s Q E H h
  refine Subscript_ (a s _ E H fun v h₁ tk₁ k₁ r₁ => b _ _ E (H.stays k₁) fun u h₂ tk₂ k₂ r₂ => ?_)
  have r₁ := r₁.stays k₂
  cases r₁ with
  | @tup l vs n _ e hw p =>
    cases r₂
    obtain ⟨y, hy, ry⟩ := p.at hk
    have hl : k.toNat < ds.length := by
      rcases Nat.lt_or_ge k.toNat ds.length with h | h
      · exact h
      · rw [List.getElem?_eq_none h] at hk; cases hk
    have ht : IsTup h₂ l vs.toArray := ⟨_, e, rfl, n, rfl⟩
    exact tail_any (s := { s with heap := h₂, toks := tk₂ }) (ht.typeIs (s := { s with heap := h₂, toks := tk₂ })) PyProof.Rows.slot_tuple_getitem.lookup (getItem_tuple (s := { s with heap := h₂, toks := tk₂ }) ht (by omega) (by omega) (j := k.toNat) (by simp [seqIndex?, p.length]; omega) (by simpa using hy) (h y h₂ tk₂ (k₁.trans k₂) ry)) (hs l _)
end
end Mine

-- L12
namespace Mine
open PySem PySem.Spec PySem.Calls PyProof.Rows PySem.W

section
variable {prog : Program} {w : World} {A : Around} {Γ : Cx} {M W : Forb} {σ σ' σ₁ σ₂ : List (Option D)} {ω ω' : Owns} {R : Flow → Heap → Prop}

theorem Xs.seq {P P₁ : Heap → Prop} {st : Stmt} {rest : List Stmt} (b : Xs prog w Γ A P₁ M rest R) (a : X1 prog w Γ A P M st (Then P₁ R)) : Xs prog w Γ A P M (st :: rest) R := Xs.cons a b

theorem Xs.assign {x : Str} {l : Option Addr} {d : D} {e : Expr} {p pos : Pos} {rest : List Stmt} (O : Γ.Ok) (a : Ev prog w Γ A M W σ ω e d) (V : VarSet Γ.slots σ x l d σ') (k : Xs prog w Γ A (Hx Γ M W σ' ω) M rest R) (hM : ∀ a, l = some a → M a := by intro _ e; cases e)
    (hs : swapsWith e (some (.Name x p)) pos.line Γ.env = pure false := by rfl) : Xs prog w Γ A (Hx Γ M W σ ω) M (.Assign [.Name x p] e pos :: rest) R :=
  Xs.cons (P₁ := Hx Γ M W σ' ω) (X1.assign O a V hM hs fun _ h => h) k

theorem Xs.assignTo {elts : List Expr} {n : Nat} {tp pos : Pos} {e : Expr} {d : D} {rest : List Stmt} (a : Ev prog w Γ A M W σ ω e d) (t : Tg prog w Γ A M W σ ω (.Tuple elts n tp) d σ') (k : Xs prog w Γ A (Hx Γ M W σ' ω) M rest R)
    (hs : swapsWithSole [.Tuple elts n tp] e pos.line Γ.env = pure false := by rfl) (hw : swappedStores [.Tuple elts n tp] e Γ.env = pure none := by rfl) : Xs prog w Γ A (Hx Γ M W σ ω) M (.Assign [.Tuple elts n tp] e pos :: rest) R :=
  Xs.cons (P₁ := Hx Γ M W σ' ω) (X1.assignTo a t (fun _ h => h) hs hw) k

/-- back at the caller's addresses -/
theorem Xs.ret {e : Expr} {d : D} {pos : Pos} {W₀ : Forb} {rest : List Stmt} (a : Ev prog w Γ A M W σ ω e d) (hW : ∀ b, W₀ b → W b) : Xs prog w Γ A (Hx Γ M W σ ω) M (.Return (some e) pos :: rest) (RetIs W₀ d) := by
  refine Xs.cons (P₁ := fun _ => False) (X1.ret a fun hp v H r => r.sub fun b o e wb => ⟨fun x => wb (hW b x), e⟩) ?_
  exact fun _ _ _ h => h.elim

/-- a loop without break -/
noncomputable def Turn0 (J : List (Option D) → Owns → Prop) (Γ : Cx) (M W : Forb) (R : Flow → Heap → Prop) (f : Flow) (h : Heap) : Prop := match f with
  | .next | .cont => ∃ σ ω, J σ ω ∧ Hx Γ M W σ ω h
  | .brk => False
  | .ret v => R (.ret v) h
theorem Xs.forIn {target iter : Expr} {body rest : List Stmt} {pos : Pos} {ds : List D} (hh : A.handled = none) (it : It prog w Γ A M W σ ω iter ds)
    (J : Nat → List (Option D) → Owns → Prop) (h0 : J 0 σ ω)
    (hb : ∀ W', (∀ b, W b → W' b) → ∀ i d σ₁ ω₁, ds[i]? = some d → J i σ₁ ω₁ → ∃ σ₂, Tg prog w Γ A M W' σ₁ ω₁ target d σ₂ ∧ Xs prog w Γ A (Hx Γ M W' σ₂ ω₁) M body (Turn0 (J (i + 1)) Γ M W' R))
    (k : ∀ σ' ω', J ds.length σ' ω' → Xs prog w Γ A (Hx Γ M W σ' ω') M rest R)
    (hs : ∀ x, foldedSetIterable iter Γ.env x = pure x := by intro _; rfl) :
    Xs prog w Γ A (Hx Γ M W σ ω) M (.For target iter body [] pos :: rest) R := by
  refine Xs.cons (P₁ := fun h => ∃ σ' ω', J ds.length σ' ω' ∧ Hx Γ M W σ' ω' h) (X1.forIn hh it J h0 (fun W' hW i d σ₁ ω₁ hd hJ => ?_) (fun hp σ' ω' a b => ⟨σ', ω', a, b⟩) hs) ?_
  · obtain ⟨σ₂, T, B⟩ := hb W' hW i d σ₁ ω₁ hd hJ
    refine ⟨σ₂, T, B.mono fun f h r => ?_⟩
    cases f with
    | next => exact r
    | cont => exact r
    | brk => exact r.elim
    | ret v => exact r
  · exact fun s Q E ⟨σ', ω', hJ, H⟩ q => k σ' ω' hJ s Q E H q
theorem Xs.turn {J : List (Option D) → Owns → Prop} (h : J σ ω) : Xs prog w Γ A (Hx Γ M W σ ω) M [] (Turn0 J Γ M W R) := Xs.nil fun _ H => ⟨_, _, h, H⟩

/-- a test that leaves, then the rest -/
theorem Xs.guard {t : Expr} {x rest : List Stmt} {pos : Pos} {b : Bool} (a : Ts prog w Γ A M W σ ω t b) (p : b = true → Xs prog w Γ A (Hx Γ M W σ ω) M x (Then (fun _ => False) R)) (q : b = false → Xs prog w Γ A (Hx Γ M W σ ω) M rest R) :
    Xs prog w Γ A (Hx Γ M W σ ω) M (.If t x [] pos :: rest) R := by
  refine Xs.cons (P₁ := fun h => b = false ∧ Hx Γ M W σ ω h) (X1.ite a (fun e => ?_) (fun e => Xs.nil fun _ H => ⟨e, H⟩)) (fun s Q E h k => q h.1 s Q E h.2 k)
  exact (p e).mono fun f h r => by cases f <;> first | exact r.elim | exact r
/-- both branches, and the rest behind each -/
theorem Xs.ite {t : Expr} {x y rest : List Stmt} {pos : Pos} {b : Bool} (a : Ts prog w Γ A M W σ ω t b) (P₁ : Heap → Prop) (p : b = true → Xs prog w Γ A (Hx Γ M W σ ω) M x (Then P₁ R)) (q : b = false → Xs prog w Γ A (Hx Γ M W σ ω) M y (Then P₁ R))
    (k : Xs prog w Γ A P₁ M rest R) : Xs prog w Γ A (Hx Γ M W σ ω) M (.If t x y pos :: rest) R := Xs.cons (X1.ite a p q) k
/-- a known test -/
theorem Xs.ifTrue {t : Expr} {x y rest : List Stmt} {pos : Pos} (a : Ts prog w Γ A M W σ ω t true) (p : Xs prog w Γ A (Hx Γ M W σ ω) M x (Then (Hx Γ M W σ' ω') R)) (k : Xs prog w Γ A (Hx Γ M W σ' ω') M rest R) : Xs prog w Γ A (Hx Γ M W σ ω) M (.If t x y pos :: rest) R :=
  Xs.cons (X1.ite a (fun _ => p) (fun e => nomatch e)) k
theorem Xs.ifFalse {t : Expr} {x y rest : List Stmt} {pos : Pos} (a : Ts prog w Γ A M W σ ω t false) (p : Xs prog w Γ A (Hx Γ M W σ ω) M y (Then (Hx Γ M W σ' ω') R)) (k : Xs prog w Γ A (Hx Γ M W σ' ω') M rest R) : Xs prog w Γ A (Hx Γ M W σ ω) M (.If t x y pos :: rest) R :=
  Xs.cons (X1.ite a (fun e => nomatch e) (fun _ => p)) k
theorem Xs.done : Xs prog w Γ A (Hx Γ M W σ ω) M [] (Then (Hx Γ M W σ ω) R) := Xs.nil fun _ H => H
end
end Mine

-- F1
namespace Mine
open PySem PySem.Spec PySem.Calls PyProof.Rows PySem.W

theorem zspan_get {a b : Int} {i : Nat} {d : D} (h : ((zspan a b).map D.int)[i]? = some d) : i < (b - a).toNat ∧ d = .int (a + i) := by
  simp [zspan, List.getElem?_range] at h
  obtain ⟨a', h1, h2⟩ := h
  rcases Nat.lt_or_ge i (b - a).toNat with hi | hi
  · rw [List.getElem?_range hi] at h1
    cases h1
    exact ⟨hi, h2.symm⟩
  · rw [List.getElem?_eq_none (by simpa using hi)] at h1; cases h1
theorem zspan_length (a b : Int) : ((zspan a b).map D.int).length = (b - a).toNat := by simp [zspan]
theorem zspan_take {a b : Int} {i : Nat} (h : i < (b - a).toNat) : (zspan a b).take (i + 1) = (zspan a b).take i ++ [a + i] := by
  rw [List.take_add_one]
  congr 1
  simp [zspan, h]

noncomputable def ilPart (cnt : List Int) (ts : Int) (j : Nat) : Int := ((zspan ts cnt.length).take j).foldl (fun s i => s + i.fdiv ts * cnt.getD i.toNat 0) 0
theorem ilPart_succ {cnt : List Int} {ts : Int} {i : Nat} (h : i < ((cnt.length : Int) - ts).toNat) : ilPart cnt ts (i + 1) = ilPart cnt ts i + (ts + i).fdiv ts * cnt.getD (ts + i).toNat 0 := by
  unfold ilPart
  rw [zspan_take h, List.foldl_append]; rfl

/-- the column of a Whitespace -/
noncomputable def ilv (c : WS) (ts : Int) : Int := c.b + ts * (ilPart c.cnt ts ((c.cnt.length : Int) - ts).toNat + c.nt)
noncomputable def lrun (c : WS) : Int := if c.b > (c.cnt.length : Int) - 1 then c.b else (c.cnt.length : Int) - 1

section
variable {prog : Program} {w : World}

theorem fn_lt {a b : Int} : Fn prog w 94 1 [.int a, .int b] (.bool (decide (a < b))) := by
  refine Fn.plain (k := 0) (ns := ["a", "b"]) (rest := []) rfl rfl rfl (fun vs hv => ?_) (by decide) (by decide) (by decide) (by decide) rfl rfl rfl fun A hb L W R G hL O => ?_
  · match vs, hv with
    | [_, _], _ => rfl
  refine Xs.one (X1.ret (d := .bool (decide (a < b))) (Ev.cmp (Ev.name O .head) (Ev.name O (.tail .head)) Cmp.lt) fun hp v H r => r.sub fun b o e wb => ⟨fun x => wb (.inr x), e⟩)
theorem fn_gt {a b : Int} : Fn prog w 101 1 [.int a, .int b] (.bool (decide (b < a))) := by
  refine Fn.plain (k := 0) (ns := ["a", "b"]) (rest := []) rfl rfl rfl (fun vs hv => ?_) (by decide) (by decide) (by decide) (by decide) rfl rfl rfl fun A hb L W R G hL O => ?_
  · match vs, hv with
    | [_, _], _ => rfl
  refine Xs.one (X1.ret (d := .bool (decide (b < a))) (Ev.cmp (Ev.name O .head) (Ev.name O (.tail .head)) Cmp.gt) fun hp v H r => r.sub fun b o e wb => ⟨fun x => wb (.inr x), e⟩)
theorem fn_mul {a : Str} {b : Int} (hz : a.length ≤ 1000) (hb : b ≤ 1000) (hb' : -1000 ≤ b) : Fn prog w 108 1 [.str a, .int b] (.str (Txt.mul a b)) := by
  refine Fn.plain (k := 0) (ns := ["a", "b"]) (rest := []) rfl rfl rfl (fun vs hv => ?_) (by decide) (by decide) (by decide) (by decide) rfl rfl rfl fun A hb₀ L W R G hL O => ?_
  · match vs, hv with
    | [_, _], _ => rfl
  refine Xs.one (X1.ret (d := .str (Txt.mul a b)) (Ev.bin (Ev.name O .head) (Ev.name O (.tail .head)) (Bin.mulS hz hb hb')) fun hp v H r => r.sub fun b o e wb => ⟨fun x => wb (.inr x), e⟩)
theorem fn_sub {a b : Int} : Fn prog w 115 1 [.int a, .int b] (.int (a - b)) := by
  refine Fn.plain (k := 0) (ns := ["a", "b"]) (rest := []) rfl rfl rfl (fun vs hv => ?_) (by decide) (by decide) (by decide) (by decide) rfl rfl rfl fun A hb L W R G hL O => ?_
  · match vs, hv with
    | [_, _], _ => rfl
  refine Xs.one (X1.ret (d := .int (a - b)) (Ev.bin (Ev.name O .head) (Ev.name O (.tail .head)) Bin.sub) fun hp v H r => r.sub fun b o e wb => ⟨fun x => wb (.inr x), e⟩)

theorem fn_lrun {c : WS} (hz : c.cnt.length < 1000) : Fn prog w 45 1 [.ws c] (.int (lrun c)) := by
  refine Fn.plain (k := 2) (ns := ["self"]) (rest := ["count", "trailing"]) rfl rfl rfl (fun vs hv => ?_) (by decide) (by decide) (by decide) (by decide) rfl rfl rfl fun A hb L W R G hL O => ?_
  · match vs, hv with
    | [_], _ => rfl
  refine Xs.assignTo (Ev.attr G (Ev.name O .head) rfl) (Tg.pair O R.hand (.tail .head) (.tail (.tail .head)) (fun _ e => nomatch e) (fun _ e => nomatch e)) ?_
  refine Xs.ret ?_ fun b => .inr
  have hl : (((c.cnt.map D.int).length : Nat) : Int) = c.cnt.length := by simp
  refine Ev.callB (Ev.built G O rfl rfl) (Es.cons (Ev.bin (Ev.lenT (Ev.built G O rfl rfl) (Ev.name O (.tail .head)) (by rw [List.length_map]; omega)) Ev.int Bin.sub) (Es.cons (Ev.name O (.tail (.tail .head))) Es.nil)) ?_
  rw [hl]
  exact Bf.max2 R.hand

theorem fn_il {c : WS} {ts : Int} (hz : c.cnt.length < 1000) (h1 : 1 ≤ ts) (h2 : ts ≤ 1000) : Fn prog w 52 1 [.ws c, .int ts] (.int (ilv c ts)) := by
  refine Fn.plain (k := 4) (ns := ["self", "tabsize"]) (rest := ["count", "trailing", "il", "i"]) rfl rfl rfl (fun vs hv => ?_) (by decide) (by decide) (by decide) (by decide) rfl rfl rfl fun A hb L W R G hL O => ?_
  · match vs, hv with
    | [_, _], _ => rfl
  have hl : (((c.cnt.map D.int).length : Nat) : Int) = c.cnt.length := by simp
  refine Xs.assignTo (Ev.attr G (Ev.name O .head) rfl) (Tg.pair O R.hand (.tail (.tail .head)) (.tail (.tail (.tail .head))) (fun _ e => nomatch e) (fun _ e => nomatch e)) ?_
  refine Xs.assign O Ev.int (.tail (.tail (.tail (.tail .head)))) ?_
  refine Xs.forIn R.hand (It.range2 (Ev.built G O rfl rfl) (Ev.name O (.tail .head)) (Ev.lenT (Ev.built G O rfl rfl) (Ev.name O (.tail (.tail .head))) (by rw [List.length_map]; omega)) (by omega) (by omega) (by omega) (by rw [hl]; omega))
      (fun j σ ω => ω = [] ∧ ∃ e, σ = [some (.ws c), some (.int ts), some (.tup (c.cnt.map .int)), some (.int c.b), some (.int (ilPart c.cnt ts j)), e]) ⟨rfl, _, rfl⟩ (fun W' hW i d σ ω hd hJ => ?_) (fun σ ω hJ => ?_)
  · obtain ⟨rfl, e, rfl⟩ := hJ
    rw [hl] at hd
    obtain ⟨hi, rfl⟩ := zspan_get hd
    refine ⟨_, Tg.name O (.tail (.tail (.tail (.tail (.tail .head))))) (fun _ e => nomatch e), Xs.assign (d := .int (ilPart c.cnt ts (i + 1))) O ?_ (.tail (.tail (.tail (.tail .head)))) (Xs.turn ⟨rfl, _, rfl⟩)⟩
    rw [ilPart_succ hi]
    have hk : (c.cnt.map D.int)[(ts + (i : Int)).toNat]? = some (.int (c.cnt.getD (ts + (i : Int)).toNat 0)) := by
      have : (ts + (i : Int)).toNat < c.cnt.length := by omega
      simp [List.getD, this]
    have hq : (ts + (i : Int)).fdiv ts ≤ 1000 ∧ 0 ≤ (ts + (i : Int)).fdiv ts := by
      rw [Int.fdiv_eq_ediv_of_nonneg _ (by omega)]
      refine ⟨?_, Int.ediv_nonneg (by omega) (by omega)⟩
      exact Int.le_trans (Int.ediv_le_self _ (by omega)) (by omega)
    exact Ev.bin (Ev.name O (.tail (.tail (.tail (.tail .head))))) (Ev.bin (Ev.bin (Ev.name O (.tail (.tail (.tail (.tail (.tail .head)))))) (Ev.name O (.tail .head)) (Bin.div (by omega) (by omega) (by omega) (by omega) (by omega)))
      (Ev.itemT (Ev.name O (.tail (.tail .head))) (Ev.name O (.tail (.tail (.tail (.tail (.tail .head)))))) (by omega) hk (hz := by rw [List.length_map]; omega)) (Bin.mul (by omega) (by omega))) Bin.add
  · obtain ⟨rfl, e, rfl⟩ := hJ
    rw [zspan_length, hl]
    refine Xs.ret ?_ fun b => .inr
    exact Ev.bin (Ev.name O (.tail (.tail (.tail .head)))) (Ev.bin (Ev.name O (.tail .head)) (Ev.bin (Ev.name O (.tail (.tail (.tail (.tail .head))))) (Ev.attr G (Ev.name O .head) rfl) Bin.add) (Bin.mul (by omega) (by omega))) Bin.add
end
end Mine

-- L13
namespace Mine
open PySem PySem.Spec PySem.Calls PyProof.Rows PySem.W
theorem VarAt.i0 {x : Str} {l : Option Addr} {ps : Slots} {d : D} {ds : List (Option D)} : VarAt ((x, l) :: ps) (some d :: ds) x l d := .head
theorem VarSet.i0 {x : Str} {l : Option Addr} {ps : Slots} {d : D} {e : Option D} {ds : List (Option D)} : VarSet ((x, l) :: ps) (e :: ds) x l d (some d :: ds) := .head
theorem VarAt.i1 {p0 : Str × Option Addr} {e0 : Option D} {x : Str} {l : Option Addr} {ps : Slots} {d : D} {ds : List (Option D)} : VarAt (p0 :: (x, l) :: ps) (e0 :: some d :: ds) x l d := .tail (.head)
theorem VarSet.i1 {p0 : Str × Option Addr} {e0 : Option D} {x : Str} {l : Option Addr} {ps : Slots} {d : D} {e : Option D} {ds : List (Option D)} : VarSet (p0 :: (x, l) :: ps) (e0 :: e :: ds) x l d (e0 :: some d :: ds) := .tail (.head)
theorem VarAt.i2 {p0 : Str × Option Addr} {e0 : Option D} {p1 : Str × Option Addr} {e1 : Option D} {x : Str} {l : Option Addr} {ps : Slots} {d : D} {ds : List (Option D)} : VarAt (p0 :: p1 :: (x, l) :: ps) (e0 :: e1 :: some d :: ds) x l d := .tail (.tail (.head))
theorem VarSet.i2 {p0 : Str × Option Addr} {e0 : Option D} {p1 : Str × Option Addr} {e1 : Option D} {x : Str} {l : Option Addr} {ps : Slots} {d : D} {e : Option D} {ds : List (Option D)} : VarSet (p0 :: p1 :: (x, l) :: ps) (e0 :: e1 :: e :: ds) x l d (e0 :: e1 :: some d :: ds) := .tail (.tail (.head))
theorem VarAt.i3 {p0 : Str × Option Addr} {e0 : Option D} {p1 : Str × Option Addr} {e1 : Option D} {p2 : Str × Option Addr} {e2 : Option D} {x : Str} {l : Option Addr} {ps : Slots} {d : D} {ds : List (Option D)} : VarAt (p0 :: p1 :: p2 :: (x, l) :: ps) (e0 :: e1 :: e2 :: some d :: ds) x l d := .tail (.tail (.tail (.head)))
theorem VarSet.i3 {p0 : Str × Option Addr} {e0 : Option D} {p1 : Str × Option Addr} {e1 : Option D} {p2 : Str × Option Addr} {e2 : Option D} {x : Str} {l : Option Addr} {ps : Slots} {d : D} {e : Option D} {ds : List (Option D)} : VarSet (p0 :: p1 :: p2 :: (x, l) :: ps) (e0 :: e1 :: e2 :: e :: ds) x l d (e0 :: e1 :: e2 :: some d :: ds) := .tail (.tail (.tail (.head)))
theorem VarAt.i4 {p0 : Str × Option Addr} {e0 : Option D} {p1 : Str × Option Addr} {e1 : Option D} {p2 : Str × Option Addr} {e2 : Option D} {p3 : Str × Option Addr} {e3 : Option D} {x : Str} {l : Option Addr} {ps : Slots} {d : D} {ds : List (Option D)} : VarAt (p0 :: p1 :: p2 :: p3 :: (x, l) :: ps) (e0 :: e1 :: e2 :: e3 :: some d :: ds) x l d := .tail (.tail (.tail (.tail (.head))))
theorem VarSet.i4 {p0 : Str × Option Addr} {e0 : Option D} {p1 : Str × Option Addr} {e1 : Option D} {p2 : Str × Option Addr} {e2 : Option D} {p3 : Str × Option Addr} {e3 : Option D} {x : Str} {l : Option Addr} {ps : Slots} {d : D} {e : Option D} {ds : List (Option D)} : VarSet (p0 :: p1 :: p2 :: p3 :: (x, l) :: ps) (e0 :: e1 :: e2 :: e3 :: e :: ds) x l d (e0 :: e1 :: e2 :: e3 :: some d :: ds) := .tail (.tail (.tail (.tail (.head))))
theorem VarAt.i5 {p0 : Str × Option Addr} {e0 : Option D} {p1 : Str × Option Addr} {e1 : Option D} {p2 : Str × Option Addr} {e2 : Option D} {p3 : Str × Option Addr} {e3 : Option D} {p4 : Str × Option Addr} {e4 : Option D} {x : Str} {l : Option Addr} {ps : Slots} {d : D} {ds : List (Option D)} : VarAt (p0 :: p1 :: p2 :: p3 :: p4 :: (x, l) :: ps) (e0 :: e1 :: e2 :: e3 :: e4 :: some d :: ds) x l d := .tail (.tail (.tail (.tail (.tail (.head)))))
theorem VarSet.i5 {p0 : Str × Option Addr} {e0 : Option D} {p1 : Str × Option Addr} {e1 : Option D} {p2 : Str × Option Addr} {e2 : Option D} {p3 : Str × Option Addr} {e3 : Option D} {p4 : Str × Option Addr} {e4 : Option D} {x : Str} {l : Option Addr} {ps : Slots} {d : D} {e : Option D} {ds : List (Option D)} : VarSet (p0 :: p1 :: p2 :: p3 :: p4 :: (x, l) :: ps) (e0 :: e1 :: e2 :: e3 :: e4 :: e :: ds) x l d (e0 :: e1 :: e2 :: e3 :: e4 :: some d :: ds) := .tail (.tail (.tail (.tail (.tail (.head)))))
theorem VarAt.i6 {p0 : Str × Option Addr} {e0 : Option D} {p1 : Str × Option Addr} {e1 : Option D} {p2 : Str × Option Addr} {e2 : Option D} {p3 : Str × Option Addr} {e3 : Option D} {p4 : Str × Option Addr} {e4 : Option D} {p5 : Str × Option Addr} {e5 : Option D} {x : Str} {l : Option Addr} {ps : Slots} {d : D} {ds : List (Option D)} : VarAt (p0 :: p1 :: p2 :: p3 :: p4 :: p5 :: (x, l) :: ps) (e0 :: e1 :: e2 :: e3 :: e4 :: e5 :: some d :: ds) x l d := .tail (.tail (.tail (.tail (.tail (.tail (.head))))))
theorem VarSet.i6 {p0 : Str × Option Addr} {e0 : Option D} {p1 : Str × Option Addr} {e1 : Option D} {p2 : Str × Option Addr} {e2 : Option D} {p3 : Str × Option Addr} {e3 : Option D} {p4 : Str × Option Addr} {e4 : Option D} {p5 : Str × Option Addr} {e5 : Option D} {x : Str} {l : Option Addr} {ps : Slots} {d : D} {e : Option D} {ds : List (Option D)} : VarSet (p0 :: p1 :: p2 :: p3 :: p4 :: p5 :: (x, l) :: ps) (e0 :: e1 :: e2 :: e3 :: e4 :: e5 :: e :: ds) x l d (e0 :: e1 :: e2 :: e3 :: e4 :: e5 :: some d :: ds) := .tail (.tail (.tail (.tail (.tail (.tail (.head))))))
theorem VarAt.i7 {p0 : Str × Option Addr} {e0 : Option D} {p1 : Str × Option Addr} {e1 : Option D} {p2 : Str × Option Addr} {e2 : Option D} {p3 : Str × Option Addr} {e3 : Option D} {p4 : Str × Option Addr} {e4 : Option D} {p5 : Str × Option Addr} {e5 : Option D} {p6 : Str × Option Addr} {e6 : Option D} {x : Str} {l : Option Addr} {ps : Slots} {d : D} {ds : List (Option D)} : VarAt (p0 :: p1 :: p2 :: p3 :: p4 :: p5 :: p6 :: (x, l) :: ps) (e0 :: e1 :: e2 :: e3 :: e4 :: e5 :: e6 :: some d :: ds) x l d := .tail (.tail (.tail (.tail (.tail (.tail (.tail (.head)))))))
theorem VarSet.i7 {p0 : Str × Option Addr} {e0 : Option D} {p1 : Str × Option Addr} {e1 : Option D} {p2 : Str × Option Addr} {e2 : Option D} {p3 : Str × Option Addr} {e3 : Option D} {p4 : Str × Option Addr} {e4 : Option D} {p5 : Str × Option Addr} {e5 : Option D} {p6 : Str × Option Addr} {e6 : Option D} {x : Str} {l : Option Addr} {ps : Slots} {d : D} {e : Option D} {ds : List (Option D)} : VarSet (p0 :: p1 :: p2 :: p3 :: p4 :: p5 :: p6 :: (x, l) :: ps) (e0 :: e1 :: e2 :: e3 :: e4 :: e5 :: e6 :: e :: ds) x l d (e0 :: e1 :: e2 :: e3 :: e4 :: e5 :: e6 :: some d :: ds) := .tail (.tail (.tail (.tail (.tail (.tail (.tail (.head)))))))
theorem VarAt.i8 {p0 : Str × Option Addr} {e0 : Option D} {p1 : Str × Option Addr} {e1 : Option D} {p2 : Str × Option Addr} {e2 : Option D} {p3 : Str × Option Addr} {e3 : Option D} {p4 : Str × Option Addr} {e4 : Option D} {p5 : Str × Option Addr} {e5 : Option D} {p6 : Str × Option Addr} {e6 : Option D} {p7 : Str × Option Addr} {e7 : Option D} {x : Str} {l : Option Addr} {ps : Slots} {d : D} {ds : List (Option D)} : VarAt (p0 :: p1 :: p2 :: p3 :: p4 :: p5 :: p6 :: p7 :: (x, l) :: ps) (e0 :: e1 :: e2 :: e3 :: e4 :: e5 :: e6 :: e7 :: some d :: ds) x l d := .tail (.tail (.tail (.tail (.tail (.tail (.tail (.tail (.head))))))))
theorem VarSet.i8 {p0 : Str × Option Addr} {e0 : Option D} {p1 : Str × Option Addr} {e1 : Option D} {p2 : Str × Option Addr} {e2 : Option D} {p3 : Str × Option Addr} {e3 : Option D} {p4 : Str × Option Addr} {e4 : Option D} {p5 : Str × Option Addr} {e5 : Option D} {p6 : Str × Option Addr} {e6 : Option D} {p7 : Str × Option Addr} {e7 : Option D} {x : Str} {l : Option Addr} {ps : Slots} {d : D} {e : Option D} {ds : List (Option D)} : VarSet (p0 :: p1 :: p2 :: p3 :: p4 :: p5 :: p6 :: p7 :: (x, l) :: ps) (e0 :: e1 :: e2 :: e3 :: e4 :: e5 :: e6 :: e7 :: e :: ds) x l d (e0 :: e1 :: e2 :: e3 :: e4 :: e5 :: e6 :: e7 :: some d :: ds) := .tail (.tail (.tail (.tail (.tail (.tail (.tail (.tail (.head))))))))
theorem VarAt.i9 {p0 : Str × Option Addr} {e0 : Option D} {p1 : Str × Option Addr} {e1 : Option D} {p2 : Str × Option Addr} {e2 : Option D} {p3 : Str × Option Addr} {e3 : Option D} {p4 : Str × Option Addr} {e4 : Option D} {p5 : Str × Option Addr} {e5 : Option D} {p6 : Str × Option Addr} {e6 : Option D} {p7 : Str × Option Addr} {e7 : Option D} {p8 : Str × Option Addr} {e8 : Option D} {x : Str} {l : Option Addr} {ps : Slots} {d : D} {ds : List (Option D)} : VarAt (p0 :: p1 :: p2 :: p3 :: p4 :: p5 :: p6 :: p7 :: p8 :: (x, l) :: ps) (e0 :: e1 :: e2 :: e3 :: e4 :: e5 :: e6 :: e7 :: e8 :: some d :: ds) x l d := .tail (.tail (.tail (.tail (.tail (.tail (.tail (.tail (.tail (.head)))))))))
theorem VarSet.i9 {p0 : Str × Option Addr} {e0 : Option D} {p1 : Str × Option Addr} {e1 : Option D} {p2 : Str × Option Addr} {e2 : Option D} {p3 : Str × Option Addr} {e3 : Option D} {p4 : Str × Option Addr} {e4 : Option D} {p5 : Str × Option Addr} {e5 : Option D} {p6 : Str × Option Addr} {e6 : Option D} {p7 : Str × Option Addr} {e7 : Option D} {p8 : Str × Option Addr} {e8 : Option D} {x : Str} {l : Option Addr} {ps : Slots} {d : D} {e : Option D} {ds : List (Option D)} : VarSet (p0 :: p1 :: p2 :: p3 :: p4 :: p5 :: p6 :: p7 :: p8 :: (x, l) :: ps) (e0 :: e1 :: e2 :: e3 :: e4 :: e5 :: e6 :: e7 :: e8 :: e :: ds) x l d (e0 :: e1 :: e2 :: e3 :: e4 :: e5 :: e6 :: e7 :: e8 :: some d :: ds) := .tail (.tail (.tail (.tail (.tail (.tail (.tail (.tail (.tail (.head)))))))))
theorem VarAt.i10 {p0 : Str × Option Addr} {e0 : Option D} {p1 : Str × Option Addr} {e1 : Option D} {p2 : Str × Option Addr} {e2 : Option D} {p3 : Str × Option Addr} {e3 : Option D} {p4 : Str × Option Addr} {e4 : Option D} {p5 : Str × Option Addr} {e5 : Option D} {p6 : Str × Option Addr} {e6 : Option D} {p7 : Str × Option Addr} {e7 : Option D} {p8 : Str × Option Addr} {e8 : Option D} {p9 : Str × Option Addr} {e9 : Option D} {x : Str} {l : Option Addr} {ps : Slots} {d : D} {ds : List (Option D)} : VarAt (p0 :: p1 :: p2 :: p3 :: p4 :: p5 :: p6 :: p7 :: p8 :: p9 :: (x, l) :: ps) (e0 :: e1 :: e2 :: e3 :: e4 :: e5 :: e6 :: e7 :: e8 :: e9 :: some d :: ds) x l d := .tail (.tail (.tail (.tail (.tail (.tail (.tail (.tail (.tail (.tail (.head))))))))))
theorem VarSet.i10 {p0 : Str × Option Addr} {e0 : Option D} {p1 : Str × Option Addr} {e1 : Option D} {p2 : Str × Option Addr} {e2 : Option D} {p3 : Str × Option Addr} {e3 : Option D} {p4 : Str × Option Addr} {e4 : Option D} {p5 : Str × Option Addr} {e5 : Option D} {p6 : Str × Option Addr} {e6 : Option D} {p7 : Str × Option Addr} {e7 : Option D} {p8 : Str × Option Addr} {e8 : Option D} {p9 : Str × Option Addr} {e9 : Option D} {x : Str} {l : Option Addr} {ps : Slots} {d : D} {e : Option D} {ds : List (Option D)} : VarSet (p0 :: p1 :: p2 :: p3 :: p4 :: p5 :: p6 :: p7 :: p8 :: p9 :: (x, l) :: ps) (e0 :: e1 :: e2 :: e3 :: e4 :: e5 :: e6 :: e7 :: e8 :: e9 :: e :: ds) x l d (e0 :: e1 :: e2 :: e3 :: e4 :: e5 :: e6 :: e7 :: e8 :: e9 :: some d :: ds) := .tail (.tail (.tail (.tail (.tail (.tail (.tail (.tail (.tail (.tail (.head))))))))))
theorem VarAt.i11 {p0 : Str × Option Addr} {e0 : Option D} {p1 : Str × Option Addr} {e1 : Option D} {p2 : Str × Option Addr} {e2 : Option D} {p3 : Str × Option Addr} {e3 : Option D} {p4 : Str × Option Addr} {e4 : Option D} {p5 : Str × Option Addr} {e5 : Option D} {p6 : Str × Option Addr} {e6 : Option D} {p7 : Str × Option Addr} {e7 : Option D} {p8 : Str × Option Addr} {e8 : Option D} {p9 : Str × Option Addr} {e9 : Option D} {p10 : Str × Option Addr} {e10 : Option D} {x : Str} {l : Option Addr} {ps : Slots} {d : D} {ds : List (Option D)} : VarAt (p0 :: p1 :: p2 :: p3 :: p4 :: p5 :: p6 :: p7 :: p8 :: p9 :: p10 :: (x, l) :: ps) (e0 :: e1 :: e2 :: e3 :: e4 :: e5 :: e6 :: e7 :: e8 :: e9 :: e10 :: some d :: ds) x l d := .tail (.tail (.tail (.tail (.tail (.tail (.tail (.tail (.tail (.tail (.tail (.head)))))))))))
theorem VarSet.i11 {p0 : Str × Option Addr} {e0 : Option D} {p1 : Str × Option Addr} {e1 : Option D} {p2 : Str × Option Addr} {e2 : Option D} {p3 : Str × Option Addr} {e3 : Option D} {p4 : Str × Option Addr} {e4 : Option D} {p5 : Str × Option Addr} {e5 : Option D} {p6 : Str × Option Addr} {e6 : Option D} {p7 : Str × Option Addr} {e7 : Option D} {p8 : Str × Option Addr} {e8 : Option D} {p9 : Str × Option Addr} {e9 : Option D} {p10 : Str × Option Addr} {e10 : Option D} {x : Str} {l : Option Addr} {ps : Slots} {d : D} {e : Option D} {ds : List (Option D)} : VarSet (p0 :: p1 :: p2 :: p3 :: p4 :: p5 :: p6 :: p7 :: p8 :: p9 :: p10 :: (x, l) :: ps) (e0 :: e1 :: e2 :: e3 :: e4 :: e5 :: e6 :: e7 :: e8 :: e9 :: e10 :: e :: ds) x l d (e0 :: e1 :: e2 :: e3 :: e4 :: e5 :: e6 :: e7 :: e8 :: e9 :: e10 :: some d :: ds) := .tail (.tail (.tail (.tail (.tail (.tail (.tail (.tail (.tail (.tail (.tail (.head)))))))))))
theorem VarAt.i12 {p0 : Str × Option Addr} {e0 : Option D} {p1 : Str × Option Addr} {e1 : Option D} {p2 : Str × Option Addr} {e2 : Option D} {p3 : Str × Option Addr} {e3 : Option D} {p4 : Str × Option Addr} {e4 : Option D} {p5 : Str × Option Addr} {e5 : Option D} {p6 : Str × Option Addr} {e6 : Option D} {p7 : Str × Option Addr} {e7 : Option D} {p8 : Str × Option Addr} {e8 : Option D} {p9 : Str × Option Addr} {e9 : Option D} {p10 : Str × Option Addr} {e10 : Option D} {p11 : Str × Option Addr} {e11 : Option D} {x : Str} {l : Option Addr} {ps : Slots} {d : D} {ds : List (Option D)} : VarAt (p0 :: p1 :: p2 :: p3 :: p4 :: p5 :: p6 :: p7 :: p8 :: p9 :: p10 :: p11 :: (x, l) :: ps) (e0 :: e1 :: e2 :: e3 :: e4 :: e5 :: e6 :: e7 :: e8 :: e9 :: e10 :: e11 :: some d :: ds) x l d := .tail (.tail (.tail (.tail (.tail (.tail (.tail (.tail (.tail (.tail (.tail (.tail (.head))))))))))))
theorem VarSet.i12 {p0 : Str × Option Addr} {e0 : Option D} {p1 : Str × Option Addr} {e1 : Option D} {p2 : Str × Option Addr} {e2 : Option D} {p3 : Str × Option Addr} {e3 : Option D} {p4 : Str × Option Addr} {e4 : Option D} {p5 : Str × Option Addr} {e5 : Option D} {p6 : Str × Option Addr} {e6 : Option D} {p7 : Str × Option Addr} {e7 : Option D} {p8 : Str × Option Addr} {e8 : Option D} {p9 : Str × Option Addr} {e9 : Option D} {p10 : Str × Option Addr} {e10 : Option D} {p11 : Str × Option Addr} {e11 : Option D} {x : Str} {l : Option Addr} {ps : Slots} {d : D} {e : Option D} {ds : List (Option D)} : VarSet (p0 :: p1 :: p2 :: p3 :: p4 :: p5 :: p6 :: p7 :: p8 :: p9 :: p10 :: p11 :: (x, l) :: ps) (e0 :: e1 :: e2 :: e3 :: e4 :: e5 :: e6 :: e7 :: e8 :: e9 :: e10 :: e11 :: e :: ds) x l d (e0 :: e1 :: e2 :: e3 :: e4 :: e5 :: e6 :: e7 :: e8 :: e9 :: e10 :: e11 :: some d :: ds) := .tail (.tail (.tail (.tail (.tail (.tail (.tail (.tail (.tail (.tail (.tail (.tail (.head))))))))))))
theorem VarAt.i13 {p0 : Str × Option Addr} {e0 : Option D} {p1 : Str × Option Addr} {e1 : Option D} {p2 : Str × Option Addr} {e2 : Option D} {p3 : Str × Option Addr} {e3 : Option D} {p4 : Str × Option Addr} {e4 : Option D} {p5 : Str × Option Addr} {e5 : Option D} {p6 : Str × Option Addr} {e6 : Option D} {p7 : Str × Option Addr} {e7 : Option D} {p8 : Str × Option Addr} {e8 : Option D} {p9 : Str × Option Addr} {e9 : Option D} {p10 : Str × Option Addr} {e10 : Option D} {p11 : Str × Option Addr} {e11 : Option D} {p12 : Str × Option Addr} {e12 : Option D} {x : Str} {l : Option Addr} {ps : Slots} {d : D} {ds : List (Option D)} : VarAt (p0 :: p1 :: p2 :: p3 :: p4 :: p5 :: p6 :: p7 :: p8 :: p9 :: p10 :: p11 :: p12 :: (x, l) :: ps) (e0 :: e1 :: e2 :: e3 :: e4 :: e5 :: e6 :: e7 :: e8 :: e9 :: e10 :: e11 :: e12 :: some d :: ds) x l d := .tail (.tail (.tail (.tail (.tail (.tail (.tail (.tail (.tail (.tail (.tail (.tail (.tail (.head)))))))))))))
theorem VarSet.i13 {p0 : Str × Option Addr} {e0 : Option D} {p1 : Str × Option Addr} {e1 : Option D} {p2 : Str × Option Addr} {e2 : Option D} {p3 : Str × Option Addr} {e3 : Option D} {p4 : Str × Option Addr} {e4 : Option D} {p5 : Str × Option Addr} {e5 : Option D} {p6 : Str × Option Addr} {e6 : Option D} {p7 : Str × Option Addr} {e7 : Option D} {p8 : Str × Option Addr} {e8 : Option D} {p9 : Str × Option Addr} {e9 : Option D} {p10 : Str × Option Addr} {e10 : Option D} {p11 : Str × Option Addr} {e11 : Option D} {p12 : Str × Option Addr} {e12 : Option D} {x : Str} {l : Option Addr} {ps : Slots} {d : D} {e : Option D} {ds : List (Option D)} : VarSet (p0 :: p1 :: p2 :: p3 :: p4 :: p5 :: p6 :: p7 :: p8 :: p9 :: p10 :: p11 :: p12 :: (x, l) :: ps) (e0 :: e1 :: e2 :: e3 :: e4 :: e5 :: e6 :: e7 :: e8 :: e9 :: e10 :: e11 :: e12 :: e :: ds) x l d (e0 :: e1 :: e2 :: e3 :: e4 :: e5 :: e6 :: e7 :: e8 :: e9 :: e10 :: e11 :: e12 :: some d :: ds) := .tail (.tail (.tail (.tail (.tail (.tail (.tail (.tail (.tail (.tail (.tail (.tail (.tail (.head)))))))))))))
theorem VarAt.i14 {p0 : Str × Option Addr} {e0 : Option D} {p1 : Str × Option Addr} {e1 : Option D} {p2 : Str × Option Addr} {e2 : Option D} {p3 : Str × Option Addr} {e3 : Option D} {p4 : Str × Option Addr} {e4 : Option D} {p5 : Str × Option Addr} {e5 : Option D} {p6 : Str × Option Addr} {e6 : Option D} {p7 : Str × Option Addr} {e7 : Option D} {p8 : Str × Option Addr} {e8 : Option D} {p9 : Str × Option Addr} {e9 : Option D} {p10 : Str × Option Addr} {e10 : Option D} {p11 : Str × Option Addr} {e11 : Option D} {p12 : Str × Option Addr} {e12 : Option D} {p13 : Str × Option Addr} {e13 : Option D} {x : Str} {l : Option Addr} {ps : Slots} {d : D} {ds : List (Option D)} : VarAt (p0 :: p1 :: p2 :: p3 :: p4 :: p5 :: p6 :: p7 :: p8 :: p9 :: p10 :: p11 :: p12 :: p13 :: (x, l) :: ps) (e0 :: e1 :: e2 :: e3 :: e4 :: e5 :: e6 :: e7 :: e8 :: e9 :: e10 :: e11 :: e12 :: e13 :: some d :: ds) x l d := .tail (.tail (.tail (.tail (.tail (.tail (.tail (.tail (.tail (.tail (.tail (.tail (.tail (.tail (.head))))))))))))))
theorem VarSet.i14 {p0 : Str × Option Addr} {e0 : Option D} {p1 : Str × Option Addr} {e1 : Option D} {p2 : Str × Option Addr} {e2 : Option D} {p3 : Str × Option Addr} {e3 : Option D} {p4 : Str × Option Addr} {e4 : Option D} {p5 : Str × Option Addr} {e5 : Option D} {p6 : Str × Option Addr} {e6 : Option D} {p7 : Str × Option Addr} {e7 : Option D} {p8 : Str × Option Addr} {e8 : Option D} {p9 : Str × Option Addr} {e9 : Option D} {p10 : Str × Option Addr} {e10 : Option D} {p11 : Str × Option Addr} {e11 : Option D} {p12 : Str × Option Addr} {e12 : Option D} {p13 : Str × Option Addr} {e13 : Option D} {x : Str} {l : Option Addr} {ps : Slots} {d : D} {e : Option D} {ds : List (Option D)} : VarSet (p0 :: p1 :: p2 :: p3 :: p4 :: p5 :: p6 :: p7 :: p8 :: p9 :: p10 :: p11 :: p12 :: p13 :: (x, l) :: ps) (e0 :: e1 :: e2 :: e3 :: e4 :: e5 :: e6 :: e7 :: e8 :: e9 :: e10 :: e11 :: e12 :: e13 :: e :: ds) x l d (e0 :: e1 :: e2 :: e3 :: e4 :: e5 :: e6 :: e7 :: e8 :: e9 :: e10 :: e11 :: e12 :: e13 :: some d :: ds) := .tail (.tail (.tail (.tail (.tail (.tail (.tail (.tail (.tail (.tail (.tail (.tail (.tail (.tail (.head))))))))))))))
theorem VarAt.i15 {p0 : Str × Option Addr} {e0 : Option D} {p1 : Str × Option Addr} {e1 : Option D} {p2 : Str × Option Addr} {e2 : Option D} {p3 : Str × Option Addr} {e3 : Option D} {p4 : Str × Option Addr} {e4 : Option D} {p5 : Str × Option Addr} {e5 : Option D} {p6 : Str × Option Addr} {e6 : Option D} {p7 : Str × Option Addr} {e7 : Option D} {p8 : Str × Option Addr} {e8 : Option D} {p9 : Str × Option Addr} {e9 : Option D} {p10 : Str × Option Addr} {e10 : Option D} {p11 : Str × Option Addr} {e11 : Option D} {p12 : Str × Option Addr} {e12 : Option D} {p13 : Str × Option Addr} {e13 : Option D} {p14 : Str × Option Addr} {e14 : Option D} {x : Str} {l : Option Addr} {ps : Slots} {d : D} {ds : List (Option D)} : VarAt (p0 :: p1 :: p2 :: p3 :: p4 :: p5 :: p6 :: p7 :: p8 :: p9 :: p10 :: p11 :: p12 :: p13 :: p14 :: (x, l) :: ps) (e0 :: e1 :: e2 :: e3 :: e4 :: e5 :: e6 :: e7 :: e8 :: e9 :: e10 :: e11 :: e12 :: e13 :: e14 :: some d :: ds) x l d := .tail (.tail (.tail (.tail (.tail (.tail (.tail (.tail (.tail (.tail (.tail (.tail (.tail (.tail (.tail (.head)))))))))))))))
theorem VarSet.i15 {p0 : Str × Option Addr} {e0 : Option D} {p1 : Str × Option Addr} {e1 : Option D} {p2 : Str × Option Addr} {e2 : Option D} {p3 : Str × Option Addr} {e3 : Option D} {p4 : Str × Option Addr} {e4 : Option D} {p5 : Str × Option Addr} {e5 : Option D} {p6 : Str × Option Addr} {e6 : Option D} {p7 : Str × Option Addr} {e7 : Option D} {p8 : Str × Option Addr} {e8 : Option D} {p9 : Str × Option Addr} {e9 : Option D} {p10 : Str × Option Addr} {e10 : Option D} {p11 : Str × Option Addr} {e11 : Option D} {p12 : Str × Option Addr} {e12 : Option D} {p13 : Str × Option Addr} {e13 : Option D} {p14 : Str × Option Addr} {e14 : Option D} {x : Str} {l : Option Addr} {ps : Slots} {d : D} {e : Option D} {ds : List (Option D)} : VarSet (p0 :: p1 :: p2 :: p3 :: p4 :: p5 :: p6 :: p7 :: p8 :: p9 :: p10 :: p11 :: p12 :: p13 :: p14 :: (x, l) :: ps) (e0 :: e1 :: e2 :: e3 :: e4 :: e5 :: e6 :: e7 :: e8 :: e9 :: e10 :: e11 :: e12 :: e13 :: e14 :: e :: ds) x l d (e0 :: e1 :: e2 :: e3 :: e4 :: e5 :: e6 :: e7 :: e8 :: e9 :: e10 :: e11 :: e12 :: e13 :: e14 :: some d :: ds) := .tail (.tail (.tail (.tail (.tail (.tail (.tail (.tail (.tail (.tail (.tail (.tail (.tail (.tail (.tail (.head)))))))))))))))
theorem VarAt.i16 {p0 : Str × Option Addr} {e0 : Option D} {p1 : Str × Option Addr} {e1 : Option D} {p2 : Str × Option Addr} {e2 : Option D} {p3 : Str × Option Addr} {e3 : Option D} {p4 : Str × Option Addr} {e4 : Option D} {p5 : Str × Option Addr} {e5 : Option D} {p6 : Str × Option Addr} {e6 : Option D} {p7 : Str × Option Addr} {e7 : Option D} {p8 : Str × Option Addr} {e8 : Option D} {p9 : Str × Option Addr} {e9 : Option D} {p10 : Str × Option Addr} {e10 : Option D} {p11 : Str × Option Addr} {e11 : Option D} {p12 : Str × Option Addr} {e12 : Option D} {p13 : Str × Option Addr} {e13 : Option D} {p14 : Str × Option Addr} {e14 : Option D} {p15 : Str × Option Addr} {e15 : Option D} {x : Str} {l : Option Addr} {ps : Slots} {d : D} {ds : List (Option D)} : VarAt (p0 :: p1 :: p2 :: p3 :: p4 :: p5 :: p6 :: p7 :: p8 :: p9 :: p10 :: p11 :: p12 :: p13 :: p14 :: p15 :: (x, l) :: ps) (e0 :: e1 :: e2 :: e3 :: e4 :: e5 :: e6 :: e7 :: e8 :: e9 :: e10 :: e11 :: e12 :: e13 :: e14 :: e15 :: some d :: ds) x l d := .tail (.tail (.tail (.tail (.tail (.tail (.tail (.tail (.tail (.tail (.tail (.tail (.tail (.tail (.tail (.tail (.head))))))))))))))))
theorem VarSet.i16 {p0 : Str × Option Addr} {e0 : Option D} {p1 : Str × Option Addr} {e1 : Option D} {p2 : Str × Option Addr} {e2 : Option D} {p3 : Str × Option Addr} {e3 : Option D} {p4 : Str × Option Addr} {e4 : Option D} {p5 : Str × Option Addr} {e5 : Option D} {p6 : Str × Option Addr} {e6 : Option D} {p7 : Str × Option Addr} {e7 : Option D} {p8 : Str × Option Addr} {e8 : Option D} {p9 : Str × Option Addr} {e9 : Option D} {p10 : Str × Option Addr} {e10 : Option D} {p11 : Str × Option Addr} {e11 : Option D} {p12 : Str × Option Addr} {e12 : Option D} {p13 : Str × Option Addr} {e13 : Option D} {p14 : Str × Option Addr} {e14 : Option D} {p15 : Str × Option Addr} {e15 : Option D} {x : Str} {l : Option Addr} {ps : Slots} {d : D} {e : Option D} {ds : List (Option D)} : VarSet (p0 :: p1 :: p2 :: p3 :: p4 :: p5 :: p6 :: p7 :: p8 :: p9 :: p10 :: p11 :: p12 :: p13 :: p14 :: p15 :: (x, l) :: ps) (e0 :: e1 :: e2 :: e3 :: e4 :: e5 :: e6 :: e7 :: e8 :: e9 :: e10 :: e11 :: e12 :: e13 :: e14 :: e15 :: e :: ds) x l d (e0 :: e1 :: e2 :: e3 :: e4 :: e5 :: e6 :: e7 :: e8 :: e9 :: e10 :: e11 :: e12 :: e13 :: e14 :: e15 :: some d :: ds) := .tail (.tail (.tail (.tail (.tail (.tail (.tail (.tail (.tail (.tail (.tail (.tail (.tail (.tail (.tail (.tail (.head))))))))))))))))
theorem VarAt.i17 {p0 : Str × Option Addr} {e0 : Option D} {p1 : Str × Option Addr} {e1 : Option D} {p2 : Str × Option Addr} {e2 : Option D} {p3 : Str × Option Addr} {e3 : Option D} {p4 : Str × Option Addr} {e4 : Option D} {p5 : Str × Option Addr} {e5 : Option D} {p6 : Str × Option Addr} {e6 : Option D} {p7 : Str × Option Addr} {e7 : Option D} {p8 : Str × Option Addr} {e8 : Option D} {p9 : Str × Option Addr} {e9 : Option D} {p10 : Str × Option Addr} {e10 : Option D} {p11 : Str × Option Addr} {e11 : Option D} {p12 : Str × Option Addr} {e12 : Option D} {p13 : Str × Option Addr} {e13 : Option D} {p14 : Str × Option Addr} {e14 : Option D} {p15 : Str × Option Addr} {e15 : Option D} {p16 : Str × Option Addr} {e16 : Option D} {x : Str} {l : Option Addr} {ps : Slots} {d : D} {ds : List (Option D)} : VarAt (p0 :: p1 :: p2 :: p3 :: p4 :: p5 :: p6 :: p7 :: p8 :: p9 :: p10 :: p11 :: p12 :: p13 :: p14 :: p15 :: p16 :: (x, l) :: ps) (e0 :: e1 :: e2 :: e3 :: e4 :: e5 :: e6 :: e7 :: e8 :: e9 :: e10 :: e11 :: e12 :: e13 :: e14 :: e15 :: e16 :: some d :: ds) x l d := .tail (.tail (.tail (.tail (.tail (.tail (.tail (.tail (.tail (.tail (.tail (.tail (.tail (.tail (.tail (.tail (.tail (.head)))))))))))))))))
theorem VarSet.i17 {p0 : Str × Option Addr} {e0 : Option D} {p1 : Str × Option Addr} {e1 : Option D} {p2 : Str × Option Addr} {e2 : Option D} {p3 : Str × Option Addr} {e3 : Option D} {p4 : Str × Option Addr} {e4 : Option D} {p5 : Str × Option Addr} {e5 : Option D} {p6 : Str × Option Addr} {e6 : Option D} {p7 : Str × Option Addr} {e7 : Option D} {p8 : Str × Option Addr} {e8 : Option D} {p9 : Str × Option Addr} {e9 : Option D} {p10 : Str × Option Addr} {e10 : Option D} {p11 : Str × Option Addr} {e11 : Option D} {p12 : Str × Option Addr} {e12 : Option D} {p13 : Str × Option Addr} {e13 : Option D} {p14 : Str × Option Addr} {e14 : Option D} {p15 : Str × Option Addr} {e15 : Option D} {p16 : Str × Option Addr} {e16 : Option D} {x : Str} {l : Option Addr} {ps : Slots} {d : D} {e : Option D} {ds : List (Option D)} : VarSet (p0 :: p1 :: p2 :: p3 :: p4 :: p5 :: p6 :: p7 :: p8 :: p9 :: p10 :: p11 :: p12 :: p13 :: p14 :: p15 :: p16 :: (x, l) :: ps) (e0 :: e1 :: e2 :: e3 :: e4 :: e5 :: e6 :: e7 :: e8 :: e9 :: e10 :: e11 :: e12 :: e13 :: e14 :: e15 :: e16 :: e :: ds) x l d (e0 :: e1 :: e2 :: e3 :: e4 :: e5 :: e6 :: e7 :: e8 :: e9 :: e10 :: e11 :: e12 :: e13 :: e14 :: e15 :: e16 :: some d :: ds) := .tail (.tail (.tail (.tail (.tail (.tail (.tail (.tail (.tail (.tail (.tail (.tail (.tail (.tail (.tail (.tail (.tail (.head)))))))))))))))))
theorem VarAt.i18 {p0 : Str × Option Addr} {e0 : Option D} {p1 : Str × Option Addr} {e1 : Option D} {p2 : Str × Option Addr} {e2 : Option D} {p3 : Str × Option Addr} {e3 : Option D} {p4 : Str × Option Addr} {e4 : Option D} {p5 : Str × Option Addr} {e5 : Option D} {p6 : Str × Option Addr} {e6 : Option D} {p7 : Str × Option Addr} {e7 : Option D} {p8 : Str × Option Addr} {e8 : Option D} {p9 : Str × Option Addr} {e9 : Option D} {p10 : Str × Option Addr} {e10 : Option D} {p11 : Str × Option Addr} {e11 : Option D} {p12 : Str × Option Addr} {e12 : Option D} {p13 : Str × Option Addr} {e13 : Option D} {p14 : Str × Option Addr} {e14 : Option D} {p15 : Str × Option Addr} {e15 : Option D} {p16 : Str × Option Addr} {e16 : Option D} {p17 : Str × Option Addr} {e17 : Option D} {x : Str} {l : Option Addr} {ps : Slots} {d : D} {ds : List (Option D)} : VarAt (p0 :: p1 :: p2 :: p3 :: p4 :: p5 :: p6 :: p7 :: p8 :: p9 :: p10 :: p11 :: p12 :: p13 :: p14 :: p15 :: p16 :: p17 :: (x, l) :: ps) (e0 :: e1 :: e2 :: e3 :: e4 :: e5 :: e6 :: e7 :: e8 :: e9 :: e10 :: e11 :: e12 :: e13 :: e14 :: e15 :: e16 :: e17 :: some d :: ds) x l d := .tail (.tail (.tail (.tail (.tail (.tail (.tail (.tail (.tail (.tail (.tail (.tail (.tail (.tail (.tail (.tail (.tail (.tail (.head))))))))))))))))))
theorem VarSet.i18 {p0 : Str × Option Addr} {e0 : Option D} {p1 : Str × Option Addr} {e1 : Option D} {p2 : Str × Option Addr} {e2 : Option D} {p3 : Str × Option Addr} {e3 : Option D} {p4 : Str × Option Addr} {e4 : Option D} {p5 : Str × Option Addr} {e5 : Option D} {p6 : Str × Option Addr} {e6 : Option D} {p7 : Str × Option Addr} {e7 : Option D} {p8 : Str × Option Addr} {e8 : Option D} {p9 : Str × Option Addr} {e9 : Option D} {p10 : Str × Option Addr} {e10 : Option D} {p11 : Str × Option Addr} {e11 : Option D} {p12 : Str × Option Addr} {e12 : Option D} {p13 : Str × Option Addr} {e13 : Option D} {p14 : Str × Option Addr} {e14 : Option D} {p15 : Str × Option Addr} {e15 : Option D} {p16 : Str × Option Addr} {e16 : Option D} {p17 : Str × Option Addr} {e17 : Option D} {x : Str} {l : Option Addr} {ps : Slots} {d : D} {e : Option D} {ds : List (Option D)} : VarSet (p0 :: p1 :: p2 :: p3 :: p4 :: p5 :: p6 :: p7 :: p8 :: p9 :: p10 :: p11 :: p12 :: p13 :: p14 :: p15 :: p16 :: p17 :: (x, l) :: ps) (e0 :: e1 :: e2 :: e3 :: e4 :: e5 :: e6 :: e7 :: e8 :: e9 :: e10 :: e11 :: e12 :: e13 :: e14 :: e15 :: e16 :: e17 :: e :: ds) x l d (e0 :: e1 :: e2 :: e3 :: e4 :: e5 :: e6 :: e7 :: e8 :: e9 :: e10 :: e11 :: e12 :: e13 :: e14 :: e15 :: e16 :: e17 :: some d :: ds) := .tail (.tail (.tail (.tail (.tail (.tail (.tail (.tail (.tail (.tail (.tail (.tail (.tail (.tail (.tail (.tail (.tail (.tail (.head))))))))))))))))))
theorem VarAt.i19 {p0 : Str × Option Addr} {e0 : Option D} {p1 : Str × Option Addr} {e1 : Option D} {p2 : Str × Option Addr} {e2 : Option D} {p3 : Str × Option Addr} {e3 : Option D} {p4 : Str × Option Addr} {e4 : Option D} {p5 : Str × Option Addr} {e5 : Option D} {p6 : Str × Option Addr} {e6 : Option D} {p7 : Str × Option Addr} {e7 : Option D} {p8 : Str × Option Addr} {e8 : Option D} {p9 : Str × Option Addr} {e9 : Option D} {p10 : Str × Option Addr} {e10 : Option D} {p11 : Str × Option Addr} {e11 : Option D} {p12 : Str × Option Addr} {e12 : Option D} {p13 : Str × Option Addr} {e13 : Option D} {p14 : Str × Option Addr} {e14 : Option D} {p15 : Str × Option Addr} {e15 : Option D} {p16 : Str × Option Addr} {e16 : Option D} {p17 : Str × Option Addr} {e17 : Option D} {p18 : Str × Option Addr} {e18 : Option D} {x : Str} {l : Option Addr} {ps : Slots} {d : D} {ds : List (Option D)} : VarAt (p0 :: p1 :: p2 :: p3 :: p4 :: p5 :: p6 :: p7 :: p8 :: p9 :: p10 :: p11 :: p12 :: p13 :: p14 :: p15 :: p16 :: p17 :: p18 :: (x, l) :: ps) (e0 :: e1 :: e2 :: e3 :: e4 :: e5 :: e6 :: e7 :: e8 :: e9 :: e10 :: e11 :: e12 :: e13 :: e14 :: e15 :: e16 :: e17 :: e18 :: some d :: ds) x l d := .tail (.tail (.tail (.tail (.tail (.tail (.tail (.tail (.tail (.tail (.tail (.tail (.tail (.tail (.tail (.tail (.tail (.tail (.tail (.head)))))))))))))))))))
theorem VarSet.i19 {p0 : Str × Option Addr} {e0 : Option D} {p1 : Str × Option Addr} {e1 : Option D} {p2 : Str × Option Addr} {e2 : Option D} {p3 : Str × Option Addr} {e3 : Option D} {p4 : Str × Option Addr} {e4 : Option D} {p5 : Str × Option Addr} {e5 : Option D} {p6 : Str × Option Addr} {e6 : Option D} {p7 : Str × Option Addr} {e7 : Option D} {p8 : Str × Option Addr} {e8 : Option D} {p9 : Str × Option Addr} {e9 : Option D} {p10 : Str × Option Addr} {e10 : Option D} {p11 : Str × Option Addr} {e11 : Option D} {p12 : Str × Option Addr} {e12 : Option D} {p13 : Str × Option Addr} {e13 : Option D} {p14 : Str × Option Addr} {e14 : Option D} {p15 : Str × Option Addr} {e15 : Option D} {p16 : Str × Option Addr} {e16 : Option D} {p17 : Str × Option Addr} {e17 : Option D} {p18 : Str × Option Addr} {e18 : Option D} {x : Str} {l : Option Addr} {ps : Slots} {d : D} {e : Option D} {ds : List (Option D)} : VarSet (p0 :: p1 :: p2 :: p3 :: p4 :: p5 :: p6 :: p7 :: p8 :: p9 :: p10 :: p11 :: p12 :: p13 :: p14 :: p15 :: p16 :: p17 :: p18 :: (x, l) :: ps) (e0 :: e1 :: e2 :: e3 :: e4 :: e5 :: e6 :: e7 :: e8 :: e9 :: e10 :: e11 :: e12 :: e13 :: e14 :: e15 :: e16 :: e17 :: e18 :: e :: ds) x l d (e0 :: e1 :: e2 :: e3 :: e4 :: e5 :: e6 :: e7 :: e8 :: e9 :: e10 :: e11 :: e12 :: e13 :: e14 :: e15 :: e16 :: e17 :: e18 :: some d :: ds) := .tail (.tail (.tail (.tail (.tail (.tail (.tail (.tail (.tail (.tail (.tail (.tail (.tail (.tail (.tail (.tail (.tail (.tail (.tail (.head)))))))))))))))))))
theorem VarAt.i20 {p0 : Str × Option Addr} {e0 : Option D} {p1 : Str × Option Addr} {e1 : Option D} {p2 : Str × Option Addr} {e2 : Option D} {p3 : Str × Option Addr} {e3 : Option D} {p4 : Str × Option Addr} {e4 : Option D} {p5 : Str × Option Addr} {e5 : Option D} {p6 : Str × Option Addr} {e6 : Option D} {p7 : Str × Option Addr} {e7 : Option D} {p8 : Str × Option Addr} {e8 : Option D} {p9 : Str × Option Addr} {e9 : Option D} {p10 : Str × Option Addr} {e10 : Option D} {p11 : Str × Option Addr} {e11 : Option D} {p12 : Str × Option Addr} {e12 : Option D} {p13 : Str × Option Addr} {e13 : Option D} {p14 : Str × Option Addr} {e14 : Option D} {p15 : Str × Option Addr} {e15 : Option D} {p16 : Str × Option Addr} {e16 : Option D} {p17 : Str × Option Addr} {e17 : Option D} {p18 : Str × Option Addr} {e18 : Option D} {p19 : Str × Option Addr} {e19 : Option D} {x : Str} {l : Option Addr} {ps : Slots} {d : D} {ds : List (Option D)} : VarAt (p0 :: p1 :: p2 :: p3 :: p4 :: p5 :: p6 :: p7 :: p8 :: p9 :: p10 :: p11 :: p12 :: p13 :: p14 :: p15 :: p16 :: p17 :: p18 :: p19 :: (x, l) :: ps) (e0 :: e1 :: e2 :: e3 :: e4 :: e5 :: e6 :: e7 :: e8 :: e9 :: e10 :: e11 :: e12 :: e13 :: e14 :: e15 :: e16 :: e17 :: e18 :: e19 :: some d :: ds) x l d := .tail (.tail (.tail (.tail (.tail (.tail (.tail (.tail (.tail (.tail (.tail (.tail (.tail (.tail (.tail (.tail (.tail (.tail (.tail (.tail (.head))))))))))))))))))))
theorem VarSet.i20 {p0 : Str × Option Addr} {e0 : Option D} {p1 : Str × Option Addr} {e1 : Option D} {p2 : Str × Option Addr} {e2 : Option D} {p3 : Str × Option Addr} {e3 : Option D} {p4 : Str × Option Addr} {e4 : Option D} {p5 : Str × Option Addr} {e5 : Option D} {p6 : Str × Option Addr} {e6 : Option D} {p7 : Str × Option Addr} {e7 : Option D} {p8 : Str × Option Addr} {e8 : Option D} {p9 : Str × Option Addr} {e9 : Option D} {p10 : Str × Option Addr} {e10 : Option D} {p11 : Str × Option Addr} {e11 : Option D} {p12 : Str × Option Addr} {e12 : Option D} {p13 : Str × Option Addr} {e13 : Option D} {p14 : Str × Option Addr} {e14 : Option D} {p15 : Str × Option Addr} {e15 : Option D} {p16 : Str × Option Addr} {e16 : Option D} {p17 : Str × Option Addr} {e17 : Option D} {p18 : Str × Option Addr} {e18 : Option D} {p19 : Str × Option Addr} {e19 : Option D} {x : Str} {l : Option Addr} {ps : Slots} {d : D} {e : Option D} {ds : List (Option D)} : VarSet (p0 :: p1 :: p2 :: p3 :: p4 :: p5 :: p6 :: p7 :: p8 :: p9 :: p10 :: p11 :: p12 :: p13 :: p14 :: p15 :: p16 :: p17 :: p18 :: p19 :: (x, l) :: ps) (e0 :: e1 :: e2 :: e3 :: e4 :: e5 :: e6 :: e7 :: e8 :: e9 :: e10 :: e11 :: e12 :: e13 :: e14 :: e15 :: e16 :: e17 :: e18 :: e19 :: e :: ds) x l d (e0 :: e1 :: e2 :: e3 :: e4 :: e5 :: e6 :: e7 :: e8 :: e9 :: e10 :: e11 :: e12 :: e13 :: e14 :: e15 :: e16 :: e17 :: e18 :: e19 :: some d :: ds) := .tail (.tail (.tail (.tail (.tail (.tail (.tail (.tail (.tail (.tail (.tail (.tail (.tail (.tail (.tail (.tail (.tail (.tail (.tail (.tail (.head))))))))))))))))))))
theorem VarAt.i21 {p0 : Str × Option Addr} {e0 : Option D} {p1 : Str × Option Addr} {e1 : Option D} {p2 : Str × Option Addr} {e2 : Option D} {p3 : Str × Option Addr} {e3 : Option D} {p4 : Str × Option Addr} {e4 : Option D} {p5 : Str × Option Addr} {e5 : Option D} {p6 : Str × Option Addr} {e6 : Option D} {p7 : Str × Option Addr} {e7 : Option D} {p8 : Str × Option Addr} {e8 : Option D} {p9 : Str × Option Addr} {e9 : Option D} {p10 : Str × Option Addr} {e10 : Option D} {p11 : Str × Option Addr} {e11 : Option D} {p12 : Str × Option Addr} {e12 : Option D} {p13 : Str × Option Addr} {e13 : Option D} {p14 : Str × Option Addr} {e14 : Option D} {p15 : Str × Option Addr} {e15 : Option D} {p16 : Str × Option Addr} {e16 : Option D} {p17 : Str × Option Addr} {e17 : Option D} {p18 : Str × Option Addr} {e18 : Option D} {p19 : Str × Option Addr} {e19 : Option D} {p20 : Str × Option Addr} {e20 : Option D} {x : Str} {l : Option Addr} {ps : Slots} {d : D} {ds : List (Option D)} : VarAt (p0 :: p1 :: p2 :: p3 :: p4 :: p5 :: p6 :: p7 :: p8 :: p9 :: p10 :: p11 :: p12 :: p13 :: p14 :: p15 :: p16 :: p17 :: p18 :: p19 :: p20 :: (x, l) :: ps) (e0 :: e1 :: e2 :: e3 :: e4 :: e5 :: e6 :: e7 :: e8 :: e9 :: e10 :: e11 :: e12 :: e13 :: e14 :: e15 :: e16 :: e17 :: e18 :: e19 :: e20 :: some d :: ds) x l d := .tail (.tail (.tail (.tail (.tail (.tail (.tail (.tail (.tail (.tail (.tail (.tail (.tail (.tail (.tail (.tail (.tail (.tail (.tail (.tail (.tail (.head)))))))))))))))))))))
theorem VarSet.i21 {p0 : Str × Option Addr} {e0 : Option D} {p1 : Str × Option Addr} {e1 : Option D} {p2 : Str × Option Addr} {e2 : Option D} {p3 : Str × Option Addr} {e3 : Option D} {p4 : Str × Option Addr} {e4 : Option D} {p5 : Str × Option Addr} {e5 : Option D} {p6 : Str × Option Addr} {e6 : Option D} {p7 : Str × Option Addr} {e7 : Option D} {p8 : Str × Option Addr} {e8 : Option D} {p9 : Str × Option Addr} {e9 : Option D} {p10 : Str × Option Addr} {e10 : Option D} {p11 : Str × Option Addr} {e11 : Option D} {p12 : Str × Option Addr} {e12 : Option D} {p13 : Str × Option Addr} {e13 : Option D} {p14 : Str × Option Addr} {e14 : Option D} {p15 : Str × Option Addr} {e15 : Option D} {p16 : Str × Option Addr} {e16 : Option D} {p17 : Str × Option Addr} {e17 : Option D} {p18 : Str × Option Addr} {e18 : Option D} {p19 : Str × Option Addr} {e19 : Option D} {p20 : Str × Option Addr} {e20 : Option D} {x : Str} {l : Option Addr} {ps : Slots} {d : D} {e : Option D} {ds : List (Option D)} : VarSet (p0 :: p1 :: p2 :: p3 :: p4 :: p5 :: p6 :: p7 :: p8 :: p9 :: p10 :: p11 :: p12 :: p13 :: p14 :: p15 :: p16 :: p17 :: p18 :: p19 :: p20 :: (x, l) :: ps) (e0 :: e1 :: e2 :: e3 :: e4 :: e5 :: e6 :: e7 :: e8 :: e9 :: e10 :: e11 :: e12 :: e13 :: e14 :: e15 :: e16 :: e17 :: e18 :: e19 :: e20 :: e :: ds) x l d (e0 :: e1 :: e2 :: e3 :: e4 :: e5 :: e6 :: e7 :: e8 :: e9 :: e10 :: e11 :: e12 :: e13 :: e14 :: e15 :: e16 :: e17 :: e18 :: e19 :: e20 :: some d :: ds) := .tail (.tail (.tail (.tail (.tail (.tail (.tail (.tail (.tail (.tail (.tail (.tail (.tail (.tail (.tail (.tail (.tail (.tail (.tail (.tail (.tail (.head)))))))))))))))))))))
theorem VarAt.i22 {p0 : Str × Option Addr} {e0 : Option D} {p1 : Str × Option Addr} {e1 : Option D} {p2 : Str × Option Addr} {e2 : Option D} {p3 : Str × Option Addr} {e3 : Option D} {p4 : Str × Option Addr} {e4 : Option D} {p5 : Str × Option Addr} {e5 : Option D} {p6 : Str × Option Addr} {e6 : Option D} {p7 : Str × Option Addr} {e7 : Option D} {p8 : Str × Option Addr} {e8 : Option D} {p9 : Str × Option Addr} {e9 : Option D} {p10 : Str × Option Addr} {e10 : Option D} {p11 : Str × Option Addr} {e11 : Option D} {p12 : Str × Option Addr} {e12 : Option D} {p13 : Str × Option Addr} {e13 : Option D} {p14 : Str × Option Addr} {e14 : Option D} {p15 : Str × Option Addr} {e15 : Option D} {p16 : Str × Option Addr} {e16 : Option D} {p17 : Str × Option Addr} {e17 : Option D} {p18 : Str × Option Addr} {e18 : Option D} {p19 : Str × Option Addr} {e19 : Option D} {p20 : Str × Option Addr} {e20 : Option D} {p21 : Str × Option Addr} {e21 : Option D} {x : Str} {l : Option Addr} {ps : Slots} {d : D} {ds : List (Option D)} : VarAt (p0 :: p1 :: p2 :: p3 :: p4 :: p5 :: p6 :: p7 :: p8 :: p9 :: p10 :: p11 :: p12 :: p13 :: p14 :: p15 :: p16 :: p17 :: p18 :: p19 :: p20 :: p21 :: (x, l) :: ps) (e0 :: e1 :: e2 :: e3 :: e4 :: e5 :: e6 :: e7 :: e8 :: e9 :: e10 :: e11 :: e12 :: e13 :: e14 :: e15 :: e16 :: e17 :: e18 :: e19 :: e20 :: e21 :: some d :: ds) x l d := .tail (.tail (.tail (.tail (.tail (.tail (.tail (.tail (.tail (.tail (.tail (.tail (.tail (.tail (.tail (.tail (.tail (.tail (.tail (.tail (.tail (.tail (.head))))))))))))))))))))))
theorem VarSet.i22 {p0 : Str × Option Addr} {e0 : Option D} {p1 : Str × Option Addr} {e1 : Option D} {p2 : Str × Option Addr} {e2 : Option D} {p3 : Str × Option Addr} {e3 : Option D} {p4 : Str × Option Addr} {e4 : Option D} {p5 : Str × Option Addr} {e5 : Option D} {p6 : Str × Option Addr} {e6 : Option D} {p7 : Str × Option Addr} {e7 : Option D} {p8 : Str × Option Addr} {e8 : Option D} {p9 : Str × Option Addr} {e9 : Option D} {p10 : Str × Option Addr} {e10 : Option D} {p11 : Str × Option Addr} {e11 : Option D} {p12 : Str × Option Addr} {e12 : Option D} {p13 : Str × Option Addr} {e13 : Option D} {p14 : Str × Option Addr} {e14 : Option D} {p15 : Str × Option Addr} {e15 : Option D} {p16 : Str × Option Addr} {e16 : Option D} {p17 : Str × Option Addr} {e17 : Option D} {p18 : Str × Option Addr} {e18 : Option D} {p19 : Str × Option Addr} {e19 : Option D} {p20 : Str × Option Addr} {e20 : Option D} {p21 : Str × Option Addr} {e21 : Option D} {x : Str} {l : Option Addr} {ps : Slots} {d : D} {e : Option D} {ds : List (Option D)} : VarSet (p0 :: p1 :: p2 :: p3 :: p4 :: p5 :: p6 :: p7 :: p8 :: p9 :: p10 :: p11 :: p12 :: p13 :: p14 :: p15 :: p16 :: p17 :: p18 :: p19 :: p20 :: p21 :: (x, l) :: ps) (e0 :: e1 :: e2 :: e3 :: e4 :: e5 :: e6 :: e7 :: e8 :: e9 :: e10 :: e11 :: e12 :: e13 :: e14 :: e15 :: e16 :: e17 :: e18 :: e19 :: e20 :: e21 :: e :: ds) x l d (e0 :: e1 :: e2 :: e3 :: e4 :: e5 :: e6 :: e7 :: e8 :: e9 :: e10 :: e11 :: e12 :: e13 :: e14 :: e15 :: e16 :: e17 :: e18 :: e19 :: e20 :: e21 :: some d :: ds) := .tail (.tail (.tail (.tail (.tail (.tail (.tail (.tail (.tail (.tail (.tail (.tail (.tail (.tail (.tail (.tail (.tail (.tail (.tail (.tail (.tail (.tail (.head))))))))))))))))))))))
theorem VarAt.i23 {p0 : Str × Option Addr} {e0 : Option D} {p1 : Str × Option Addr} {e1 : Option D} {p2 : Str × Option Addr} {e2 : Option D} {p3 : Str × Option Addr} {e3 : Option D} {p4 : Str × Option Addr} {e4 : Option D} {p5 : Str × Option Addr} {e5 : Option D} {p6 : Str × Option Addr} {e6 : Option D} {p7 : Str × Option Addr} {e7 : Option D} {p8 : Str × Option Addr} {e8 : Option D} {p9 : Str × Option Addr} {e9 : Option D} {p10 : Str × Option Addr} {e10 : Option D} {p11 : Str × Option Addr} {e11 : Option D} {p12 : Str × Option Addr} {e12 : Option D} {p13 : Str × Option Addr} {e13 : Option D} {p14 : Str × Option Addr} {e14 : Option D} {p15 : Str × Option Addr} {e15 : Option D} {p16 : Str × Option Addr} {e16 : Option D} {p17 : Str × Option Addr} {e17 : Option D} {p18 : Str × Option Addr} {e18 : Option D} {p19 : Str × Option Addr} {e19 : Option D} {p20 : Str × Option Addr} {e20 : Option D} {p21 : Str × Option Addr} {e21 : Option D} {p22 : Str × Option Addr} {e22 : Option D} {x : Str} {l : Option Addr} {ps : Slots} {d : D} {ds : List (Option D)} : VarAt (p0 :: p1 :: p2 :: p3 :: p4 :: p5 :: p6 :: p7 :: p8 :: p9 :: p10 :: p11 :: p12 :: p13 :: p14 :: p15 :: p16 :: p17 :: p18 :: p19 :: p20 :: p21 :: p22 :: (x, l) :: ps) (e0 :: e1 :: e2 :: e3 :: e4 :: e5 :: e6 :: e7 :: e8 :: e9 :: e10 :: e11 :: e12 :: e13 :: e14 :: e15 :: e16 :: e17 :: e18 :: e19 :: e20 :: e21 :: e22 :: some d :: ds) x l d := .tail (.tail (.tail (.tail (.tail (.tail (.tail (.tail (.tail (.tail (.tail (.tail (.tail (.tail (.tail (.tail (.tail (.tail (.tail (.tail (.tail (.tail (.tail (.head)))))))))))))))))))))))
theorem VarSet.i23 {p0 : Str × Option Addr} {e0 : Option D} {p1 : Str × Option Addr} {e1 : Option D} {p2 : Str × Option Addr} {e2 : Option D} {p3 : Str × Option Addr} {e3 : Option D} {p4 : Str × Option Addr} {e4 : Option D} {p5 : Str × Option Addr} {e5 : Option D} {p6 : Str × Option Addr} {e6 : Option D} {p7 : Str × Option Addr} {e7 : Option D} {p8 : Str × Option Addr} {e8 : Option D} {p9 : Str × Option Addr} {e9 : Option D} {p10 : Str × Option Addr} {e10 : Option D} {p11 : Str × Option Addr} {e11 : Option D} {p12 : Str × Option Addr} {e12 : Option D} {p13 : Str × Option Addr} {e13 : Option D} {p14 : Str × Option Addr} {e14 : Option D} {p15 : Str × Option Addr} {e15 : Option D} {p16 : Str × Option Addr} {e16 : Option D} {p17 : Str × Option Addr} {e17 : Option D} {p18 : Str × Option Addr} {e18 : Option D} {p19 : Str × Option Addr} {e19 : Option D} {p20 : Str × Option Addr} {e20 : Option D} {p21 : Str × Option Addr} {e21 : Option D} {p22 : Str × Option Addr} {e22 : Option D} {x : Str} {l : Option Addr} {ps : Slots} {d : D} {e : Option D} {ds : List (Option D)} : VarSet (p0 :: p1 :: p2 :: p3 :: p4 :: p5 :: p6 :: p7 :: p8 :: p9 :: p10 :: p11 :: p12 :: p13 :: p14 :: p15 :: p16 :: p17 :: p18 :: p19 :: p20 :: p21 :: p22 :: (x, l) :: ps) (e0 :: e1 :: e2 :: e3 :: e4 :: e5 :: e6 :: e7 :: e8 :: e9 :: e10 :: e11 :: e12 :: e13 :: e14 :: e15 :: e16 :: e17 :: e18 :: e19 :: e20 :: e21 :: e22 :: e :: ds) x l d (e0 :: e1 :: e2 :: e3 :: e4 :: e5 :: e6 :: e7 :: e8 :: e9 :: e10 :: e11 :: e12 :: e13 :: e14 :: e15 :: e16 :: e17 :: e18 :: e19 :: e20 :: e21 :: e22 :: some d :: ds) := .tail (.tail (.tail (.tail (.tail (.tail (.tail (.tail (.tail (.tail (.tail (.tail (.tail (.tail (.tail (.tail (.tail (.tail (.tail (.tail (.tail (.tail (.tail (.head)))))))))))))))))))))))
theorem VarAt.i24 {p0 : Str × Option Addr} {e0 : Option D} {p1 : Str × Option Addr} {e1 : Option D} {p2 : Str × Option Addr} {e2 : Option D} {p3 : Str × Option Addr} {e3 : Option D} {p4 : Str × Option Addr} {e4 : Option D} {p5 : Str × Option Addr} {e5 : Option D} {p6 : Str × Option Addr} {e6 : Option D} {p7 : Str × Option Addr} {e7 : Option D} {p8 : Str × Option Addr} {e8 : Option D} {p9 : Str × Option Addr} {e9 : Option D} {p10 : Str × Option Addr} {e10 : Option D} {p11 : Str × Option Addr} {e11 : Option D} {p12 : Str × Option Addr} {e12 : Option D} {p13 : Str × Option Addr} {e13 : Option D} {p14 : Str × Option Addr} {e14 : Option D} {p15 : Str × Option Addr} {e15 : Option D} {p16 : Str × Option Addr} {e16 : Option D} {p17 : Str × Option Addr} {e17 : Option D} {p18 : Str × Option Addr} {e18 : Option D} {p19 : Str × Option Addr} {e19 : Option D} {p20 : Str × Option Addr} {e20 : Option D} {p21 : Str × Option Addr} {e21 : Option D} {p22 : Str × Option Addr} {e22 : Option D} {p23 : Str × Option Addr} {e23 : Option D} {x : Str} {l : Option Addr} {ps : Slots} {d : D} {ds : List (Option D)} : VarAt (p0 :: p1 :: p2 :: p3 :: p4 :: p5 :: p6 :: p7 :: p8 :: p9 :: p10 :: p11 :: p12 :: p13 :: p14 :: p15 :: p16 :: p17 :: p18 :: p19 :: p20 :: p21 :: p22 :: p23 :: (x, l) :: ps) (e0 :: e1 :: e2 :: e3 :: e4 :: e5 :: e6 :: e7 :: e8 :: e9 :: e10 :: e11 :: e12 :: e13 :: e14 :: e15 :: e16 :: e17 :: e18 :: e19 :: e20 :: e21 :: e22 :: e23 :: some d :: ds) x l d := .tail (.tail (.tail (.tail (.tail (.tail (.tail (.tail (.tail (.tail (.tail (.tail (.tail (.tail (.tail (.tail (.tail (.tail (.tail (.tail (.tail (.tail (.tail (.tail (.head))))))))))))))))))))))))
theorem VarSet.i24 {p0 : Str × Option Addr} {e0 : Option D} {p1 : Str × Option Addr} {e1 : Option D} {p2 : Str × Option Addr} {e2 : Option D} {p3 : Str × Option Addr} {e3 : Option D} {p4 : Str × Option Addr} {e4 : Option D} {p5 : Str × Option Addr} {e5 : Option D} {p6 : Str × Option Addr} {e6 : Option D} {p7 : Str × Option Addr} {e7 : Option D} {p8 : Str × Option Addr} {e8 : Option D} {p9 : Str × Option Addr} {e9 : Option D} {p10 : Str × Option Addr} {e10 : Option D} {p11 : Str × Option Addr} {e11 : Option D} {p12 : Str × Option Addr} {e12 : Option D} {p13 : Str × Option Addr} {e13 : Option D} {p14 : Str × Option Addr} {e14 : Option D} {p15 : Str × Option Addr} {e15 : Option D} {p16 : Str × Option Addr} {e16 : Option D} {p17 : Str × Option Addr} {e17 : Option D} {p18 : Str × Option Addr} {e18 : Option D} {p19 : Str × Option Addr} {e19 : Option D} {p20 : Str × Option Addr} {e20 : Option D} {p21 : Str × Option Addr} {e21 : Option D} {p22 : Str × Option Addr} {e22 : Option D} {p23 : Str × Option Addr} {e23 : Option D} {x : Str} {l : Option Addr} {ps : Slots} {d : D} {e : Option D} {ds : List (Option D)} : VarSet (p0 :: p1 :: p2 :: p3 :: p4 :: p5 :: p6 :: p7 :: p8 :: p9 :: p10 :: p11 :: p12 :: p13 :: p14 :: p15 :: p16 :: p17 :: p18 :: p19 :: p20 :: p21 :: p22 :: p23 :: (x, l) :: ps) (e0 :: e1 :: e2 :: e3 :: e4 :: e5 :: e6 :: e7 :: e8 :: e9 :: e10 :: e11 :: e12 :: e13 :: e14 :: e15 :: e16 :: e17 :: e18 :: e19 :: e20 :: e21 :: e22 :: e23 :: e :: ds) x l d (e0 :: e1 :: e2 :: e3 :: e4 :: e5 :: e6 :: e7 :: e8 :: e9 :: e10 :: e11 :: e12 :: e13 :: e14 :: e15 :: e16 :: e17 :: e18 :: e19 :: e20 :: e21 :: e22 :: e23 :: some d :: ds) := .tail (.tail (.tail (.tail (.tail (.tail (.tail (.tail (.tail (.tail (.tail (.tail (.tail (.tail (.tail (.tail (.tail (.tail (.tail (.tail (.tail (.tail (.tail (.tail (.head))))))))))))))))))))))))
theorem VarAt.i25 {p0 : Str × Option Addr} {e0 : Option D} {p1 : Str × Option Addr} {e1 : Option D} {p2 : Str × Option Addr} {e2 : Option D} {p3 : Str × Option Addr} {e3 : Option D} {p4 : Str × Option Addr} {e4 : Option D} {p5 : Str × Option Addr} {e5 : Option D} {p6 : Str × Option Addr} {e6 : Option D} {p7 : Str × Option Addr} {e7 : Option D} {p8 : Str × Option Addr} {e8 : Option D} {p9 : Str × Option Addr} {e9 : Option D} {p10 : Str × Option Addr} {e10 : Option D} {p11 : Str × Option Addr} {e11 : Option D} {p12 : Str × Option Addr} {e12 : Option D} {p13 : Str × Option Addr} {e13 : Option D} {p14 : Str × Option Addr} {e14 : Option D} {p15 : Str × Option Addr} {e15 : Option D} {p16 : Str × Option Addr} {e16 : Option D} {p17 : Str × Option Addr} {e17 : Option D} {p18 : Str × Option Addr} {e18 : Option D} {p19 : Str × Option Addr} {e19 : Option D} {p20 : Str × Option Addr} {e20 : Option D} {p21 : Str × Option Addr} {e21 : Option D} {p22 : Str × Option Addr} {e22 : Option D} {p23 : Str × Option Addr} {e23 : Option D} {p24 : Str × Option Addr} {e24 : Option D} {x : Str} {l : Option Addr} {ps : Slots} {d : D} {ds : List (Option D)} : VarAt (p0 :: p1 :: p2 :: p3 :: p4 :: p5 :: p6 :: p7 :: p8 :: p9 :: p10 :: p11 :: p12 :: p13 :: p14 :: p15 :: p16 :: p17 :: p18 :: p19 :: p20 :: p21 :: p22 :: p23 :: p24 :: (x, l) :: ps) (e0 :: e1 :: e2 :: e3 :: e4 :: e5 :: e6 :: e7 :: e8 :: e9 :: e10 :: e11 :: e12 :: e13 :: e14 :: e15 :: e16 :: e17 :: e18 :: e19 :: e20 :: e21 :: e22 :: e23 :: e24 :: some d :: ds) x l d := .tail (.tail (.tail (.tail (.tail (.tail (.tail (.tail (.tail (.tail (.tail (.tail (.tail (.tail (.tail (.tail (.tail (.tail (.tail (.tail (.tail (.tail (.tail (.tail (.tail (.head)))))))))))))))))))))))))
theorem VarSet.i25 {p0 : Str × Option Addr} {e0 : Option D} {p1 : Str × Option Addr} {e1 : Option D} {p2 : Str × Option Addr} {e2 : Option D} {p3 : Str × Option Addr} {e3 : Option D} {p4 : Str × Option Addr} {e4 : Option D} {p5 : Str × Option Addr} {e5 : Option D} {p6 : Str × Option Addr} {e6 : Option D} {p7 : Str × Option Addr} {e7 : Option D} {p8 : Str × Option Addr} {e8 : Option D} {p9 : Str × Option Addr} {e9 : Option D} {p10 : Str × Option Addr} {e10 : Option D} {p11 : Str × Option Addr} {e11 : Option D} {p12 : Str × Option Addr} {e12 : Option D} {p13 : Str × Option Addr} {e13 : Option D} {p14 : Str × Option Addr} {e14 : Option D} {p15 : Str × Option Addr} {e15 : Option D} {p16 : Str × Option Addr} {e16 : Option D} {p17 : Str × Option Addr} {e17 : Option D} {p18 : Str × Option Addr} {e18 : Option D} {p19 : Str × Option Addr} {e19 : Option D} {p20 : Str × Option Addr} {e20 : Option D} {p21 : Str × Option Addr} {e21 : Option D} {p22 : Str × Option Addr} {e22 : Option D} {p23 : Str × Option Addr} {e23 : Option D} {p24 : Str × Option Addr} {e24 : Option D} {x : Str} {l : Option Addr} {ps : Slots} {d : D} {e : Option D} {ds : List (Option D)} : VarSet (p0 :: p1 :: p2 :: p3 :: p4 :: p5 :: p6 :: p7 :: p8 :: p9 :: p10 :: p11 :: p12 :: p13 :: p14 :: p15 :: p16 :: p17 :: p18 :: p19 :: p20 :: p21 :: p22 :: p23 :: p24 :: (x, l) :: ps) (e0 :: e1 :: e2 :: e3 :: e4 :: e5 :: e6 :: e7 :: e8 :: e9 :: e10 :: e11 :: e12 :: e13 :: e14 :: e15 :: e16 :: e17 :: e18 :: e19 :: e20 :: e21 :: e22 :: e23 :: e24 :: e :: ds) x l d (e0 :: e1 :: e2 :: e3 :: e4 :: e5 :: e6 :: e7 :: e8 :: e9 :: e10 :: e11 :: e12 :: e13 :: e14 :: e15 :: e16 :: e17 :: e18 :: e19 :: e20 :: e21 :: e22 :: e23 :: e24 :: some d :: ds) := .tail (.tail (.tail (.tail (.tail (.tail (.tail (.tail (.tail (.tail (.tail (.tail (.tail (.tail (.tail (.tail (.tail (.tail (.tail (.tail (.tail (.tail (.tail (.tail (.tail (.head)))))))))))))))))))))))))
theorem VarAt.i26 {p0 : Str × Option Addr} {e0 : Option D} {p1 : Str × Option Addr} {e1 : Option D} {p2 : Str × Option Addr} {e2 : Option D} {p3 : Str × Option Addr} {e3 : Option D} {p4 : Str × Option Addr} {e4 : Option D} {p5 : Str × Option Addr} {e5 : Option D} {p6 : Str × Option Addr} {e6 : Option D} {p7 : Str × Option Addr} {e7 : Option D} {p8 : Str × Option Addr} {e8 : Option D} {p9 : Str × Option Addr} {e9 : Option D} {p10 : Str × Option Addr} {e10 : Option D} {p11 : Str × Option Addr} {e11 : Option D} {p12 : Str × Option Addr} {e12 : Option D} {p13 : Str × Option Addr} {e13 : Option D} {p14 : Str × Option Addr} {e14 : Option D} {p15 : Str × Option Addr} {e15 : Option D} {p16 : Str × Option Addr} {e16 : Option D} {p17 : Str × Option Addr} {e17 : Option D} {p18 : Str × Option Addr} {e18 : Option D} {p19 : Str × Option Addr} {e19 : Option D} {p20 : Str × Option Addr} {e20 : Option D} {p21 : Str × Option Addr} {e21 : Option D} {p22 : Str × Option Addr} {e22 : Option D} {p23 : Str × Option Addr} {e23 : Option D} {p24 : Str × Option Addr} {e24 : Option D} {p25 : Str × Option Addr} {e25 : Option D} {x : Str} {l : Option Addr} {ps : Slots} {d : D} {ds : List (Option D)} : VarAt (p0 :: p1 :: p2 :: p3 :: p4 :: p5 :: p6 :: p7 :: p8 :: p9 :: p10 :: p11 :: p12 :: p13 :: p14 :: p15 :: p16 :: p17 :: p18 :: p19 :: p20 :: p21 :: p22 :: p23 :: p24 :: p25 :: (x, l) :: ps) (e0 :: e1 :: e2 :: e3 :: e4 :: e5 :: e6 :: e7 :: e8 :: e9 :: e10 :: e11 :: e12 :: e13 :: e14 :: e15 :: e16 :: e17 :: e18 :: e19 :: e20 :: e21 :: e22 :: e23 :: e24 :: e25 :: some d :: ds) x l d := .tail (.tail (.tail (.tail (.tail (.tail (.tail (.tail (.tail (.tail (.tail (.tail (.tail (.tail (.tail (.tail (.tail (.tail (.tail (.tail (.tail (.tail (.tail (.tail (.tail (.tail (.head))))))))))))))))))))))))))
theorem VarSet.i26 {p0 : Str × Option Addr} {e0 : Option D} {p1 : Str × Option Addr} {e1 : Option D} {p2 : Str × Option Addr} {e2 : Option D} {p3 : Str × Option Addr} {e3 : Option D} {p4 : Str × Option Addr} {e4 : Option D} {p5 : Str × Option Addr} {e5 : Option D} {p6 : Str × Option Addr} {e6 : Option D} {p7 : Str × Option Addr} {e7 : Option D} {p8 : Str × Option Addr} {e8 : Option D} {p9 : Str × Option Addr} {e9 : Option D} {p10 : Str × Option Addr} {e10 : Option D} {p11 : Str × Option Addr} {e11 : Option D} {p12 : Str × Option Addr} {e12 : Option D} {p13 : Str × Option Addr} {e13 : Option D} {p14 : Str × Option Addr} {e14 : Option D} {p15 : Str × Option Addr} {e15 : Option D} {p16 : Str × Option Addr} {e16 : Option D} {p17 : Str × Option Addr} {e17 : Option D} {p18 : Str × Option Addr} {e18 : Option D} {p19 : Str × Option Addr} {e19 : Option D} {p20 : Str × Option Addr} {e20 : Option D} {p21 : Str × Option Addr} {e21 : Option D} {p22 : Str × Option Addr} {e22 : Option D} {p23 : Str × Option Addr} {e23 : Option D} {p24 : Str × Option Addr} {e24 : Option D} {p25 : Str × Option Addr} {e25 : Option D} {x : Str} {l : Option Addr} {ps : Slots} {d : D} {e : Option D} {ds : List (Option D)} : VarSet (p0 :: p1 :: p2 :: p3 :: p4 :: p5 :: p6 :: p7 :: p8 :: p9 :: p10 :: p11 :: p12 :: p13 :: p14 :: p15 :: p16 :: p17 :: p18 :: p19 :: p20 :: p21 :: p22 :: p23 :: p24 :: p25 :: (x, l) :: ps) (e0 :: e1 :: e2 :: e3 :: e4 :: e5 :: e6 :: e7 :: e8 :: e9 :: e10 :: e11 :: e12 :: e13 :: e14 :: e15 :: e16 :: e17 :: e18 :: e19 :: e20 :: e21 :: e22 :: e23 :: e24 :: e25 :: e :: ds) x l d (e0 :: e1 :: e2 :: e3 :: e4 :: e5 :: e6 :: e7 :: e8 :: e9 :: e10 :: e11 :: e12 :: e13 :: e14 :: e15 :: e16 :: e17 :: e18 :: e19 :: e20 :: e21 :: e22 :: e23 :: e24 :: e25 :: some d :: ds) := .tail (.tail (.tail (.tail (.tail (.tail (.tail (.tail (.tail (.tail (.tail (.tail (.tail (.tail (.tail (.tail (.tail (.tail (.tail (.tail (.tail (.tail (.tail (.tail (.tail (.tail (.head))))))))))))))))))))))))))
theorem VarAt.i27 {p0 : Str × Option Addr} {e0 : Option D} {p1 : Str × Option Addr} {e1 : Option D} {p2 : Str × Option Addr} {e2 : Option D} {p3 : Str × Option Addr} {e3 : Option D} {p4 : Str × Option Addr} {e4 : Option D} {p5 : Str × Option Addr} {e5 : Option D} {p6 : Str × Option Addr} {e6 : Option D} {p7 : Str × Option Addr} {e7 : Option D} {p8 : Str × Option Addr} {e8 : Option D} {p9 : Str × Option Addr} {e9 : Option D} {p10 : Str × Option Addr} {e10 : Option D} {p11 : Str × Option Addr} {e11 : Option D} {p12 : Str × Option Addr} {e12 : Option D} {p13 : Str × Option Addr} {e13 : Option D} {p14 : Str × Option Addr} {e14 : Option D} {p15 : Str × Option Addr} {e15 : Option D} {p16 : Str × Option Addr} {e16 : Option D} {p17 : Str × Option Addr} {e17 : Option D} {p18 : Str × Option Addr} {e18 : Option D} {p19 : Str × Option Addr} {e19 : Option D} {p20 : Str × Option Addr} {e20 : Option D} {p21 : Str × Option Addr} {e21 : Option D} {p22 : Str × Option Addr} {e22 : Option D} {p23 : Str × Option Addr} {e23 : Option D} {p24 : Str × Option Addr} {e24 : Option D} {p25 : Str × Option Addr} {e25 : Option D} {p26 : Str × Option Addr} {e26 : Option D} {x : Str} {l : Option Addr} {ps : Slots} {d : D} {ds : List (Option D)} : VarAt (p0 :: p1 :: p2 :: p3 :: p4 :: p5 :: p6 :: p7 :: p8 :: p9 :: p10 :: p11 :: p12 :: p13 :: p14 :: p15 :: p16 :: p17 :: p18 :: p19 :: p20 :: p21 :: p22 :: p23 :: p24 :: p25 :: p26 :: (x, l) :: ps) (e0 :: e1 :: e2 :: e3 :: e4 :: e5 :: e6 :: e7 :: e8 :: e9 :: e10 :: e11 :: e12 :: e13 :: e14 :: e15 :: e16 :: e17 :: e18 :: e19 :: e20 :: e21 :: e22 :: e23 :: e24 :: e25 :: e26 :: some d :: ds) x l d := .tail (.tail (.tail (.tail (.tail (.tail (.tail (.tail (.tail (.tail (.tail (.tail (.tail (.tail (.tail (.tail (.tail (.tail (.tail (.tail (.tail (.tail (.tail (.tail (.tail (.tail (.tail (.head)))))))))))))))))))))))))))
theorem VarSet.i27 {p0 : Str × Option Addr} {e0 : Option D} {p1 : Str × Option Addr} {e1 : Option D} {p2 : Str × Option Addr} {e2 : Option D} {p3 : Str × Option Addr} {e3 : Option D} {p4 : Str × Option Addr} {e4 : Option D} {p5 : Str × Option Addr} {e5 : Option D} {p6 : Str × Option Addr} {e6 : Option D} {p7 : Str × Option Addr} {e7 : Option D} {p8 : Str × Option Addr} {e8 : Option D} {p9 : Str × Option Addr} {e9 : Option D} {p10 : Str × Option Addr} {e10 : Option D} {p11 : Str × Option Addr} {e11 : Option D} {p12 : Str × Option Addr} {e12 : Option D} {p13 : Str × Option Addr} {e13 : Option D} {p14 : Str × Option Addr} {e14 : Option D} {p15 : Str × Option Addr} {e15 : Option D} {p16 : Str × Option Addr} {e16 : Option D} {p17 : Str × Option Addr} {e17 : Option D} {p18 : Str × Option Addr} {e18 : Option D} {p19 : Str × Option Addr} {e19 : Option D} {p20 : Str × Option Addr} {e20 : Option D} {p21 : Str × Option Addr} {e21 : Option D} {p22 : Str × Option Addr} {e22 : Option D} {p23 : Str × Option Addr} {e23 : Option D} {p24 : Str × Option Addr} {e24 : Option D} {p25 : Str × Option Addr} {e25 : Option D} {p26 : Str × Option Addr} {e26 : Option D} {x : Str} {l : Option Addr} {ps : Slots} {d : D} {e : Option D} {ds : List (Option D)} : VarSet (p0 :: p1 :: p2 :: p3 :: p4 :: p5 :: p6 :: p7 :: p8 :: p9 :: p10 :: p11 :: p12 :: p13 :: p14 :: p15 :: p16 :: p17 :: p18 :: p19 :: p20 :: p21 :: p22 :: p23 :: p24 :: p25 :: p26 :: (x, l) :: ps) (e0 :: e1 :: e2 :: e3 :: e4 :: e5 :: e6 :: e7 :: e8 :: e9 :: e10 :: e11 :: e12 :: e13 :: e14 :: e15 :: e16 :: e17 :: e18 :: e19 :: e20 :: e21 :: e22 :: e23 :: e24 :: e25 :: e26 :: e :: ds) x l d (e0 :: e1 :: e2 :: e3 :: e4 :: e5 :: e6 :: e7 :: e8 :: e9 :: e10 :: e11 :: e12 :: e13 :: e14 :: e15 :: e16 :: e17 :: e18 :: e19 :: e20 :: e21 :: e22 :: e23 :: e24 :: e25 :: e26 :: some d :: ds) := .tail (.tail (.tail (.tail (.tail (.tail (.tail (.tail (.tail (.tail (.tail (.tail (.tail (.tail (.tail (.tail (.tail (.tail (.tail (.tail (.tail (.tail (.tail (.tail (.tail (.tail (.tail (.head)))))))))))))))))))))))))))
theorem VarAt.i28 {p0 : Str × Option Addr} {e0 : Option D} {p1 : Str × Option Addr} {e1 : Option D} {p2 : Str × Option Addr} {e2 : Option D} {p3 : Str × Option Addr} {e3 : Option D} {p4 : Str × Option Addr} {e4 : Option D} {p5 : Str × Option Addr} {e5 : Option D} {p6 : Str × Option Addr} {e6 : Option D} {p7 : Str × Option Addr} {e7 : Option D} {p8 : Str × Option Addr} {e8 : Option D} {p9 : Str × Option Addr} {e9 : Option D} {p10 : Str × Option Addr} {e10 : Option D} {p11 : Str × Option Addr} {e11 : Option D} {p12 : Str × Option Addr} {e12 : Option D} {p13 : Str × Option Addr} {e13 : Option D} {p14 : Str × Option Addr} {e14 : Option D} {p15 : Str × Option Addr} {e15 : Option D} {p16 : Str × Option Addr} {e16 : Option D} {p17 : Str × Option Addr} {e17 : Option D} {p18 : Str × Option Addr} {e18 : Option D} {p19 : Str × Option Addr} {e19 : Option D} {p20 : Str × Option Addr} {e20 : Option D} {p21 : Str × Option Addr} {e21 : Option D} {p22 : Str × Option Addr} {e22 : Option D} {p23 : Str × Option Addr} {e23 : Option D} {p24 : Str × Option Addr} {e24 : Option D} {p25 : Str × Option Addr} {e25 : Option D} {p26 : Str × Option Addr} {e26 : Option D} {p27 : Str × Option Addr} {e27 : Option D} {x : Str} {l : Option Addr} {ps : Slots} {d : D} {ds : List (Option D)} : VarAt (p0 :: p1 :: p2 :: p3 :: p4 :: p5 :: p6 :: p7 :: p8 :: p9 :: p10 :: p11 :: p12 :: p13 :: p14 :: p15 :: p16 :: p17 :: p18 :: p19 :: p20 :: p21 :: p22 :: p23 :: p24 :: p25 :: p26 :: p27 :: (x, l) :: ps) (e0 :: e1 :: e2 :: e3 :: e4 :: e5 :: e6 :: e7 :: e8 :: e9 :: e10 :: e11 :: e12 :: e13 :: e14 :: e15 :: e16 :: e17 :: e18 :: e19 :: e20 :: e21 :: e22 :: e23 :: e24 :: e25 :: e26 :: e27 :: some d :: ds) x l d := .tail (.tail (.tail (.tail (.tail (.tail (.tail (.tail (.tail (.tail (.tail (.tail (.tail (.tail (.tail (.tail (.tail (.tail (.tail (.tail (.tail (.tail (.tail (.tail (.tail (.tail (.tail (.tail (.head))))))))))))))))))))))))))))
theorem VarSet.i28 {p0 : Str × Option Addr} {e0 : Option D} {p1 : Str × Option Addr} {e1 : Option D} {p2 : Str × Option Addr} {e2 : Option D} {p3 : Str × Option Addr} {e3 : Option D} {p4 : Str × Option Addr} {e4 : Option D} {p5 : Str × Option Addr} {e5 : Option D} {p6 : Str × Option Addr} {e6 : Option D} {p7 : Str × Option Addr} {e7 : Option D} {p8 : Str × Option Addr} {e8 : Option D} {p9 : Str × Option Addr} {e9 : Option D} {p10 : Str × Option Addr} {e10 : Option D} {p11 : Str × Option Addr} {e11 : Option D} {p12 : Str × Option Addr} {e12 : Option D} {p13 : Str × Option Addr} {e13 : Option D} {p14 : Str × Option Addr} {e14 : Option D} {p15 : Str × Option Addr} {e15 : Option D} {p16 : Str × Option Addr} {e16 : Option D} {p17 : Str × Option Addr} {e17 : Option D} {p18 : Str × Option Addr} {e18 : Option D} {p19 : Str × Option Addr} {e19 : Option D} {p20 : Str × Option Addr} {e20 : Option D} {p21 : Str × Option Addr} {e21 : Option D} {p22 : Str × Option Addr} {e22 : Option D} {p23 : Str × Option Addr} {e23 : Option D} {p24 : Str × Option Addr} {e24 : Option D} {p25 : Str × Option Addr} {e25 : Option D} {p26 : Str × Option Addr} {e26 : Option D} {p27 : Str × Option Addr} {e27 : Option D} {x : Str} {l : Option Addr} {ps : Slots} {d : D} {e : Option D} {ds : List (Option D)} : VarSet (p0 :: p1 :: p2 :: p3 :: p4 :: p5 :: p6 :: p7 :: p8 :: p9 :: p10 :: p11 :: p12 :: p13 :: p14 :: p15 :: p16 :: p17 :: p18 :: p19 :: p20 :: p21 :: p22 :: p23 :: p24 :: p25 :: p26 :: p27 :: (x, l) :: ps) (e0 :: e1 :: e2 :: e3 :: e4 :: e5 :: e6 :: e7 :: e8 :: e9 :: e10 :: e11 :: e12 :: e13 :: e14 :: e15 :: e16 :: e17 :: e18 :: e19 :: e20 :: e21 :: e22 :: e23 :: e24 :: e25 :: e26 :: e27 :: e :: ds) x l d (e0 :: e1 :: e2 :: e3 :: e4 :: e5 :: e6 :: e7 :: e8 :: e9 :: e10 :: e11 :: e12 :: e13 :: e14 :: e15 :: e16 :: e17 :: e18 :: e19 :: e20 :: e21 :: e22 :: e23 :: e24 :: e25 :: e26 :: e27 :: some d :: ds) := .tail (.tail (.tail (.tail (.tail (.tail (.tail (.tail (.tail (.tail (.tail (.tail (.tail (.tail (.tail (.tail (.tail (.tail (.tail (.tail (.tail (.tail (.tail (.tail (.tail (.tail (.tail (.tail (.head))))))))))))))))))))))))))))
theorem VarAt.i29 {p0 : Str × Option Addr} {e0 : Option D} {p1 : Str × Option Addr} {e1 : Option D} {p2 : Str × Option Addr} {e2 : Option D} {p3 : Str × Option Addr} {e3 : Option D} {p4 : Str × Option Addr} {e4 : Option D} {p5 : Str × Option Addr} {e5 : Option D} {p6 : Str × Option Addr} {e6 : Option D} {p7 : Str × Option Addr} {e7 : Option D} {p8 : Str × Option Addr} {e8 : Option D} {p9 : Str × Option Addr} {e9 : Option D} {p10 : Str × Option Addr} {e10 : Option D} {p11 : Str × Option Addr} {e11 : Option D} {p12 : Str × Option Addr} {e12 : Option D} {p13 : Str × Option Addr} {e13 : Option D} {p14 : Str × Option Addr} {e14 : Option D} {p15 : Str × Option Addr} {e15 : Option D} {p16 : Str × Option Addr} {e16 : Option D} {p17 : Str × Option Addr} {e17 : Option D} {p18 : Str × Option Addr} {e18 : Option D} {p19 : Str × Option Addr} {e19 : Option D} {p20 : Str × Option Addr} {e20 : Option D} {p21 : Str × Option Addr} {e21 : Option D} {p22 : Str × Option Addr} {e22 : Option D} {p23 : Str × Option Addr} {e23 : Option D} {p24 : Str × Option Addr} {e24 : Option D} {p25 : Str × Option Addr} {e25 : Option D} {p26 : Str × Option Addr} {e26 : Option D} {p27 : Str × Option Addr} {e27 : Option D} {p28 : Str × Option Addr} {e28 : Option D} {x : Str} {l : Option Addr} {ps : Slots} {d : D} {ds : List (Option D)} : VarAt (p0 :: p1 :: p2 :: p3 :: p4 :: p5 :: p6 :: p7 :: p8 :: p9 :: p10 :: p11 :: p12 :: p13 :: p14 :: p15 :: p16 :: p17 :: p18 :: p19 :: p20 :: p21 :: p22 :: p23 :: p24 :: p25 :: p26 :: p27 :: p28 :: (x, l) :: ps) (e0 :: e1 :: e2 :: e3 :: e4 :: e5 :: e6 :: e7 :: e8 :: e9 :: e10 :: e11 :: e12 :: e13 :: e14 :: e15 :: e16 :: e17 :: e18 :: e19 :: e20 :: e21 :: e22 :: e23 :: e24 :: e25 :: e26 :: e27 :: e28 :: some d :: ds) x l d := .tail (.tail (.tail (.tail (.tail (.tail (.tail (.tail (.tail (.tail (.tail (.tail (.tail (.tail (.tail (.tail (.tail (.tail (.tail (.tail (.tail (.tail (.tail (.tail (.tail (.tail (.tail (.tail (.tail (.head)))))))))))))))))))))))))))))
theorem VarSet.i29 {p0 : Str × Option Addr} {e0 : Option D} {p1 : Str × Option Addr} {e1 : Option D} {p2 : Str × Option Addr} {e2 : Option D} {p3 : Str × Option Addr} {e3 : Option D} {p4 : Str × Option Addr} {e4 : Option D} {p5 : Str × Option Addr} {e5 : Option D} {p6 : Str × Option Addr} {e6 : Option D} {p7 : Str × Option Addr} {e7 : Option D} {p8 : Str × Option Addr} {e8 : Option D} {p9 : Str × Option Addr} {e9 : Option D} {p10 : Str × Option Addr} {e10 : Option D} {p11 : Str × Option Addr} {e11 : Option D} {p12 : Str × Option Addr} {e12 : Option D} {p13 : Str × Option Addr} {e13 : Option D} {p14 : Str × Option Addr} {e14 : Option D} {p15 : Str × Option Addr} {e15 : Option D} {p16 : Str × Option Addr} {e16 : Option D} {p17 : Str × Option Addr} {e17 : Option D} {p18 : Str × Option Addr} {e18 : Option D} {p19 : Str × Option Addr} {e19 : Option D} {p20 : Str × Option Addr} {e20 : Option D} {p21 : Str × Option Addr} {e21 : Option D} {p22 : Str × Option Addr} {e22 : Option D} {p23 : Str × Option Addr} {e23 : Option D} {p24 : Str × Option Addr} {e24 : Option D} {p25 : Str × Option Addr} {e25 : Option D} {p26 : Str × Option Addr} {e26 : Option D} {p27 : Str × Option Addr} {e27 : Option D} {p28 : Str × Option Addr} {e28 : Option D} {x : Str} {l : Option Addr} {ps : Slots} {d : D} {e : Option D} {ds : List (Option D)} : VarSet (p0 :: p1 :: p2 :: p3 :: p4 :: p5 :: p6 :: p7 :: p8 :: p9 :: p10 :: p11 :: p12 :: p13 :: p14 :: p15 :: p16 :: p17 :: p18 :: p19 :: p20 :: p21 :: p22 :: p23 :: p24 :: p25 :: p26 :: p27 :: p28 :: (x, l) :: ps) (e0 :: e1 :: e2 :: e3 :: e4 :: e5 :: e6 :: e7 :: e8 :: e9 :: e10 :: e11 :: e12 :: e13 :: e14 :: e15 :: e16 :: e17 :: e18 :: e19 :: e20 :: e21 :: e22 :: e23 :: e24 :: e25 :: e26 :: e27 :: e28 :: e :: ds) x l d (e0 :: e1 :: e2 :: e3 :: e4 :: e5 :: e6 :: e7 :: e8 :: e9 :: e10 :: e11 :: e12 :: e13 :: e14 :: e15 :: e16 :: e17 :: e18 :: e19 :: e20 :: e21 :: e22 :: e23 :: e24 :: e25 :: e26 :: e27 :: e28 :: some d :: ds) := .tail (.tail (.tail (.tail (.tail (.tail (.tail (.tail (.tail (.tail (.tail (.tail (.tail (.tail (.tail (.tail (.tail (.tail (.tail (.tail (.tail (.tail (.tail (.tail (.tail (.tail (.tail (.tail (.tail (.head)))))))))))))))))))))))))))))
theorem VarAt.i30 {p0 : Str × Option Addr} {e0 : Option D} {p1 : Str × Option Addr} {e1 : Option D} {p2 : Str × Option Addr} {e2 : Option D} {p3 : Str × Option Addr} {e3 : Option D} {p4 : Str × Option Addr} {e4 : Option D} {p5 : Str × Option Addr} {e5 : Option D} {p6 : Str × Option Addr} {e6 : Option D} {p7 : Str × Option Addr} {e7 : Option D} {p8 : Str × Option Addr} {e8 : Option D} {p9 : Str × Option Addr} {e9 : Option D} {p10 : Str × Option Addr} {e10 : Option D} {p11 : Str × Option Addr} {e11 : Option D} {p12 : Str × Option Addr} {e12 : Option D} {p13 : Str × Option Addr} {e13 : Option D} {p14 : Str × Option Addr} {e14 : Option D} {p15 : Str × Option Addr} {e15 : Option D} {p16 : Str × Option Addr} {e16 : Option D} {p17 : Str × Option Addr} {e17 : Option D} {p18 : Str × Option Addr} {e18 : Option D} {p19 : Str × Option Addr} {e19 : Option D} {p20 : Str × Option Addr} {e20 : Option D} {p21 : Str × Option Addr} {e21 : Option D} {p22 : Str × Option Addr} {e22 : Option D} {p23 : Str × Option Addr} {e23 : Option D} {p24 : Str × Option Addr} {e24 : Option D} {p25 : Str × Option Addr} {e25 : Option D} {p26 : Str × Option Addr} {e26 : Option D} {p27 : Str × Option Addr} {e27 : Option D} {p28 : Str × Option Addr} {e28 : Option D} {p29 : Str × Option Addr} {e29 : Option D} {x : Str} {l : Option Addr} {ps : Slots} {d : D} {ds : List (Option D)} : VarAt (p0 :: p1 :: p2 :: p3 :: p4 :: p5 :: p6 :: p7 :: p8 :: p9 :: p10 :: p11 :: p12 :: p13 :: p14 :: p15 :: p16 :: p17 :: p18 :: p19 :: p20 :: p21 :: p22 :: p23 :: p24 :: p25 :: p26 :: p27 :: p28 :: p29 :: (x, l) :: ps) (e0 :: e1 :: e2 :: e3 :: e4 :: e5 :: e6 :: e7 :: e8 :: e9 :: e10 :: e11 :: e12 :: e13 :: e14 :: e15 :: e16 :: e17 :: e18 :: e19 :: e20 :: e21 :: e22 :: e23 :: e24 :: e25 :: e26 :: e27 :: e28 :: e29 :: some d :: ds) x l d := .tail (.tail (.tail (.tail (.tail (.tail (.tail (.tail (.tail (.tail (.tail (.tail (.tail (.tail (.tail (.tail (.tail (.tail (.tail (.tail (.tail (.tail (.tail (.tail (.tail (.tail (.tail (.tail (.tail (.tail (.head))))))))))))))))))))))))))))))
theorem VarSet.i30 {p0 : Str × Option Addr} {e0 : Option D} {p1 : Str × Option Addr} {e1 : Option D} {p2 : Str × Option Addr} {e2 : Option D} {p3 : Str × Option Addr} {e3 : Option D} {p4 : Str × Option Addr} {e4 : Option D} {p5 : Str × Option Addr} {e5 : Option D} {p6 : Str × Option Addr} {e6 : Option D} {p7 : Str × Option Addr} {e7 : Option D} {p8 : Str × Option Addr} {e8 : Option D} {p9 : Str × Option Addr} {e9 : Option D} {p10 : Str × Option Addr} {e10 : Option D} {p11 : Str × Option Addr} {e11 : Option D} {p12 : Str × Option Addr} {e12 : Option D} {p13 : Str × Option Addr} {e13 : Option D} {p14 : Str × Option Addr} {e14 : Option D} {p15 : Str × Option Addr} {e15 : Option D} {p16 : Str × Option Addr} {e16 : Option D} {p17 : Str × Option Addr} {e17 : Option D} {p18 : Str × Option Addr} {e18 : Option D} {p19 : Str × Option Addr} {e19 : Option D} {p20 : Str × Option Addr} {e20 : Option D} {p21 : Str × Option Addr} {e21 : Option D} {p22 : Str × Option Addr} {e22 : Option D} {p23 : Str × Option Addr} {e23 : Option D} {p24 : Str × Option Addr} {e24 : Option D} {p25 : Str × Option Addr} {e25 : Option D} {p26 : Str × Option Addr} {e26 : Option D} {p27 : Str × Option Addr} {e27 : Option D} {p28 : Str × Option Addr} {e28 : Option D} {p29 : Str × Option Addr} {e29 : Option D} {x : Str} {l : Option Addr} {ps : Slots} {d : D} {e : Option D} {ds : List (Option D)} : VarSet (p0 :: p1 :: p2 :: p3 :: p4 :: p5 :: p6 :: p7 :: p8 :: p9 :: p10 :: p11 :: p12 :: p13 :: p14 :: p15 :: p16 :: p17 :: p18 :: p19 :: p20 :: p21 :: p22 :: p23 :: p24 :: p25 :: p26 :: p27 :: p28 :: p29 :: (x, l) :: ps) (e0 :: e1 :: e2 :: e3 :: e4 :: e5 :: e6 :: e7 :: e8 :: e9 :: e10 :: e11 :: e12 :: e13 :: e14 :: e15 :: e16 :: e17 :: e18 :: e19 :: e20 :: e21 :: e22 :: e23 :: e24 :: e25 :: e26 :: e27 :: e28 :: e29 :: e :: ds) x l d (e0 :: e1 :: e2 :: e3 :: e4 :: e5 :: e6 :: e7 :: e8 :: e9 :: e10 :: e11 :: e12 :: e13 :: e14 :: e15 :: e16 :: e17 :: e18 :: e19 :: e20 :: e21 :: e22 :: e23 :: e24 :: e25 :: e26 :: e27 :: e28 :: e29 :: some d :: ds) := .tail (.tail (.tail (.tail (.tail (.tail (.tail (.tail (.tail (.tail (.tail (.tail (.tail (.tail (.tail (.tail (.tail (.tail (.tail (.tail (.tail (.tail (.tail (.tail (.tail (.tail (.tail (.tail (.tail (.tail (.head))))))))))))))))))))))))))))))
theorem VarAt.i31 {p0 : Str × Option Addr} {e0 : Option D} {p1 : Str × Option Addr} {e1 : Option D} {p2 : Str × Option Addr} {e2 : Option D} {p3 : Str × Option Addr} {e3 : Option D} {p4 : Str × Option Addr} {e4 : Option D} {p5 : Str × Option Addr} {e5 : Option D} {p6 : Str × Option Addr} {e6 : Option D} {p7 : Str × Option Addr} {e7 : Option D} {p8 : Str × Option Addr} {e8 : Option D} {p9 : Str × Option Addr} {e9 : Option D} {p10 : Str × Option Addr} {e10 : Option D} {p11 : Str × Option Addr} {e11 : Option D} {p12 : Str × Option Addr} {e12 : Option D} {p13 : Str × Option Addr} {e13 : Option D} {p14 : Str × Option Addr} {e14 : Option D} {p15 : Str × Option Addr} {e15 : Option D} {p16 : Str × Option Addr} {e16 : Option D} {p17 : Str × Option Addr} {e17 : Option D} {p18 : Str × Option Addr} {e18 : Option D} {p19 : Str × Option Addr} {e19 : Option D} {p20 : Str × Option Addr} {e20 : Option D} {p21 : Str × Option Addr} {e21 : Option D} {p22 : Str × Option Addr} {e22 : Option D} {p23 : Str × Option Addr} {e23 : Option D} {p24 : Str × Option Addr} {e24 : Option D} {p25 : Str × Option Addr} {e25 : Option D} {p26 : Str × Option Addr} {e26 : Option D} {p27 : Str × Option Addr} {e27 : Option D} {p28 : Str × Option Addr} {e28 : Option D} {p29 : Str × Option Addr} {e29 : Option D} {p30 : Str × Option Addr} {e30 : Option D} {x : Str} {l : Option Addr} {ps : Slots} {d : D} {ds : List (Option D)} : VarAt (p0 :: p1 :: p2 :: p3 :: p4 :: p5 :: p6 :: p7 :: p8 :: p9 :: p10 :: p11 :: p12 :: p13 :: p14 :: p15 :: p16 :: p17 :: p18 :: p19 :: p20 :: p21 :: p22 :: p23 :: p24 :: p25 :: p26 :: p27 :: p28 :: p29 :: p30 :: (x, l) :: ps) (e0 :: e1 :: e2 :: e3 :: e4 :: e5 :: e6 :: e7 :: e8 :: e9 :: e10 :: e11 :: e12 :: e13 :: e14 :: e15 :: e16 :: e17 :: e18 :: e19 :: e20 :: e21 :: e22 :: e23 :: e24 :: e25 :: e26 :: e27 :: e28 :: e29 :: e30 :: some d :: ds) x l d := .tail (.tail (.tail (.tail (.tail (.tail (.tail (.tail (.tail (.tail (.tail (.tail (.tail (.tail (.tail (.tail (.tail (.tail (.tail (.tail (.tail (.tail (.tail (.tail (.tail (.tail (.tail (.tail (.tail (.tail (.tail (.head)))))))))))))))))))))))))))))))
theorem VarSet.i31 {p0 : Str × Option Addr} {e0 : Option D} {p1 : Str × Option Addr} {e1 : Option D} {p2 : Str × Option Addr} {e2 : Option D} {p3 : Str × Option Addr} {e3 : Option D} {p4 : Str × Option Addr} {e4 : Option D} {p5 : Str × Option Addr} {e5 : Option D} {p6 : Str × Option Addr} {e6 : Option D} {p7 : Str × Option Addr} {e7 : Option D} {p8 : Str × Option Addr} {e8 : Option D} {p9 : Str × Option Addr} {e9 : Option D} {p10 : Str × Option Addr} {e10 : Option D} {p11 : Str × Option Addr} {e11 : Option D} {p12 : Str × Option Addr} {e12 : Option D} {p13 : Str × Option Addr} {e13 : Option D} {p14 : Str × Option Addr} {e14 : Option D} {p15 : Str × Option Addr} {e15 : Option D} {p16 : Str × Option Addr} {e16 : Option D} {p17 : Str × Option Addr} {e17 : Option D} {p18 : Str × Option Addr} {e18 : Option D} {p19 : Str × Option Addr} {e19 : Option D} {p20 : Str × Option Addr} {e20 : Option D} {p21 : Str × Option Addr} {e21 : Option D} {p22 : Str × Option Addr} {e22 : Option D} {p23 : Str × Option Addr} {e23 : Option D} {p24 : Str × Option Addr} {e24 : Option D} {p25 : Str × Option Addr} {e25 : Option D} {p26 : Str × Option Addr} {e26 : Option D} {p27 : Str × Option Addr} {e27 : Option D} {p28 : Str × Option Addr} {e28 : Option D} {p29 : Str × Option Addr} {e29 : Option D} {p30 : Str × Option Addr} {e30 : Option D} {x : Str} {l : Option Addr} {ps : Slots} {d : D} {e : Option D} {ds : List (Option D)} : VarSet (p0 :: p1 :: p2 :: p3 :: p4 :: p5 :: p6 :: p7 :: p8 :: p9 :: p10 :: p11 :: p12 :: p13 :: p14 :: p15 :: p16 :: p17 :: p18 :: p19 :: p20 :: p21 :: p22 :: p23 :: p24 :: p25 :: p26 :: p27 :: p28 :: p29 :: p30 :: (x, l) :: ps) (e0 :: e1 :: e2 :: e3 :: e4 :: e5 :: e6 :: e7 :: e8 :: e9 :: e10 :: e11 :: e12 :: e13 :: e14 :: e15 :: e16 :: e17 :: e18 :: e19 :: e20 :: e21 :: e22 :: e23 :: e24 :: e25 :: e26 :: e27 :: e28 :: e29 :: e30 :: e :: ds) x l d (e0 :: e1 :: e2 :: e3 :: e4 :: e5 :: e6 :: e7 :: e8 :: e9 :: e10 :: e11 :: e12 :: e13 :: e14 :: e15 :: e16 :: e17 :: e18 :: e19 :: e20 :: e21 :: e22 :: e23 :: e24 :: e25 :: e26 :: e27 :: e28 :: e29 :: e30 :: some d :: ds) := .tail (.tail (.tail (.tail (.tail (.tail (.tail (.tail (.tail (.tail (.tail (.tail (.tail (.tail (.tail (.tail (.tail (.tail (.tail (.tail (.tail (.tail (.tail (.tail (.tail (.tail (.tail (.tail (.tail (.tail (.tail (.head)))))))))))))))))))))))))))))))
theorem VarAt.i32 {p0 : Str × Option Addr} {e0 : Option D} {p1 : Str × Option Addr} {e1 : Option D} {p2 : Str × Option Addr} {e2 : Option D} {p3 : Str × Option Addr} {e3 : Option D} {p4 : Str × Option Addr} {e4 : Option D} {p5 : Str × Option Addr} {e5 : Option D} {p6 : Str × Option Addr} {e6 : Option D} {p7 : Str × Option Addr} {e7 : Option D} {p8 : Str × Option Addr} {e8 : Option D} {p9 : Str × Option Addr} {e9 : Option D} {p10 : Str × Option Addr} {e10 : Option D} {p11 : Str × Option Addr} {e11 : Option D} {p12 : Str × Option Addr} {e12 : Option D} {p13 : Str × Option Addr} {e13 : Option D} {p14 : Str × Option Addr} {e14 : Option D} {p15 : Str × Option Addr} {e15 : Option D} {p16 : Str × Option Addr} {e16 : Option D} {p17 : Str × Option Addr} {e17 : Option D} {p18 : Str × Option Addr} {e18 : Option D} {p19 : Str × Option Addr} {e19 : Option D} {p20 : Str × Option Addr} {e20 : Option D} {p21 : Str × Option Addr} {e21 : Option D} {p22 : Str × Option Addr} {e22 : Option D} {p23 : Str × Option Addr} {e23 : Option D} {p24 : Str × Option Addr} {e24 : Option D} {p25 : Str × Option Addr} {e25 : Option D} {p26 : Str × Option Addr} {e26 : Option D} {p27 : Str × Option Addr} {e27 : Option D} {p28 : Str × Option Addr} {e28 : Option D} {p29 : Str × Option Addr} {e29 : Option D} {p30 : Str × Option Addr} {e30 : Option D} {p31 : Str × Option Addr} {e31 : Option D} {x : Str} {l : Option Addr} {ps : Slots} {d : D} {ds : List (Option D)} : VarAt (p0 :: p1 :: p2 :: p3 :: p4 :: p5 :: p6 :: p7 :: p8 :: p9 :: p10 :: p11 :: p12 :: p13 :: p14 :: p15 :: p16 :: p17 :: p18 :: p19 :: p20 :: p21 :: p22 :: p23 :: p24 :: p25 :: p26 :: p27 :: p28 :: p29 :: p30 :: p31 :: (x, l) :: ps) (e0 :: e1 :: e2 :: e3 :: e4 :: e5 :: e6 :: e7 :: e8 :: e9 :: e10 :: e11 :: e12 :: e13 :: e14 :: e15 :: e16 :: e17 :: e18 :: e19 :: e20 :: e21 :: e22 :: e23 :: e24 :: e25 :: e26 :: e27 :: e28 :: e29 :: e30 :: e31 :: some d :: ds) x l d := .tail (.tail (.tail (.tail (.tail (.tail (.tail (.tail (.tail (.tail (.tail (.tail (.tail (.tail (.tail (.tail (.tail (.tail (.tail (.tail (.tail (.tail (.tail (.tail (.tail (.tail (.tail (.tail (.tail (.tail (.tail (.tail (.head))))))))))))))))))))))))))))))))
theorem VarSet.i32 {p0 : Str × Option Addr} {e0 : Option D} {p1 : Str × Option Addr} {e1 : Option D} {p2 : Str × Option Addr} {e2 : Option D} {p3 : Str × Option Addr} {e3 : Option D} {p4 : Str × Option Addr} {e4 : Option D} {p5 : Str × Option Addr} {e5 : Option D} {p6 : Str × Option Addr} {e6 : Option D} {p7 : Str × Option Addr} {e7 : Option D} {p8 : Str × Option Addr} {e8 : Option D} {p9 : Str × Option Addr} {e9 : Option D} {p10 : Str × Option Addr} {e10 : Option D} {p11 : Str × Option Addr} {e11 : Option D} {p12 : Str × Option Addr} {e12 : Option D} {p13 : Str × Option Addr} {e13 : Option D} {p14 : Str × Option Addr} {e14 : Option D} {p15 : Str × Option Addr} {e15 : Option D} {p16 : Str × Option Addr} {e16 : Option D} {p17 : Str × Option Addr} {e17 : Option D} {p18 : Str × Option Addr} {e18 : Option D} {p19 : Str × Option Addr} {e19 : Option D} {p20 : Str × Option Addr} {e20 : Option D} {p21 : Str × Option Addr} {e21 : Option D} {p22 : Str × Option Addr} {e22 : Option D} {p23 : Str × Option Addr} {e23 : Option D} {p24 : Str × Option Addr} {e24 : Option D} {p25 : Str × Option Addr} {e25 : Option D} {p26 : Str × Option Addr} {e26 : Option D} {p27 : Str × Option Addr} {e27 : Option D} {p28 : Str × Option Addr} {e28 : Option D} {p29 : Str × Option Addr} {e29 : Option D} {p30 : Str × Option Addr} {e30 : Option D} {p31 : Str × Option Addr} {e31 : Option D} {x : Str} {l : Option Addr} {ps : Slots} {d : D} {e : Option D} {ds : List (Option D)} : VarSet (p0 :: p1 :: p2 :: p3 :: p4 :: p5 :: p6 :: p7 :: p8 :: p9 :: p10 :: p11 :: p12 :: p13 :: p14 :: p15 :: p16 :: p17 :: p18 :: p19 :: p20 :: p21 :: p22 :: p23 :: p24 :: p25 :: p26 :: p27 :: p28 :: p29 :: p30 :: p31 :: (x, l) :: ps) (e0 :: e1 :: e2 :: e3 :: e4 :: e5 :: e6 :: e7 :: e8 :: e9 :: e10 :: e11 :: e12 :: e13 :: e14 :: e15 :: e16 :: e17 :: e18 :: e19 :: e20 :: e21 :: e22 :: e23 :: e24 :: e25 :: e26 :: e27 :: e28 :: e29 :: e30 :: e31 :: e :: ds) x l d (e0 :: e1 :: e2 :: e3 :: e4 :: e5 :: e6 :: e7 :: e8 :: e9 :: e10 :: e11 :: e12 :: e13 :: e14 :: e15 :: e16 :: e17 :: e18 :: e19 :: e20 :: e21 :: e22 :: e23 :: e24 :: e25 :: e26 :: e27 :: e28 :: e29 :: e30 :: e31 :: some d :: ds) := .tail (.tail (.tail (.tail (.tail (.tail (.tail (.tail (.tail (.tail (.tail (.tail (.tail (.tail (.tail (.tail (.tail (.tail (.tail (.tail (.tail (.tail (.tail (.tail (.tail (.tail (.tail (.tail (.tail (.tail (.tail (.tail (.head))))))))))))))))))))))))))))))))
theorem VarAt.i33 {p0 : Str × Option Addr} {e0 : Option D} {p1 : Str × Option Addr} {e1 : Option D} {p2 : Str × Option Addr} {e2 : Option D} {p3 : Str × Option Addr} {e3 : Option D} {p4 : Str × Option Addr} {e4 : Option D} {p5 : Str × Option Addr} {e5 : Option D} {p6 : Str × Option Addr} {e6 : Option D} {p7 : Str × Option Addr} {e7 : Option D} {p8 : Str × Option Addr} {e8 : Option D} {p9 : Str × Option Addr} {e9 : Option D} {p10 : Str × Option Addr} {e10 : Option D} {p11 : Str × Option Addr} {e11 : Option D} {p12 : Str × Option Addr} {e12 : Option D} {p13 : Str × Option Addr} {e13 : Option D} {p14 : Str × Option Addr} {e14 : Option D} {p15 : Str × Option Addr} {e15 : Option D} {p16 : Str × Option Addr} {e16 : Option D} {p17 : Str × Option Addr} {e17 : Option D} {p18 : Str × Option Addr} {e18 : Option D} {p19 : Str × Option Addr} {e19 : Option D} {p20 : Str × Option Addr} {e20 : Option D} {p21 : Str × Option Addr} {e21 : Option D} {p22 : Str × Option Addr} {e22 : Option D} {p23 : Str × Option Addr} {e23 : Option D} {p24 : Str × Option Addr} {e24 : Option D} {p25 : Str × Option Addr} {e25 : Option D} {p26 : Str × Option Addr} {e26 : Option D} {p27 : Str × Option Addr} {e27 : Option D} {p28 : Str × Option Addr} {e28 : Option D} {p29 : Str × Option Addr} {e29 : Option D} {p30 : Str × Option Addr} {e30 : Option D} {p31 : Str × Option Addr} {e31 : Option D} {p32 : Str × Option Addr} {e32 : Option D} {x : Str} {l : Option Addr} {ps : Slots} {d : D} {ds : List (Option D)} : VarAt (p0 :: p1 :: p2 :: p3 :: p4 :: p5 :: p6 :: p7 :: p8 :: p9 :: p10 :: p11 :: p12 :: p13 :: p14 :: p15 :: p16 :: p17 :: p18 :: p19 :: p20 :: p21 :: p22 :: p23 :: p24 :: p25 :: p26 :: p27 :: p28 :: p29 :: p30 :: p31 :: p32 :: (x, l) :: ps) (e0 :: e1 :: e2 :: e3 :: e4 :: e5 :: e6 :: e7 :: e8 :: e9 :: e10 :: e11 :: e12 :: e13 :: e14 :: e15 :: e16 :: e17 :: e18 :: e19 :: e20 :: e21 :: e22 :: e23 :: e24 :: e25 :: e26 :: e27 :: e28 :: e29 :: e30 :: e31 :: e32 :: some d :: ds) x l d := .tail (.tail (.tail (.tail (.tail (.tail (.tail (.tail (.tail (.tail (.tail (.tail (.tail (.tail (.tail (.tail (.tail (.tail (.tail (.tail (.tail (.tail (.tail (.tail (.tail (.tail (.tail (.tail (.tail (.tail (.tail (.tail (.tail (.head)))))))))))))))))))))))))))))))))
theorem VarSet.i33 {p0 : Str × Option Addr} {e0 : Option D} {p1 : Str × Option Addr} {e1 : Option D} {p2 : Str × Option Addr} {e2 : Option D} {p3 : Str × Option Addr} {e3 : Option D} {p4 : Str × Option Addr} {e4 : Option D} {p5 : Str × Option Addr} {e5 : Option D} {p6 : Str × Option Addr} {e6 : Option D} {p7 : Str × Option Addr} {e7 : Option D} {p8 : Str × Option Addr} {e8 : Option D} {p9 : Str × Option Addr} {e9 : Option D} {p10 : Str × Option Addr} {e10 : Option D} {p11 : Str × Option Addr} {e11 : Option D} {p12 : Str × Option Addr} {e12 : Option D} {p13 : Str × Option Addr} {e13 : Option D} {p14 : Str × Option Addr} {e14 : Option D} {p15 : Str × Option Addr} {e15 : Option D} {p16 : Str × Option Addr} {e16 : Option D} {p17 : Str × Option Addr} {e17 : Option D} {p18 : Str × Option Addr} {e18 : Option D} {p19 : Str × Option Addr} {e19 : Option D} {p20 : Str × Option Addr} {e20 : Option D} {p21 : Str × Option Addr} {e21 : Option D} {p22 : Str × Option Addr} {e22 : Option D} {p23 : Str × Option Addr} {e23 : Option D} {p24 : Str × Option Addr} {e24 : Option D} {p25 : Str × Option Addr} {e25 : Option D} {p26 : Str × Option Addr} {e26 : Option D} {p27 : Str × Option Addr} {e27 : Option D} {p28 : Str × Option Addr} {e28 : Option D} {p29 : Str × Option Addr} {e29 : Option D} {p30 : Str × Option Addr} {e30 : Option D} {p31 : Str × Option Addr} {e31 : Option D} {p32 : Str × Option Addr} {e32 : Option D} {x : Str} {l : Option Addr} {ps : Slots} {d : D} {e : Option D} {ds : List (Option D)} : VarSet (p0 :: p1 :: p2 :: p3 :: p4 :: p5 :: p6 :: p7 :: p8 :: p9 :: p10 :: p11 :: p12 :: p13 :: p14 :: p15 :: p16 :: p17 :: p18 :: p19 :: p20 :: p21 :: p22 :: p23 :: p24 :: p25 :: p26 :: p27 :: p28 :: p29 :: p30 :: p31 :: p32 :: (x, l) :: ps) (e0 :: e1 :: e2 :: e3 :: e4 :: e5 :: e6 :: e7 :: e8 :: e9 :: e10 :: e11 :: e12 :: e13 :: e14 :: e15 :: e16 :: e17 :: e18 :: e19 :: e20 :: e21 :: e22 :: e23 :: e24 :: e25 :: e26 :: e27 :: e28 :: e29 :: e30 :: e31 :: e32 :: e :: ds) x l d (e0 :: e1 :: e2 :: e3 :: e4 :: e5 :: e6 :: e7 :: e8 :: e9 :: e10 :: e11 :: e12 :: e13 :: e14 :: e15 :: e16 :: e17 :: e18 :: e19 :: e20 :: e21 :: e22 :: e23 :: e24 :: e25 :: e26 :: e27 :: e28 :: e29 :: e30 :: e31 :: e32 :: some d :: ds) := .tail (.tail (.tail (.tail (.tail (.tail (.tail (.tail (.tail (.tail (.tail (.tail (.tail (.tail (.tail (.tail (.tail (.tail (.tail (.tail (.tail (.tail (.tail (.tail (.tail (.tail (.tail (.tail (.tail (.tail (.tail (.tail (.tail (.head)))))))))))))))))))))))))))))))))
theorem VarAt.i34 {p0 : Str × Option Addr} {e0 : Option D} {p1 : Str × Option Addr} {e1 : Option D} {p2 : Str × Option Addr} {e2 : Option D} {p3 : Str × Option Addr} {e3 : Option D} {p4 : Str × Option Addr} {e4 : Option D} {p5 : Str × Option Addr} {e5 : Option D} {p6 : Str × Option Addr} {e6 : Option D} {p7 : Str × Option Addr} {e7 : Option D} {p8 : Str × Option Addr} {e8 : Option D} {p9 : Str × Option Addr} {e9 : Option D} {p10 : Str × Option Addr} {e10 : Option D} {p11 : Str × Option Addr} {e11 : Option D} {p12 : Str × Option Addr} {e12 : Option D} {p13 : Str × Option Addr} {e13 : Option D} {p14 : Str × Option Addr} {e14 : Option D} {p15 : Str × Option Addr} {e15 : Option D} {p16 : Str × Option Addr} {e16 : Option D} {p17 : Str × Option Addr} {e17 : Option D} {p18 : Str × Option Addr} {e18 : Option D} {p19 : Str × Option Addr} {e19 : Option D} {p20 : Str × Option Addr} {e20 : Option D} {p21 : Str × Option Addr} {e21 : Option D} {p22 : Str × Option Addr} {e22 : Option D} {p23 : Str × Option Addr} {e23 : Option D} {p24 : Str × Option Addr} {e24 : Option D} {p25 : Str × Option Addr} {e25 : Option D} {p26 : Str × Option Addr} {e26 : Option D} {p27 : Str × Option Addr} {e27 : Option D} {p28 : Str × Option Addr} {e28 : Option D} {p29 : Str × Option Addr} {e29 : Option D} {p30 : Str × Option Addr} {e30 : Option D} {p31 : Str × Option Addr} {e31 : Option D} {p32 : Str × Option Addr} {e32 : Option D} {p33 : Str × Option Addr} {e33 : Option D} {x : Str} {l : Option Addr} {ps : Slots} {d : D} {ds : List (Option D)} : VarAt (p0 :: p1 :: p2 :: p3 :: p4 :: p5 :: p6 :: p7 :: p8 :: p9 :: p10 :: p11 :: p12 :: p13 :: p14 :: p15 :: p16 :: p17 :: p18 :: p19 :: p20 :: p21 :: p22 :: p23 :: p24 :: p25 :: p26 :: p27 :: p28 :: p29 :: p30 :: p31 :: p32 :: p33 :: (x, l) :: ps) (e0 :: e1 :: e2 :: e3 :: e4 :: e5 :: e6 :: e7 :: e8 :: e9 :: e10 :: e11 :: e12 :: e13 :: e14 :: e15 :: e16 :: e17 :: e18 :: e19 :: e20 :: e21 :: e22 :: e23 :: e24 :: e25 :: e26 :: e27 :: e28 :: e29 :: e30 :: e31 :: e32 :: e33 :: some d :: ds) x l d := .tail (.tail (.tail (.tail (.tail (.tail (.tail (.tail (.tail (.tail (.tail (.tail (.tail (.tail (.tail (.tail (.tail (.tail (.tail (.tail (.tail (.tail (.tail (.tail (.tail (.tail (.tail (.tail (.tail (.tail (.tail (.tail (.tail (.tail (.head))))))))))))))))))))))))))))))))))
theorem VarSet.i34 {p0 : Str × Option Addr} {e0 : Option D} {p1 : Str × Option Addr} {e1 : Option D} {p2 : Str × Option Addr} {e2 : Option D} {p3 : Str × Option Addr} {e3 : Option D} {p4 : Str × Option Addr} {e4 : Option D} {p5 : Str × Option Addr} {e5 : Option D} {p6 : Str × Option Addr} {e6 : Option D} {p7 : Str × Option Addr} {e7 : Option D} {p8 : Str × Option Addr} {e8 : Option D} {p9 : Str × Option Addr} {e9 : Option D} {p10 : Str × Option Addr} {e10 : Option D} {p11 : Str × Option Addr} {e11 : Option D} {p12 : Str × Option Addr} {e12 : Option D} {p13 : Str × Option Addr} {e13 : Option D} {p14 : Str × Option Addr} {e14 : Option D} {p15 : Str × Option Addr} {e15 : Option D} {p16 : Str × Option Addr} {e16 : Option D} {p17 : Str × Option Addr} {e17 : Option D} {p18 : Str × Option Addr} {e18 : Option D} {p19 : Str × Option Addr} {e19 : Option D} {p20 : Str × Option Addr} {e20 : Option D} {p21 : Str × Option Addr} {e21 : Option D} {p22 : Str × Option Addr} {e22 : Option D} {p23 : Str × Option Addr} {e23 : Option D} {p24 : Str × Option Addr} {e24 : Option D} {p25 : Str × Option Addr} {e25 : Option D} {p26 : Str × Option Addr} {e26 : Option D} {p27 : Str × Option Addr} {e27 : Option D} {p28 : Str × Option Addr} {e28 : Option D} {p29 : Str × Option Addr} {e29 : Option D} {p30 : Str × Option Addr} {e30 : Option D} {p31 : Str × Option Addr} {e31 : Option D} {p32 : Str × Option Addr} {e32 : Option D} {p33 : Str × Option Addr} {e33 : Option D} {x : Str} {l : Option Addr} {ps : Slots} {d : D} {e : Option D} {ds : List (Option D)} : VarSet (p0 :: p1 :: p2 :: p3 :: p4 :: p5 :: p6 :: p7 :: p8 :: p9 :: p10 :: p11 :: p12 :: p13 :: p14 :: p15 :: p16 :: p17 :: p18 :: p19 :: p20 :: p21 :: p22 :: p23 :: p24 :: p25 :: p26 :: p27 :: p28 :: p29 :: p30 :: p31 :: p32 :: p33 :: (x, l) :: ps) (e0 :: e1 :: e2 :: e3 :: e4 :: e5 :: e6 :: e7 :: e8 :: e9 :: e10 :: e11 :: e12 :: e13 :: e14 :: e15 :: e16 :: e17 :: e18 :: e19 :: e20 :: e21 :: e22 :: e23 :: e24 :: e25 :: e26 :: e27 :: e28 :: e29 :: e30 :: e31 :: e32 :: e33 :: e :: ds) x l d (e0 :: e1 :: e2 :: e3 :: e4 :: e5 :: e6 :: e7 :: e8 :: e9 :: e10 :: e11 :: e12 :: e13 :: e14 :: e15 :: e16 :: e17 :: e18 :: e19 :: e20 :: e21 :: e22 :: e23 :: e24 :: e25 :: e26 :: e27 :: e28 :: e29 :: e30 :: e31 :: e32 :: e33 :: some d :: ds) := .tail (.tail (.tail (.tail (.tail (.tail (.tail (.tail (.tail (.tail (.tail (.tail (.tail (.tail (.tail (.tail (.tail (.tail (.tail (.tail (.tail (.tail (.tail (.tail (.tail (.tail (.tail (.tail (.tail (.tail (.tail (.tail (.tail (.tail (.head))))))))))))))))))))))))))))))))))
theorem VarAt.i35 {p0 : Str × Option Addr} {e0 : Option D} {p1 : Str × Option Addr} {e1 : Option D} {p2 : Str × Option Addr} {e2 : Option D} {p3 : Str × Option Addr} {e3 : Option D} {p4 : Str × Option Addr} {e4 : Option D} {p5 : Str × Option Addr} {e5 : Option D} {p6 : Str × Option Addr} {e6 : Option D} {p7 : Str × Option Addr} {e7 : Option D} {p8 : Str × Option Addr} {e8 : Option D} {p9 : Str × Option Addr} {e9 : Option D} {p10 : Str × Option Addr} {e10 : Option D} {p11 : Str × Option Addr} {e11 : Option D} {p12 : Str × Option Addr} {e12 : Option D} {p13 : Str × Option Addr} {e13 : Option D} {p14 : Str × Option Addr} {e14 : Option D} {p15 : Str × Option Addr} {e15 : Option D} {p16 : Str × Option Addr} {e16 : Option D} {p17 : Str × Option Addr} {e17 : Option D} {p18 : Str × Option Addr} {e18 : Option D} {p19 : Str × Option Addr} {e19 : Option D} {p20 : Str × Option Addr} {e20 : Option D} {p21 : Str × Option Addr} {e21 : Option D} {p22 : Str × Option Addr} {e22 : Option D} {p23 : Str × Option Addr} {e23 : Option D} {p24 : Str × Option Addr} {e24 : Option D} {p25 : Str × Option Addr} {e25 : Option D} {p26 : Str × Option Addr} {e26 : Option D} {p27 : Str × Option Addr} {e27 : Option D} {p28 : Str × Option Addr} {e28 : Option D} {p29 : Str × Option Addr} {e29 : Option D} {p30 : Str × Option Addr} {e30 : Option D} {p31 : Str × Option Addr} {e31 : Option D} {p32 : Str × Option Addr} {e32 : Option D} {p33 : Str × Option Addr} {e33 : Option D} {p34 : Str × Option Addr} {e34 : Option D} {x : Str} {l : Option Addr} {ps : Slots} {d : D} {ds : List (Option D)} : VarAt (p0 :: p1 :: p2 :: p3 :: p4 :: p5 :: p6 :: p7 :: p8 :: p9 :: p10 :: p11 :: p12 :: p13 :: p14 :: p15 :: p16 :: p17 :: p18 :: p19 :: p20 :: p21 :: p22 :: p23 :: p24 :: p25 :: p26 :: p27 :: p28 :: p29 :: p30 :: p31 :: p32 :: p33 :: p34 :: (x, l) :: ps) (e0 :: e1 :: e2 :: e3 :: e4 :: e5 :: e6 :: e7 :: e8 :: e9 :: e10 :: e11 :: e12 :: e13 :: e14 :: e15 :: e16 :: e17 :: e18 :: e19 :: e20 :: e21 :: e22 :: e23 :: e24 :: e25 :: e26 :: e27 :: e28 :: e29 :: e30 :: e31 :: e32 :: e33 :: e34 :: some d :: ds) x l d := .tail (.tail (.tail (.tail (.tail (.tail (.tail (.tail (.tail (.tail (.tail (.tail (.tail (.tail (.tail (.tail (.tail (.tail (.tail (.tail (.tail (.tail (.tail (.tail (.tail (.tail (.tail (.tail (.tail (.tail (.tail (.tail (.tail (.tail (.tail (.head)))))))))))))))))))))))))))))))))))
theorem VarSet.i35 {p0 : Str × Option Addr} {e0 : Option D} {p1 : Str × Option Addr} {e1 : Option D} {p2 : Str × Option Addr} {e2 : Option D} {p3 : Str × Option Addr} {e3 : Option D} {p4 : Str × Option Addr} {e4 : Option D} {p5 : Str × Option Addr} {e5 : Option D} {p6 : Str × Option Addr} {e6 : Option D} {p7 : Str × Option Addr} {e7 : Option D} {p8 : Str × Option Addr} {e8 : Option D} {p9 : Str × Option Addr} {e9 : Option D} {p10 : Str × Option Addr} {e10 : Option D} {p11 : Str × Option Addr} {e11 : Option D} {p12 : Str × Option Addr} {e12 : Option D} {p13 : Str × Option Addr} {e13 : Option D} {p14 : Str × Option Addr} {e14 : Option D} {p15 : Str × Option Addr} {e15 : Option D} {p16 : Str × Option Addr} {e16 : Option D} {p17 : Str × Option Addr} {e17 : Option D} {p18 : Str × Option Addr} {e18 : Option D} {p19 : Str × Option Addr} {e19 : Option D} {p20 : Str × Option Addr} {e20 : Option D} {p21 : Str × Option Addr} {e21 : Option D} {p22 : Str × Option Addr} {e22 : Option D} {p23 : Str × Option Addr} {e23 : Option D} {p24 : Str × Option Addr} {e24 : Option D} {p25 : Str × Option Addr} {e25 : Option D} {p26 : Str × Option Addr} {e26 : Option D} {p27 : Str × Option Addr} {e27 : Option D} {p28 : Str × Option Addr} {e28 : Option D} {p29 : Str × Option Addr} {e29 : Option D} {p30 : Str × Option Addr} {e30 : Option D} {p31 : Str × Option Addr} {e31 : Option D} {p32 : Str × Option Addr} {e32 : Option D} {p33 : Str × Option Addr} {e33 : Option D} {p34 : Str × Option Addr} {e34 : Option D} {x : Str} {l : Option Addr} {ps : Slots} {d : D} {e : Option D} {ds : List (Option D)} : VarSet (p0 :: p1 :: p2 :: p3 :: p4 :: p5 :: p6 :: p7 :: p8 :: p9 :: p10 :: p11 :: p12 :: p13 :: p14 :: p15 :: p16 :: p17 :: p18 :: p19 :: p20 :: p21 :: p22 :: p23 :: p24 :: p25 :: p26 :: p27 :: p28 :: p29 :: p30 :: p31 :: p32 :: p33 :: p34 :: (x, l) :: ps) (e0 :: e1 :: e2 :: e3 :: e4 :: e5 :: e6 :: e7 :: e8 :: e9 :: e10 :: e11 :: e12 :: e13 :: e14 :: e15 :: e16 :: e17 :: e18 :: e19 :: e20 :: e21 :: e22 :: e23 :: e24 :: e25 :: e26 :: e27 :: e28 :: e29 :: e30 :: e31 :: e32 :: e33 :: e34 :: e :: ds) x l d (e0 :: e1 :: e2 :: e3 :: e4 :: e5 :: e6 :: e7 :: e8 :: e9 :: e10 :: e11 :: e12 :: e13 :: e14 :: e15 :: e16 :: e17 :: e18 :: e19 :: e20 :: e21 :: e22 :: e23 :: e24 :: e25 :: e26 :: e27 :: e28 :: e29 :: e30 :: e31 :: e32 :: e33 :: e34 :: some d :: ds) := .tail (.tail (.tail (.tail (.tail (.tail (.tail (.tail (.tail (.tail (.tail (.tail (.tail (.tail (.tail (.tail (.tail (.tail (.tail (.tail (.tail (.tail (.tail (.tail (.tail (.tail (.tail (.tail (.tail (.tail (.tail (.tail (.tail (.tail (.tail (.head)))))))))))))))))))))))))))))))))))
end Mine

-- L14
namespace Mine
open PySem PySem.Spec PySem.Calls PyProof.Rows PySem.W

theorem k_setattr (p : Params) : findIn (Kf p) (.ref 83) "__setattr__" = some (some (.builtin "object.__setattr__")) := by rfl
theorem k_plain (p : Params) : plainOver (Kf p) 83 = true := by rfl
theorem k_hasDict' (p : Params) : (clsIn (Kf p) 83).any (·.hasDict) = true := by rfl
theorem k_makes (p : Params) : makesIn (Kf p) 83 = true := by rfl
theorem k_init (p : Params) : findIn (Kf p) (.ref 83) "__init__" = some (some (.ref 38)) := by rfl
theorem k_initf (p : Params) : typeIn (Kf p) (.ref 38) = some (.type "function") := by rfl

theorem putL_len (nm : Str) (hsh : Int) (key v : Value) : ∀ es : List DictEntry, (putL nm hsh key v es).length ≤ es.length + 1
  | [] => by simp [putL]
  | e :: r => by
    have ih := putL_len nm hsh key v r
    unfold putL
    split
    · simp
    · simp only [List.length_cons]; omega

section
variable {prog : Program} {w : World} {A : Around} {Γ : Cx} {M W : Forb} {σ σ' : List (Option D)} {ω ω' : Owns}

theorem set_attr_raw {s : Shared} {x dx : Addr} {es : List DictEntry} {n : Nat} {nm : Str} {v : Value} {Q : Unit → Shared → Prop} {E : Value → Shared → Prop} (X : (Kf w.params).In s.heap) (hx : s.heap.get? x = some (instObj 83 dx)) (hd : s.heap.get? dx = some (dictOf es n))
    (ht : takerIn (Kf w.params) 83 nm = some Option.none) (hl : (getL nm es).isSome = true) (hz : es.length ≤ 900)
    (h : ∀ h' hsh tk n', h'.get? dx = some (dictOf (putL nm hsh (.str nm tk) v es) n') → Heap.SameBut dx s.heap h' → Q () { s with heap := h', toks := s.toks + 2 }) : wpAny (model prog w) A (setAttr (.ref x) nm v) Q E s := by
  have I : InstAt s.heap x (instObj 83 dx) 83 (some (dictOf es n)) := ⟨hx, rfl, rfl, hd⟩
  refine set_plain X I (k_setattr _) (osa_open (s := { s with toks := s.toks + 1 }) X I (k_plain _) ht fun b => ?_)
  obtain ⟨cd, hc, hdct⟩ := any_some (k_hasDict' w.params)
  refine wpAny_bind (wpAny_pure (wpAny_bind (wpAny_bind (wpAny_loadPart hx (wpAny_bind (Looks.here (s := { s with toks := s.toks + 1 }) (looks_clsIn X hc) ?_))))))
  rw [hdct]
  refine wpAny_pure (a := some dx) (wpAny_bind (wpAny_pure (wpAny_bind ?_)))
  unfold nsSet
  refine wpAny_bind (wpAny_bind (wpAny_askSetting (wpAny_pure (wpAny_bind (wpAny_mkText (wpAny_bind (wpAny_loadPart hd ?_)))))))
  have c : (!es.toArray.any (·.key.isStr nm) && es.toArray.any (·.refKey)) = false := by
    rw [List.any_toArray, List.any_toArray]
    cases hs : es.any (·.key.isStr nm) with
    | true => rfl
    | false =>
      have e1 : es.find? (·.key.isStr nm) = none := by
        rw [List.find?_eq_none]
        intro x hx hk
        rw [List.any_eq_true.mpr ⟨x, hx, hk⟩] at hs; cases hs
      unfold getL at hl
      rw [e1] at hl
      cases hr : es.any (·.refKey) with
      | false => rfl
      | true => rw [hr] at hl; cases hl
  have q : (dictOf es n).data = .dict es.toArray n := rfl
  rw [q]
  dsimp only
  rw [aRefKeyMayBeTheName_at, c]
  have hlen : ∀ (hsh : Int) (key : Value), (putL nm hsh key v es).length ≤ es.length + 1 := by
    exact fun hsh key => putL_len nm hsh key v es
  have D' := Heap.get?_update_self (Obj.putName nm (PyData.keyHash w.params nm) (.str nm (s.toks + 1)) v) hd (by rw [putName_dict]; rfl)
  rw [putName_dict] at D'
  refine wpAny_updatePart hd (wpAny_bind (wpAny_lookBehind (s := { s with heap := _, toks := s.toks + 1 + 1 }) D' (pastItsLine_dict (by rw [List.size_toArray, sizeLine_eq]; have := hlen (PyData.keyHash w.params nm) (.str nm (s.toks + 1)); omega)) ?_))
  exact wpAny_pure (h _ _ _ _ D' (Heap.SameBut.update ..))
end
end Mine

-- L15
namespace Mine
open PySem PySem.Spec PySem.Calls PyProof.Rows PySem.W

theorem AttrsAre.append {W : Forb} {h : Heap} {kvs ks : List (Str × D)} {es fs : List DictEntry} (H : AttrsAre W h kvs es) (K : AttrsAre W h ks fs) : AttrsAre W h (kvs ++ ks) (es ++ fs) := by
  induction H with
  | nil => exact K
  | cons a _ ih => exact .cons a ih
theorem AttrsAre.get {W : Forb} {h : Heap} {kvs : List (Str × D)} {es : List DictEntry} {nm : Str} (H : AttrsAre W h kvs es) (hn : nm ∉ kvs.map (·.1)) (hsh : Int) (key v : Value) : putL nm hsh key v es = es ++ [⟨hsh, key, v⟩] ∧ es.find? (·.key.isStr nm) = none ∧ es.any (·.refKey) = false := by
  induction H with
  | nil => exact ⟨rfl, rfl, rfl⟩
  | @cons x d hs t u ds es r _ ih =>
    rw [List.map_cons, List.mem_cons, not_or] at hn
    obtain ⟨i1, i2, i3⟩ := ih hn.2
    have hk : (Value.str x t).isStr nm = false := by
      show (x == nm) = false
      exact beq_eq_false_iff_ne.mpr fun e => hn.1 e.symm
    refine ⟨?_, ?_, ?_⟩
    · unfold putL
      dsimp only
      rw [hk, i1]; rfl
    · rw [List.find?_cons]
      dsimp only
      rw [hk]; exact i2
    · rw [List.any_cons, i3]; rfl
theorem AttrsAre.len {W : Forb} {h : Heap} {kvs : List (Str × D)} {es : List DictEntry} (H : AttrsAre W h kvs es) : es.length = kvs.length := by
  induction H with
  | nil => rfl
  | cons _ _ ih => simp [ih]

section
variable {prog : Program} {w : World} {A : Around} {Γ : Cx} {M W : Forb} {σ σ' σ₁ σ₂ : List (Option D)} {ω ω' : Owns} {R : Flow → Heap → Prop}

theorem Xs.setAttr {me nm : Str} {mp ap pos : Pos} {x dx : Addr} {e : Expr} {d : D} {kvs : List (Str × D)} {rest : List Stmt} (G : Gl w Γ.hb) (hx : Γ.hb.get? x = some (instObj 83 dx)) (b : Ev prog w Γ A M W σ ω (.Name me mp) (.val (.ref x)))
    (a : Ev prog w Γ A M W σ ω e d) (S : OwnSet ω dx (.attrs kvs) (.attrs (kvs ++ [(nm, d)])) ω') (ht : takerIn (Kf w.params) 83 nm = some none) (k : Xs prog w Γ A (Hx Γ M W σ ω') M rest R) (hn : nm ∉ kvs.map (·.1) := by first | decide | (simp only [List.map_append, List.map_cons, List.map_nil, List.cons_append, List.nil_append]; decide)) (hz : kvs.length ≤ 900 := by first | decide | simp)
    (hs : swapsWith e (some (.Attribute (.Name me mp) nm ap)) pos.line Γ.env = pure false := by rfl) : Xs prog w Γ A (Hx Γ M W σ ω) M (.Assign [.Attribute (.Name me mp) nm ap] e pos :: rest) R := by
  refine Xs.cons (P₁ := Hx Γ M W σ ω') (fun s Q E H q => ?_) k
  refine plainObj_wpAny_Assign_Attribute (a s _ E H fun v h₁ tk₁ k₁ r₁ => b _ _ E (H.stays k₁) fun u h₂ tk₂ k₂ r₂ => ?_) hs
  cases r₂
  have H₂ := (H.stays k₁).stays k₂
  obtain ⟨es, n, ed, at_⟩ := H₂.own _ S.mem
  obtain ⟨p1, p2, p3⟩ := at_.get hn 0 .none .none
  refine set_attr_raw (s := { s with heap := h₂, toks := tk₂ }) (G.stays H₂.base).K (H₂.base _ _ hx) ed ht (by unfold getL; rw [p2, p3]; rfl) (by rw [at_.len]; exact hz) fun h₃ hsh tk n' e₃ hs₃ => ?_
  rw [(at_.get hn hsh (.str nm tk) v).1] at e₃
  have U : Sub W h₂ W h₃ := Sub.sameBut hs₃ (H₂.MW _ (H₂.ownM _ S.mem))
  refine q .next h₃ _ (((Kp.of_stays k₁).trans (Kp.of_stays k₂)).trans (Kp.sameBut hs₃ (H₂.ownM _ S.mem))) ?_
  exact H₂.store_own S hs₃ ⟨_, n', e₃, (at_.sub U).append (.cons ((r₁.stays k₂).sub U) .nil)⟩

/-- a name takes a new list, the frame's own from here on -/
theorem Xs.own {x : Str} {l : Option Addr} {p pos : Pos} {e : Expr} {ds : List D} {rest : List Stmt} {σ' : Addr → List (Option D)} (O : Γ.Ok) (a : EvF prog w Γ A M W σ ω e ds) (V : ∀ b, VarSet Γ.slots σ x l (.val (.ref b)) (σ' b))
    (k : ∀ b, Xs prog w Γ A (Hx Γ (fun c => c = b ∨ M c) (fun c => c = b ∨ W c) (σ' b) ((b, .list ds) :: ω)) (fun c => c = b ∨ M c) rest R) (hM : ∀ a, l = some a → M a := by intro _ e; cases e)
    (hs : swapsWith e (some (.Name x p)) pos.line Γ.env = pure false := by rfl) : Xs prog w Γ A (Hx Γ M W σ ω) M (.Assign [.Name x p] e pos :: rest) R := by
  intro s Q E H q
  refine wpAny_execs_cons (wpAny_Assign_Name (a s _ E H fun b vs n h₁ tk₁ k₁ hb eb rb => ?_) hs)
  have H₁ := H.add k₁ hb (o := .list ds) ⟨vs, n, eb, rb⟩
  refine store_name (s := { s with heap := h₁, toks := tk₁ }) O H₁ (fun a ha => .inr (hM a ha)) (V b) (.val _) fun h₂ tk₂ k₂ H₂ => ?_
  refine k b _ Q E H₂ fun f h₃ tk₃ k₃ r₃ => q f h₃ tk₃ (fun c o ec hm => ?_) r₃
  have nb : ¬ (c = b ∨ M c) := fun y => y.elim (fun y => by rw [y, hb] at ec; cases ec) hm
  exact k₃ c o (k₂ c o (k₁ c o ec) nb) nb
theorem Xs.ifOwn {t : Expr} {x : Str} {l : Option Addr} {p pos ipos : Pos} {e : Expr} {ds : List D} {rest : List Stmt} {b : Bool} {σ' : Addr → List (Option D)} (O : Γ.Ok) (ts : Ts prog w Γ A M W σ ω t b) (a : b = true → EvF prog w Γ A M W σ ω e ds) (V : ∀ b, VarSet Γ.slots σ x l (.val (.ref b)) (σ' b))
    (k : b = true → ∀ b, Xs prog w Γ A (Hx Γ (fun c => c = b ∨ M c) (fun c => c = b ∨ W c) (σ' b) ((b, .list ds) :: ω)) (fun c => c = b ∨ M c) rest R) (k' : b = false → Xs prog w Γ A (Hx Γ M W σ ω) M rest R) (hM : ∀ a, l = some a → M a := by intro _ e; cases e)
    (hs : swapsWith e (some (.Name x p)) pos.line Γ.env = pure false := by rfl) : Xs prog w Γ A (Hx Γ M W σ ω) M (.If t [.Assign [.Name x p] e pos] [] ipos :: rest) R := by
  intro s Q E H q
  refine wpAny_execs_cons (wpAny_If (ts s _ _ H fun h₁ tk₁ k₁ => ?_))
  cases b with
  | false => exact wpAny_execs_nil (k' rfl _ Q E (H.stays k₁) fun f h₂ tk₂ k₂ r₂ => q f h₂ tk₂ ((Kp.of_stays k₁).trans k₂) r₂)
  | true =>
    have H := H.stays k₁
    refine wpAny_execs_cons (wpAny_Assign_Name (a rfl _ _ _ H fun b vs n h₂ tk₂ k₂ hb eb rb => ?_) hs)
    have H₂ := H.add k₂ hb (o := .list ds) ⟨vs, n, eb, rb⟩
    refine store_name (s := { s with heap := h₂, toks := tk₂ }) O H₂ (fun a ha => .inr (hM a ha)) (V b) (.val _) fun h₃ tk₃ k₃ H₃ => ?_
    refine wpAny_execs_nil (k rfl b _ Q E H₃ fun f h₄ tk₄ k₄ r₄ => q f h₄ tk₄ (fun c o ec hm => ?_) r₄)
    have nb : ¬ (c = b ∨ M c) := fun y => y.elim (fun y => by rw [y, fresh_back k₁ hb] at ec; cases ec) hm
    exact k₄ c o (k₃ c o (k₂ c o (k₁ c o ec)) nb) nb

theorem Xs.setItem {o : Str} {op tp pos : Pos} {i e : Expr} {a : Addr} {kx : Int} {d : D} {ds : List D} {rest : List Stmt} (x : Ev prog w Γ A M W σ ω e d) (y : Ev prog w Γ A M W σ ω (.Name o op) (.val (.ref a))) (z : Ev prog w Γ A M W σ ω i (.int kx)) (h0 : 0 ≤ kx) (h1 : kx < ds.length) (hz : ds.length ≤ 1000000)
    (S : OwnSet ω a (.list ds) (.list (ds.set kx.toNat d)) ω') (k : Xs prog w Γ A (Hx Γ M W σ ω') M rest R) (hs : swapsWith e (some (.Subscript (.Name o op) i tp)) pos.line Γ.env = pure false := by rfl) : Xs prog w Γ A (Hx Γ M W σ ω) M (.Assign [.Subscript (.Name o op) i tp] e pos :: rest) R := by
  refine Xs.cons (P₁ := Hx Γ M W σ ω') (fun s Q E H q => ?_) k
  refine wpAny_Assign_Subscript (x s _ E H fun v h₁ tk₁ k₁ r₁ => y _ _ E (H.stays k₁) fun u h₂ tk₂ k₂ r₂ => z _ _ E ((H.stays k₁).stays k₂) fun t h₃ tk₃ k₃ r₃ => ?_) hs
  cases r₂; cases r₃
  have H₃ := ((H.stays k₁).stays k₂).stays k₃
  obtain ⟨vs, n, ed, rl⟩ := H₃.own _ S.mem
  have hl := rl.length
  refine ki_setAt (s := { s with heap := h₃, toks := tk₃ }) ed h0 (by omega) (by rw [List.size_toArray]; omega) ?_
  have e₄ := Heap.get?_update_self (Obj.mapSeq (·.setIfInBounds kx.toNat v)) ed rfl
  have hs₄ : Heap.SameBut a h₃ (h₃.update a (Obj.mapSeq (·.setIfInBounds kx.toNat v))) := Heap.SameBut.update ..
  have U : Sub W h₃ W (h₃.update a (Obj.mapSeq (·.setIfInBounds kx.toNat v))) := Sub.sameBut hs₄ (H₃.MW _ (H₃.ownM _ S.mem))
  refine q .next _ _ (((Kp.of_stays (k₁.trans k₂)).trans (Kp.of_stays k₃)).trans (Kp.sameBut hs₄ (H₃.ownM _ S.mem))) (H₃.store_own S hs₄ ⟨vs.set kx.toNat v, n, e₄.trans ?_, ?_⟩)
  · rw [show Obj.mapSeq (fun x => x.setIfInBounds kx.toNat v) (listOf vs.toArray n) = listOf (vs.set kx.toNat v).toArray n from ?_]
    simp [Obj.mapSeq]
  · exact (rl.sub U).set (((r₁.stays k₂).stays k₃).sub U)
end
end Mine

-- L16
namespace Mine
open PySem PySem.Spec PySem.Calls PyProof.Rows PySem.W

open Classical in
/-- the heap without the addresses of M -/
noncomputable def mask (h : Heap) (M : Forb) : Heap := { h with objs := h.objs.mapIdx fun i o => if M i then { cls := .none, data := .freed } else o }
theorem mask_get {h : Heap} {M : Forb} {a : Addr} {o : Obj} : (mask h M).get? a = some o ↔ h.get? a = some o ∧ ¬ M a := by
  unfold mask Heap.get?
  dsimp only
  rw [Array.getElem?_mapIdx]
  cases e : h.objs[a]? with
  | none => simp
  | some p =>
    by_cases m : M a
    · simp [m]
    · simp [m]
theorem mask_none {h : Heap} {M : Forb} {a : Addr} : (mask h M).get? a = none ↔ h.get? a = none ∨ M a := by
  constructor
  · intro e
    cases q : h.get? a with
    | none => exact .inl rfl
    | some o =>
      by_cases m : M a
      · exact .inr m
      · rw [mask_get.mpr ⟨q, m⟩] at e; cases e
  · intro e
    cases q : (mask h M).get? a with
    | none => rfl
    | some o =>
      obtain ⟨x, y⟩ := mask_get.mp q
      exact e.elim (fun e => by rw [x] at e; cases e) (fun m => absurd m y)
theorem mask_stays (h : Heap) (M : Forb) : Stays (mask h M) h := fun _ _ e => (mask_get.mp e).1

/-- the same context over another heap -/
noncomputable abbrev Cx.on (Γ : Cx) (h : Heap) : Cx := ⟨Γ.env, Γ.slots, h⟩
theorem Cx.Ok.on {Γ : Cx} (O : Γ.Ok) (h : Heap) : (Γ.on h).Ok := ⟨O.kind, O.glob, O.bi, O.loc, O.cel, O.nd, O.dbg, O.apart, O.off⟩

section
variable {prog : Program} {w : World} {A : Around} {Γ : Cx} {M W : Forb} {σ σ' σ₁ σ₂ : List (Option D)} {ω ω' : Owns} {R : Flow → Heap → Prop} {h : Heap}

theorem Hx.on (H : Hx Γ M W σ ω h) : Hx (Γ.on (mask h M)) M W σ ω h :=
  ⟨mask_stays h M, fun _ m => mask_none.mpr (.inr m), H.vars, H.cells, H.own, H.ownM, H.ownL, H.ownC, H.ownN, H.locM, H.celW, H.MW, H.live⟩
theorem Hx.on_stays (H : Hx Γ M W σ ω h) : Stays Γ.hb (mask h M) := fun b o e => mask_get.mpr ⟨H.base b o e, fun m => by rw [H.new b m] at e; cases e⟩
theorem Hx.off {hb : Heap} (H : Hx (Γ.on hb) M W σ ω h) (k : Stays Γ.hb hb) : Hx Γ M W σ ω h :=
  ⟨k.trans H.base, fun b m => fresh_back k (H.new b m), H.vars, H.cells, H.own, H.ownM, H.ownL, H.ownC, H.ownN, H.locM, H.celW, H.MW, H.live⟩

/-- a loop whose body makes own objects -/
theorem X1.forM {target iter : Expr} {body : List Stmt} {pos : Pos} {ds : List D} {h₀ : Heap} (hh : A.handled = none) (it : It prog w Γ A M W σ ω iter ds)
    (J : Nat → Forb → List (Option D) → Owns → Prop) (h0 : J 0 M σ ω)
    (hb : ∀ M' W', (∀ b, M b → M' b) → (∀ b, W b → W' b) → ∀ i d σ₁ ω₁, ds[i]? = some d → J i M' σ₁ ω₁ → ∃ σ₂, Tg prog w Γ A M' W' σ₁ ω₁ target d σ₂ ∧
      ∀ hx, Stays Γ.hb hx → Xs prog w Γ A (Hx (Γ.on hx) M' W' σ₂ ω₁) M' body (fun f h => match f with
        | .next | .cont => ∃ M'' W'' σ₃ ω₃, (∀ b, M' b → M'' b) ∧ (∀ b, W' b → W'' b) ∧ (∀ b, W'' b → W' b ∨ M'' b) ∧ J (i + 1) M'' σ₃ ω₃ ∧ Hx (Γ.on hx) M'' W'' σ₃ ω₃ h
        | .brk => ∃ M'' W'' σ₃ ω₃, (∀ b, M' b → M'' b) ∧ (∀ b, W' b → W'' b) ∧ (∀ b, W'' b → W' b ∨ M'' b) ∧ J ds.length M'' σ₃ ω₃ ∧ Hx (Γ.on hx) M'' W'' σ₃ ω₃ h
        | .ret v => False))
    (hend : ∀ hp M' W' σ' ω', (∀ b, M b → M' b) → (∀ b, M' b → M b ∨ h₀.get? b = none) → (∀ b, W b → W' b) → J ds.length M' σ' ω' → Hx Γ M' W' σ' ω' hp → R .next hp)
    (hs : ∀ x, foldedSetIterable iter Γ.env x = pure x := by intro _; rfl) :
    X1 prog w Γ A (fun h => h = h₀ ∧ Hx Γ M W σ ω h) M (.For target iter body [] pos) R := by
  refine X1.forG hh it J h0 (fun M' W' m1 w1 m2 i d σ₁ ω₁ hd hJ => ?_) (fun hp M' W' σ' ω' G hJ H' => ?_) hs
  · obtain ⟨σ₂, T, B⟩ := hb M' W' m1 w1 i d σ₁ ω₁ hd hJ
    refine ⟨σ₂, T, fun h₂ kp s Q E ⟨e, H⟩ q => ?_⟩
    have H₂ : Hx Γ M' W' σ₂ ω₁ h₂ := e ▸ H
    have ks := H₂.on_stays
    have far : ∀ M'' W'' σ₃ ω₃ h, Hx (Γ.on (mask h₂ M')) M'' W'' σ₃ ω₃ h → ∀ b, M'' b → M' b ∨ h₂.get? b = none := fun M'' W'' σ₃ ω₃ h H b m => (mask_none.mp (H.new b m)).symm
    refine B (mask h₂ M') ks s Q E (e ▸ H₂.on) fun f h tk k r => q f h tk k ?_
    have turn : (∃ M'' W'' σ₃ ω₃, (∀ b, M' b → M'' b) ∧ (∀ b, W' b → W'' b) ∧ (∀ b, W'' b → W' b ∨ M'' b) ∧ J (i + 1) M'' σ₃ ω₃ ∧ Hx (Γ.on (mask h₂ M')) M'' W'' σ₃ ω₃ h) → ∃ M'' W'' σ₃ ω₃, Grw h₂ M' W' M'' W'' ∧ J (i + 1) M'' σ₃ ω₃ ∧ Hx Γ M'' W'' σ₃ ω₃ h := by
      rintro ⟨M'', W'', σ₃, ω₃, a1, a2, a3, a4, a5⟩
      refine ⟨M'', W'', σ₃, ω₃, ⟨a1, far _ _ _ _ _ a5, a2, fun b x => (a3 b x).elim .inl fun m => (far _ _ _ _ _ a5 b m).imp (H₂.MW b) id⟩, a4, a5.off ks⟩
    cases f with
    | next => exact turn r
    | cont => exact turn r
    | brk =>
      obtain ⟨M'', W'', σ₃, ω₃, a1, a2, a3, a5, a6⟩ := r
      refine hend h M'' W'' σ₃ ω₃ (fun b x => a1 b (m1 b x)) (fun b x => ?_) (fun b x => a2 b (w1 b x)) a5 (a6.off ks)
      rcases far _ _ _ _ _ a6 b x with m | e₂
      · exact m2 b m
      · by_cases mb : M b
        · exact .inl mb
        · cases e₀ : h₀.get? b with
          | none => exact .inr rfl
          | some o => have := kp b o e₀ mb; rw [e₂] at this; cases this
    | ret v => exact r.elim
  · exact hend hp M' W' σ' ω' G.m1 G.m2 G.w1 hJ H'
end
end Mine

-- L17
namespace Mine
open PySem PySem.Spec PySem.Calls PyProof.Rows PySem.W

theorem AttrsAre.find {W : Forb} {h : Heap} {kvs : List (Str × D)} {es : List DictEntry} {nm : Str} {d : D} (H : AttrsAre W h kvs es) (hl : kvs.lookup nm = some d) : ∃ v, getL nm es = some (some v) ∧ Rd W h d v := by
  induction H with
  | nil => cases hl
  | @cons x d' hs t u ds es r _ ih =>
    by_cases q : nm = x
    · subst q
      rw [List.lookup_cons_self] at hl
      cases hl
      refine ⟨u, ?_, r⟩
      unfold getL
      have : (Value.str nm t).isStr nm = true := by show (nm == nm) = true; simp
      rw [List.find?_cons]
      dsimp only
      rw [this]
    · have e : (nm == x) = false := beq_eq_false_iff_ne.mpr q
      rw [List.lookup_cons, e] at hl
      obtain ⟨v, g, r'⟩ := ih hl
      refine ⟨v, ?_, r'⟩
      have hk : (Value.str x t).isStr nm = false := by show (x == nm) = false; exact beq_eq_false_iff_ne.mpr fun e => q e.symm
      unfold getL at g ⊢
      rw [List.find?_cons]
      dsimp only
      rw [hk, List.any_cons]
      exact g

section
variable {prog : Program} {w : World} {A : Around} {Γ : Cx} {M W : Forb} {σ σ' σ₁ σ₂ σ₃ : List (Option D)} {ω ω' : Owns} {R : Flow → Heap → Prop}

theorem Ev.attrOwn {me nm : Str} {xp pos : Pos} {x dx : Addr} {kvs : List (Str × D)} {d : D} (G : Gl w Γ.hb) (hx : Γ.hb.get? x = some (instObj 83 dx)) (b : Ev prog w Γ A M W σ ω (.Name me xp) (.val (.ref x))) (S : (dx, .attrs kvs) ∈ ω) (hl : kvs.lookup nm = some d) (hd : ∀ u, d ≠ .val u)
    (hf : findIn (Kf w.params) (.ref 83) nm = some Option.none) : Ev prog w Γ A M W σ ω (.Attribute (.Name me xp) nm pos) d := by
  intro s Q E H h
  refine Attribute_Name_ (b s _ E H fun v h₁ tk₁ k₁ r₁ => ?_)
  cases r₁
  have H₁ := H.stays k₁
  obtain ⟨es, n, ed, at_⟩ := H₁.own _ S
  obtain ⟨v, g, r⟩ := at_.find hl
  exact ws_get (s := { s with heap := h₁, toks := tk₁ }) (G.stays H₁.base).K (H₁.base _ _ hx) ed hf g (rd_handed hd r) (h _ _ _ k₁ r)

theorem Ev.cls {me nm : Str} {xp pos : Pos} {mc v : Value} (G : Gl w Γ.hb) (b : Ev prog w Γ A M W σ ω (.Name me xp) (.val (.ref 83))) (hr : readsIn (Kf w.params) 83 mc = true) (e : findCls (Kf w.params) (.ref 83) mc nm = some (.val v)) (hh : handedIn v = true) : Ev prog w Γ A M W σ ω (.Attribute (.Name me xp) nm pos) (.val v) := by
  intro s Q E H h
  refine Attribute_Name_ (b s _ E H fun v h₁ tk₁ k₁ r₁ => ?_)
  cases r₁
  exact cls_value (s := { s with heap := h₁, toks := tk₁ }) (G.stays (H.stays k₁).base).K hr e hh (h _ _ _ k₁ (.val _))
theorem Ev.toStr {e : Expr} {x : Str} {t : Tok} (a : Ev prog w Γ A M W σ ω e (.val (.str x t))) : Ev prog w Γ A M W σ ω e (.str x) := by
  intro s Q E H h
  refine a s Q E H fun v h₁ tk₁ k₁ r₁ => ?_
  cases r₁
  exact h _ _ _ k₁ (.str _ _)

theorem Xs.assign3 {x y z : Str} {px py pz pos : Pos} {lx ly lz : Option Addr} {e : Expr} {d : D} {rest : List Stmt} (O : Γ.Ok) (a : Ev prog w Γ A M W σ ω e d) (V : VarSet Γ.slots σ x lx d σ₁) (V' : VarSet Γ.slots σ₁ y ly d σ₂) (V'' : VarSet Γ.slots σ₂ z lz d σ₃) (k : Xs prog w Γ A (Hx Γ M W σ₃ ω) M rest R)
    (hM : ∀ a, lx = some a → M a := by intro _ e; cases e) (hM' : ∀ a, ly = some a → M a := by intro _ e; cases e) (hM'' : ∀ a, lz = some a → M a := by intro _ e; cases e)
    (hw : swappedStores [.Name x px, .Name y py, .Name z pz] e Γ.env = pure none := by rfl) : Xs prog w Γ A (Hx Γ M W σ ω) M (.Assign [.Name x px, .Name y py, .Name z pz] e pos :: rest) R := by
  refine Xs.cons (P₁ := Hx Γ M W σ₃ ω) (fun s Q E H q => ?_) k
  have S : ∀ {h h'}, Hx Γ M W σ ω h ∨ True → Kp M h h' → Sub W h W h' := fun _ k b o e wb => ⟨wb, k b o e fun m => wb (H.MW _ m)⟩
  refine wpAny_Assign_three (a s _ E H fun v h₁ tk₁ k₁ r₁ => ?_) rfl hw
  refine wpAny_assign_Name (store_name (s := { s with heap := h₁, toks := tk₁ }) O (H.stays k₁) hM V r₁ fun h₂ tk₂ k₂ H₂ => ?_)
  refine wpAny_assign_Name (store_name (s := { s with heap := h₂, toks := tk₂ }) O H₂ hM' V' (r₁.sub (S (.inr trivial) k₂)) fun h₃ tk₃ k₃ H₃ => ?_)
  refine wpAny_assign_Name (store_name (s := { s with heap := h₃, toks := tk₃ }) O H₃ hM'' V'' ((r₁.sub (S (.inr trivial) k₂)).sub (S (.inr trivial) k₃)) fun h₄ tk₄ k₄ H₄ => ?_)
  exact q _ h₄ tk₄ ((((Kp.of_stays k₁).trans k₂).trans k₃).trans k₄) H₄

/-- x, y = (a, b): the last first -/
theorem Xs.assignSwap {x y : Str} {elts : List Expr} {n : Nat} {tp pos : Pos} {lx ly : Option Addr} {e : Expr} {d₁ d₂ : D} {rest : List Stmt} (O : Γ.Ok) (hh : A.handled = none) (a : Ev prog w Γ A M W σ ω e (.tup [d₁, d₂])) (V : VarSet Γ.slots σ y ly d₂ σ₁) (V' : VarSet Γ.slots σ₁ x lx d₁ σ₂) (k : Xs prog w Γ A (Hx Γ M W σ₂ ω) M rest R)
    (hM : ∀ a, ly = some a → M a := by intro _ e; cases e) (hM' : ∀ a, lx = some a → M a := by intro _ e; cases e)
    (hs : swapsWithSole [.Tuple elts n tp] e pos.line Γ.env = pure false := by rfl) (hw : swappedStores [.Tuple elts n tp] e Γ.env = pure (some [x, y]) := by rfl) : Xs prog w Γ A (Hx Γ M W σ ω) M (.Assign [.Tuple elts n tp] e pos :: rest) R := by
  refine Xs.cons (P₁ := Hx Γ M W σ₂ ω) (fun s Q E H q => ?_) k
  refine Assign_Tuple_swapped (names := [x, y]) (a s _ E H fun v h₁ tk₁ k₁ r₁ => ?_) hs hw
  cases r₁ with
  | @tup t vs n ds e₀ hw p =>
    obtain ⟨u₁, u₂, rfl, r₁, r₂⟩ := p.two_inv
    ·
      have ht : h₁.IsTuple t [u₁, u₂].toArray := ⟨_, e₀, rfl, n, rfl⟩
      have un := fun Q => wpAny_unpackItems_tuple (prog := prog) (w := w) (E := E) (Q := Q) (s := { s with heap := h₁, toks := tk₁ }) hh ht
      rw [show [u₁, u₂].toArray.size = [x, y].length from rfl, show [u₁, u₂].toArray.toList = [u₁, u₂] from rfl] at un
      refine un _ fun h₂ x₂ => ?_
      have k₂ : Stays h₁ h₂ := fun b o e => x₂ b o (Nat.ne_of_lt (Heap.lt_size e)) e
      have H₂ := (H.stays k₁).stays k₂
      show wpAny _ A (assignInOrder [fun v => bindName Γ.env y v, fun v => bindName Γ.env x v] [u₂, u₁]) _ _ _
      unfold assignInOrder
      refine wpAny_bind (wpAny_holding (bindName_ (store_name (s := { s with heap := h₂, toks := tk₁ }) O H₂ hM V (r₂.stays k₂) fun h₃ tk₃ k₃ H₃ => ?_)))
      have S : Sub W h₂ W h₃ := fun b o e wb => ⟨wb, k₃ b o e fun m => wb (H.MW _ m)⟩
      unfold assignInOrder
      refine wpAny_bind (wpAny_holding (bindName_ (store_name (s := { s with heap := h₃, toks := tk₃ }) O H₃ hM' V' ((r₁.stays k₂).sub S) fun h₄ tk₄ k₄ H₄ => wpAny_pure ?_)))
      exact q _ h₄ tk₄ (((Kp.of_stays (k₁.trans k₂)).trans k₃).trans k₄) H₄
end
end Mine

-- L18
namespace Mine
open PySem PySem.Spec PySem.Calls PyProof.Rows PySem.W

section
variable {prog : Program} {w : World}

/-- the run of a def without cells, with own objects handed in -/
theorem frame_run {f : Addr} {name qual : Str} {params : Arguments} {body : List Stmt} {scope : Scope} {dV kV doc pm cdv ct oc : Value} {an od : Option Addr} {osl : Array (Option Value)} {n k : Nat} {args : List D} {ns : List Str} {rest : List Str}
    {A : Around} {M₀ W : Forb} {hb : Heap} {ω : Owns} {s : Shared} {vs : List Value} {Q : Result → Shared → Prop} {Rb : Addr → Flow → Heap → Prop}
    (R : Rm A (n + 1)) (kb : Stays hb s.heap) (G : Gl w hb) (hW : ∀ a, W a → ∃ o, s.heap.get? a = some o) (hMW : ∀ a, M₀ a → W a) (hM : ∀ a, M₀ a → hb.get? a = none) (hown : ∀ p ∈ ω, OwnAt W s.heap p.1 p.2) (hownM : ∀ p ∈ ω, M₀ p.1) (hownN : ω.Pairwise fun p q => p.1 ≠ q.1)
    (r : RdL W s.heap args vs)
    (h : ∀ (A' : Around) (L : Addr), Rm A' n → s.heap.get? L = none → hb.get? L = none →
      (⟨envOf qual scope L f cdv, (ns ++ rest).map fun x => (x, none), hb⟩ : Cx).Ok →
      Xs prog w ⟨envOf qual scope L f cdv, (ns ++ rest).map fun x => (x, none), hb⟩ A'
        (Hx ⟨envOf qual scope L f cdv, (ns ++ rest).map fun x => (x, none), hb⟩ (fun a => a = L ∨ M₀ a) (fun a => a = L ∨ W a) (args.map some ++ List.replicate k none) ω) (fun a => a = L ∨ M₀ a) body (Rb L))
    (q : ∀ L f h' tk', Kp M₀ s.heap h' → s.heap.get? L = none → Rb L f h' → Q (.ok (.ret (match f with | .ret v => v | _ => .none))) { s with heap := h', toks := tk' })
    (ho : (Kf w.params).lookup f = some ⟨oc, od, .func (fnOf name qual params body scope dV kV doc pm an cdv ct), osl⟩) (hcd : codeIn (Kf w.params) cdv qual = true)
    (hlen : ns.length = args.length)
    (hbind : ∀ vs : List Value, vs.length = ns.length → bindArgs (fnOf name qual params body scope dV kV doc pm an cdv ct) ⟨vs, []⟩ = pure (ns.zip vs))
    (hkind : ∀ x ∈ ns ++ rest, scope.names.lookup x = some .local) (hnd : (ns ++ rest).Nodup) (hdb : ∀ x ∈ ns ++ rest, (x == ("__debug__" : Str)) = false)
    (hcell : ∀ x ∈ scope.names, x.2 ≠ .cell) (hco : scope.isCoroutine = false) (hgen : scope.isGenerator = false) (hk : scope.kind = .function) :
    codeAny (model prog w) A (.call (.ref f) ⟨vs, []⟩) Q s := by
  have hd : A.depth < recursionLimit := by have := R.dep; omega
  have hvl := r.length
  have G₁ := G.stays kb
  refine codeAny_call_def (binds := ns.zip vs) hd (G₁.K _ _ ho) rfl G₁.lim (codeRec_of G₁.K hcd) rfl (BindsTo.of_eq (hbind vs (by rw [hvl, hlen]))) hcell (fun x hx => hkind _ (List.mem_append_left _ (List.of_mem_zip (a := x.1) (b := x.2) hx).1)) (fun h₀ hns hk₀ => ?_) hco hgen hk
  have hL : s.heap.get? s.heap.objs.size = none := get?_size _
  have hLb : hb.get? s.heap.objs.size = none := fresh_back kb hL
  have ok : (⟨envOf qual scope s.heap.objs.size f cdv, (ns ++ rest).map fun x => (x, none), hb⟩ : Cx).Ok := by
    refine ⟨hk, rfl, rfl, fun x hx => ?_, fun x a hx => ?_, ?_, fun p hp => ?_, ?_, fun x a hx => ?_⟩
    · obtain ⟨y, hy, e⟩ := List.mem_map.mp hx
      cases e
      exact hkind x hy
    · obtain ⟨y, hy, e⟩ := List.mem_map.mp hx
      cases e
    · rw [List.map_map]
      have : ((fun p : Str × Option Addr => p.1) ∘ fun x : Str => (x, (none : Option Addr))) = id := rfl
      rw [this, List.map_id]; exact hnd
    · obtain ⟨y, hy, e⟩ := List.mem_map.mp hp
      cases e
      exact hdb y hy
    · rw [List.pairwise_map]
      exact List.Pairwise.imp (fun _ a e => nomatch e) hnd
    · obtain ⟨y, hy, e⟩ := List.mem_map.mp hx
      cases e
  have nsnd : ns.Nodup := (List.nodup_append.mp hnd).1
  have sub : Sub W s.heap (fun a => a = s.heap.objs.size ∨ W a) h₀ := fun b o e wb => ⟨fun x => x.elim (fun x => by rw [x, hL] at e; cases e) wb, hk₀ b o e⟩
  have H : Hx ⟨envOf qual scope s.heap.objs.size f cdv, (ns ++ rest).map fun x => (x, none), hb⟩ (fun a => a = s.heap.objs.size ∨ M₀ a) (fun a => a = s.heap.objs.size ∨ W a) (args.map some ++ List.replicate k none) ω h₀ := by
    refine ⟨kb.trans hk₀, fun a e => e.elim (fun e => e ▸ hLb) (hM a), ⟨_, hns, ?_⟩, fun x a hx => ?_, fun p hp => (hown p hp).move sub fun o => hk₀ _ o, fun p hp => .inr (hownM p hp), fun p hp e => ?_, fun p hp x hx => ?_, hownN, .inl rfl, fun x a hx => ?_, fun a e => e.imp id (hMW a), fun a e => ?_⟩
    · show Vars _ _ _ ((ns ++ rest).map fun x => (x, none)) _
      rw [List.map_append]
      exact vars_args ns args vs _ k (r.sub sub) hlen fun i x v e e' => lookup_zip_rev ns vs nsnd i x v e e'
    · obtain ⟨y, hy, e⟩ := List.mem_map.mp hx; cases e
    · obtain ⟨o, e'⟩ := hW _ (hMW _ (hownM p hp))
      have e : p.1 = s.heap.objs.size := e
      rw [e, hL] at e'; cases e'
    · obtain ⟨y, hy, e⟩ := List.mem_map.mp hx; cases e
    · obtain ⟨y, hy, e⟩ := List.mem_map.mp hx; cases e
    · rcases e with rfl | e
      · obtain ⟨o, _, _, e, _⟩ := hns; exact ⟨o, e⟩
      · obtain ⟨o, e⟩ := hW a e; exact ⟨o, hk₀ _ _ e⟩
  refine h _ s.heap.objs.size R.deeper hL hLb ok _ _ _ H fun fl h' tk' kp rr => ?_
  refine q s.heap.objs.size fl h' tk' (fun b o e hm => kp b o (hk₀ b o e) fun x => x.elim (fun x => by rw [x, hL] at e; cases e) hm) hL rr

theorem Xs.forM {A : Around} {Γ : Cx} {M W : Forb} {σ : List (Option D)} {ω : Owns} {R : Flow → Heap → Prop} {target iter : Expr} {body rest : List Stmt} {pos : Pos} {ds : List D} (hh : A.handled = none) (it : It prog w Γ A M W σ ω iter ds)
    (J : Nat → Forb → List (Option D) → Owns → Prop) (h0 : J 0 M σ ω)
    (hb : ∀ M' W', (∀ b, M b → M' b) → (∀ b, W b → W' b) → ∀ i d σ₁ ω₁, ds[i]? = some d → J i M' σ₁ ω₁ → ∃ σ₂, Tg prog w Γ A M' W' σ₁ ω₁ target d σ₂ ∧
      ∀ hx, Stays Γ.hb hx → Xs prog w Γ A (Hx (Γ.on hx) M' W' σ₂ ω₁) M' body (fun f h => match f with
        | .next | .cont => ∃ M'' W'' σ₃ ω₃, (∀ b, M' b → M'' b) ∧ (∀ b, W' b → W'' b) ∧ (∀ b, W'' b → W' b ∨ M'' b) ∧ J (i + 1) M'' σ₃ ω₃ ∧ Hx (Γ.on hx) M'' W'' σ₃ ω₃ h
        | .brk => ∃ M'' W'' σ₃ ω₃, (∀ b, M' b → M'' b) ∧ (∀ b, W' b → W'' b) ∧ (∀ b, W'' b → W' b ∨ M'' b) ∧ J ds.length M'' σ₃ ω₃ ∧ Hx (Γ.on hx) M'' W'' σ₃ ω₃ h
        | .ret v => False))
    (k : ∀ M' W' σ' ω', (∀ b, M b → M' b) → (∀ b, W b → W' b) → J ds.length M' σ' ω' → Xs prog w Γ A (Hx Γ M' W' σ' ω') M' rest R)
    (hs : ∀ x, foldedSetIterable iter Γ.env x = pure x := by intro _; rfl) :
    Xs prog w Γ A (Hx Γ M W σ ω) M (.For target iter body [] pos :: rest) R := by
  intro s Q E H q
  refine wpAny_execs_cons (X1.forM (h₀ := s.heap) (R := fun f h => f = .next ∧ ∃ M' W' σ' ω', (∀ b, M b → M' b) ∧ (∀ b, M' b → M b ∨ s.heap.get? b = none) ∧ (∀ b, W b → W' b) ∧ J ds.length M' σ' ω' ∧ Hx Γ M' W' σ' ω' h) hh it J h0 hb
    (fun hp M' W' σ' ω' a1 a2 a3 a5 a6 => ⟨rfl, M', W', σ', ω', a1, a2, a3, a5, a6⟩) hs s _ E ⟨rfl, H⟩ fun f h₁ tk₁ k₁ r₁ => ?_)
  obtain ⟨rfl, M', W', σ', ω', a1, a2, a3, a5, a6⟩ := r₁
  refine k M' W' σ' ω' a1 a3 a5 _ Q E a6 fun f h₂ tk₂ k₂ r₂ => q f h₂ tk₂ (fun b o e hm => ?_) r₂
  exact k₂ b o (k₁ b o e hm) fun m => (a2 b m).elim hm fun n => by rw [e] at n; cases n

theorem Xs.ifGrow {A : Around} {Γ : Cx} {M W : Forb} {ωt : Owns} {R : Flow → Heap → Prop} {t : Expr} {x : Str} {l : Option Addr} {p pos ipos : Pos} {e : Expr} {ds₀ ds : List D} {rest : List Stmt} {b : Bool} {c : Addr} {σ' : Addr → List (Option D)} (O : Γ.Ok) (ts : Ts prog w Γ A M W (σ' c) ((c, .list ds₀) :: ωt) t b) (a : b = true → EvF prog w Γ A M W (σ' c) ((c, .list ds₀) :: ωt) e ds) (hf : b = false → ds₀ = ds) (V : ∀ b, VarSet Γ.slots (σ' c) x l (.val (.ref b)) (σ' b))
    (k : ∀ (M₂ W₂ : Forb) (c₂ : Addr) (ωr : Owns), (∀ b, M b → M₂ b) → (∀ b, W b → W₂ b) → (∀ b, W₂ b → W b ∨ M₂ b) → List.Sublist ωt ωr → Xs prog w Γ A (Hx Γ M₂ W₂ (σ' c₂) ((c₂, .list ds) :: ωr)) M₂ rest R) (hM : ∀ a, l = some a → M a := by intro _ e; cases e)
    (hs : swapsWith e (some (.Name x p)) pos.line Γ.env = pure false := by rfl) : Xs prog w Γ A (Hx Γ M W (σ' c) ((c, .list ds₀) :: ωt)) M (.If t [.Assign [.Name x p] e pos] [] ipos :: rest) R :=
  Xs.ifOwn O ts a V (fun _ c₂ => k _ _ c₂ _ (fun _ x => .inr x) (fun _ x => .inr x) (fun _ x => x.elim (fun x => .inr (.inl x)) .inl) (.cons _ (List.Sublist.refl _)))
    (fun hb => by have := k M W c ωt (fun _ x => x) (fun _ x => x) (fun _ x => .inl x) (List.Sublist.refl _); rw [← hf hb] at this; exact this) hM hs
end
end Mine

-- F2
namespace Mine
open PySem PySem.Spec PySem.Calls PyProof.Rows PySem.W

theorem k_S (p : Params) : findCls (Kf p) (.ref 83) (.type "type") "S" = some (.val (.str " " 209)) := by rfl
theorem k_T (p : Params) : findCls (Kf p) (.ref 83) (.type "type") "T" = some (.val (.str "\t" 210)) := by rfl
theorem k_reads (p : Params) : readsIn (Kf p) 83 (.type "type") = true := by rfl

structure Sc where
  cnt : List Int
  b : Int
  n : Int
  nt : Int
noncomputable def grown (cnt : List Int) (b : Int) : List Int := if b ≥ (cnt.length : Int) then cnt ++ List.replicate (b - cnt.length + 1).toNat 0 else cnt
noncomputable def bump (cnt : List Int) (b : Int) : List Int := (grown cnt b).set b.toNat ((grown cnt b).getD b.toNat 0 + 1)
/-- the signs of a text, read from the left -/
noncomputable def scan : List Nat → Sc → Sc
  | [], s => s
  | c :: r, s => if c = 32 then scan r ⟨s.cnt, s.b + 1, s.n + 1, s.nt⟩ else if c = 9 then scan r ⟨bump s.cnt s.b, 0, s.n + 1, s.nt + 1⟩ else s
noncomputable def scanned (x : Str) : Sc := scan x.cps.toList ⟨[], 0, 0, 0⟩
noncomputable def wsOf (x : Str) : WS := ⟨x, (scanned x).n, (scanned x).nt, (scanned x).cnt, (scanned x).b, decide (((scanned x).cnt.length : Int) ≤ 1)⟩

section
variable {prog : Program} {w : World} {A : Around} {Γ : Cx} {M W : Forb} {σ σ' σ₁ σ₂ σ₃ : List (Option D)} {ω ω' : Owns} {R : Flow → Heap → Prop} {h : Heap}

theorem Hx.drop (H : Hx Γ M W σ ω h) (S : List.Sublist ω' ω) : Hx Γ M W σ ω' h :=
  ⟨H.base, H.new, H.vars, H.cells, fun p hp => H.own p (S.subset hp), fun p hp => H.ownM p (S.subset hp), fun p hp => H.ownL p (S.subset hp), fun p hp => H.ownC p (S.subset hp), H.ownN.sublist S, H.locM, H.celW, H.MW, H.live⟩

theorem Ev.tupOf {x : Str} {p : Pos} {e : Expr} {d : D} {ds : List D} {pos : Pos} (hf : Ev prog w Γ A M W σ ω (.Name x p) (.val (.type "tuple"))) (a : Ev prog w Γ A M W σ ω e d) (k : DL ω d ds) (hz : ds.length ≤ 1000000)
    (he : starEach [e] Γ.env = (false, eval e Γ.env) :: starEach [] Γ.env := by rfl) : Ev prog w Γ A M W σ ω (.Call (.Name x p) [e] [] pos) (.tup ds) := by
  refine Ev.callT1 hf a (fun s v Q E H r h => ?_) he
  obtain ⟨l, vs, n, rfl, q, p⟩ := k.at H r
  refine call_tuple_list (listAt q) (fun h' k => ?_) (by rw [List.size_toArray, p.length, sizeLine_eq]; omega)
  have hf : ¬ W h'.objs.size := fun x => by
    obtain ⟨o, e⟩ := H.live _ x
    have := k _ _ e; rw [get?_size] at this; cases this
  exact h _ _ s.toks (Stays.trans k (Stays.push _ _)) (.tup (n := 0) (Heap.get?_push_size _ rfl) hf (p.stays (Stays.trans k (Stays.push _ _))))

theorem ints_grown (cnt : List Int) (b : Int) : ((grown cnt b).map D.int).length = (grown cnt b).length := by simp
theorem grown_len {cnt : List Int} {b : Int} (hb : 0 ≤ b) : b < (grown cnt b).length ∧ ∀ k : Nat, cnt.length ≤ k → b < k → (grown cnt b).length ≤ k := by
  unfold grown
  split
  · rw [List.length_append, List.length_replicate]
    exact ⟨by omega, fun k h1 h2 => by omega⟩
  · exact ⟨by omega, fun k h1 h2 => h1⟩
theorem bump_len (cnt : List Int) (b : Int) : (bump cnt b).length = (grown cnt b).length := by simp [bump]
theorem sign_eq (c k : Nat) (x : Str) (hx : x = ⟨#[k]⟩) : ((⟨#[c]⟩ : Str) == x) = decide (c = k) := by
  subst hx
  by_cases h : c = k
  · subst h; simp
  · rw [decide_eq_false h]
    refine beq_eq_false_iff_ne.mpr fun e => h ?_
    injection e with e
    simpa using e

noncomputable def ist (x : Addr) (t : Str) (c : Addr) (s : Sc) (e : Option D) : List (Option D) := [some (.val (.ref x)), some (.str t), some (.str " "), some (.str "\t"), some (.val (.ref c)), some (.int s.b), some (.int s.n), some (.int s.nt), e]
noncomputable def InitJ (x dx : Addr) (t : Str) (j : Nat) (σ : List (Option D)) (ω : Owns) : Prop := ∃ c s e, scanned t = scan (t.cps.toList.drop j) s ∧ 0 ≤ s.b ∧ s.b ≤ j ∧ s.cnt.length ≤ j ∧ σ = ist x t c s e ∧ ω = [(c, .list (s.cnt.map .int)), (dx, .attrs [("raw", .str t)])]

theorem signs_get {t : Str} {i : Nat} {d : D} (hd : (signs t)[i]? = some d) : ∃ c, d = .str ⟨#[c]⟩ ∧ t.cps.toList.drop i = c :: t.cps.toList.drop (i + 1) ∧ i < t.cps.size := by
  unfold signs at hd
  rw [List.getElem?_map] at hd
  obtain ⟨k, e1, e2⟩ := Option.map_eq_some_iff.mp hd
  have hi := (List.getElem?_eq_some_iff.mp e1).1
  refine ⟨k, e2.symm, ?_, by simpa using hi⟩
  rw [List.drop_eq_getElem_cons hi]
  congr 1
  exact (List.getElem?_eq_some_iff.mp e1).2
theorem signs_len (t : Str) : (signs t).length = t.cps.size := by simp [signs]

theorem init_ok {t : Str} {tv : Value} {h₀ : Heap} {s : Shared} {Q : Result → Shared → Prop} (R : Rm A 2) (G : Gl w h₀) (hW : ∀ a, W a → ∃ o, h₀.get? a = some o) (hlen : t.cps.size ≤ 900)
    (hs : s.heap = (h₀.push emptyDict).push (instObj 83 h₀.objs.size)) (rt : Rd W h₀ (.str t) tv)
    (q : ∀ h' tk', Stays h₀ h' → Rd W h' (.ws (wsOf t)) (.ref (h₀.objs.size + 1)) → Q (.ok (.ret .none)) { s with heap := h', toks := tk' }) :
    codeAny (model prog w) A (.call (.ref 38) ⟨[.ref (h₀.objs.size + 1), tv], []⟩) Q s := by
  have hd : A.depth < recursionLimit := by have := R.dep; omega
  generalize hdx : h₀.objs.size = dx at hs q ⊢
  have k₀ : Stays h₀ s.heap := by rw [hs]; exact (Stays.push _ _).trans (Stays.push _ _)
  have e1 : s.heap.get? dx = some emptyDict := by rw [hs, ← hdx]; exact Heap.get?_push_of_some _ (Heap.get?_push_size _ rfl)
  have e2 : s.heap.get? (dx + 1) = some (instObj 83 dx) := by
    have := Heap.get?_push_size (h₀.push emptyDict) (o := instObj 83 dx) rfl
    rw [Heap.size_push, hdx] at this
    rw [hs]; exact this
  have n1 : h₀.get? dx = none := hdx ▸ get?_size _
  have n2 : h₀.get? (dx + 1) = none := by
    cases e : h₀.get? (dx + 1) with
    | none => rfl
    | some o => exact absurd (hdx ▸ Heap.lt_size e) (Nat.not_lt.mpr (Nat.le_succ _))
  have hx : ∀ h', Stays (mask s.heap fun a => a = dx) h' → h'.get? (dx + 1) = some (instObj 83 dx) := fun h' k => k _ _ (mask_get.mpr ⟨e2, Nat.succ_ne_self _⟩)
  have Gb : Gl w (mask s.heap fun a => a = dx) := G.stays fun b o e => mask_get.mpr ⟨k₀ b o e, fun x => by rw [x, n1] at e; cases e⟩
  refine frame_run (n := 1) (k := 7) (M₀ := fun a => a = dx) (W := fun a => a = dx ∨ W a) (hb := mask s.heap fun a => a = dx) (ω := [(dx, .attrs [])]) (args := [.val (.ref (dx + 1)), .str t]) (ns := ["self", "ws"]) (rest := ["S", "T", "count", "b", "n", "nt", "ch"])
    (Rb := fun L f h => f = .next ∧ Stays (mask s.heap fun a => a = dx) h ∧ ∃ W' : Forb, (∀ b, W b → W' b) ∧ OwnAt W' h dx (.attrs [("raw", .str t), ("n", .int (wsOf t).n), ("nt", .int (wsOf t).nt), ("norm", .tup [.tup ((wsOf t).cnt.map .int), .int (wsOf t).b]), ("is_simple", .bool (wsOf t).simple)]))
    R (mask_stays _ _) Gb (fun a h => h.elim (fun e => ⟨_, e ▸ e1⟩) fun h => let ⟨o, e⟩ := hW a h; ⟨o, k₀ _ _ e⟩) (fun a h => .inl h) (fun a h => mask_none.mpr (.inr h)) (fun p hp => by rw [List.mem_singleton.mp hp]; exact ⟨[], 0, e1, .nil⟩) (fun p hp => by rw [List.mem_singleton.mp hp]) (List.pairwise_singleton _ _)
    (.cons (.val _) (.cons (rt.sub fun b o e wb => ⟨fun x => x.elim (fun x => by rw [x, n1] at e; cases e) wb, k₀ b o e⟩) .nil)) (fun A L R nL nLb O => ?_) (fun L f h' tk' kp nL rr => ?_) rfl rfl rfl (fun vs hv => ?_) (by decide) (by decide) (by decide) (by decide) rfl rfl rfl
  rotate_left
  · obtain ⟨rfl, st, W', hWW, es, n, ed, at_⟩ := rr
    have st₀ : Stays h₀ h' := fun b o e => st b o (mask_get.mpr ⟨k₀ b o e, fun x => by rw [x, n1] at e; cases e⟩)
    have w1 : ¬ W dx := fun x => by obtain ⟨o, e⟩ := hW _ x; rw [n1] at e; cases e
    have w2 : ¬ W (dx + 1) := fun x => by obtain ⟨o, e⟩ := hW _ x; rw [n2] at e; cases e
    cases at_ with | cons r1 a1 => cases a1 with | cons r2 a2 => cases a2 with | cons r3 a3 => cases a3 with | cons r4 a4 => cases a4 with | cons r5 a5 => cases a5 with | nil =>
      cases r1; cases r2; cases r3; cases r5
      exact q h' tk' st₀ (.ws (hx h' st) w2 ed w1 rfl (r4.sub fun b o e wb => ⟨fun x => wb (hWW b x), e⟩))
  · match vs, hv with
    | [_, _], _ => rfl
  have hxb : (mask s.heap fun a => a = dx).get? (dx + 1) = some (instObj 83 dx) := mask_get.mpr ⟨e2, Nat.succ_ne_self _⟩
  refine Xs.setAttr Gb hxb (Ev.name O .i0) (Ev.name O .i1) .head rfl ?_
  refine Xs.assignSwap (d₁ := .str " ") (d₂ := .str "\t") O R.hand (Ev.tup (Es.cons (Ev.toStr (Ev.cls Gb (Ev.glob Gb O rfl) (k_reads _) (k_S _) rfl)) (Es.cons (Ev.toStr (Ev.cls Gb (Ev.glob Gb O rfl) (k_reads _) (k_T _) rfl)) Es.nil))) .i3 .i2 ?_
  refine Xs.own O (EvF.list Es.nil) (fun b => .i4) fun c => ?_
  refine Xs.assign3 O Ev.int .i5 .i6 .i7 ?_
  refine Xs.forM R.hand (It.str (Ev.attrOwn Gb hxb (Ev.name O .i0) (.tail _ (.head _)) rfl (by intro u e; cases e) (k_raw _)))
    (fun j _ σ ω => InitJ (dx + 1) dx t j σ ω) ⟨c, ⟨[], 0, 0, 0⟩, none, rfl, by decide, by decide, by decide, rfl, rfl⟩ (fun M' W' m1 w1 i d σ ω hd hJ => ?_) (fun M' W' σ ω m1 w1 hJ => ?_)
  · obtain ⟨ch, rfl, hdrop, hi⟩ := signs_get hd
    obtain ⟨c', sc, e, hsc, hb0, hbi, hcl, rfl, rfl⟩ := hJ
    refine ⟨_, Tg.name O .i8 (fun _ e => nomatch e), fun hx ks => ?_⟩
    have O' := O.on hx
    have G' := Gb.stays ks
    rw [hdrop] at hsc
    unfold scan at hsc
    refine Xs.one (X1.ite (b := decide (ch = 32)) (Ts.cmp (Ev.name O' .i8) (Ev.name O' .i2) (sign_eq ch 32 " " rfl ▸ Cmp.eqS)) (fun hc => ?_) (fun hc => ?_))
    · have hc := of_decide_eq_true hc
      rw [if_pos hc] at hsc
      refine Xs.assign O' (Ev.bin (Ev.name O' .i6) Ev.int Bin.add) .i6 ?_
      refine Xs.assign O' (Ev.bin (Ev.name O' .i5) Ev.int Bin.add) .i5 ?_
      exact Xs.nil fun hp H => ⟨M', W', _, _, fun _ x => x, fun _ x => x, fun _ x => .inl x, ⟨c', _, _, hsc, by dsimp only; omega, by dsimp only; omega, by dsimp only; omega, rfl, rfl⟩, H⟩
    · have hc := of_decide_eq_false hc
      rw [if_neg hc] at hsc
      refine Xs.one (X1.ite (b := decide (ch = 9)) (Ts.cmp (Ev.name O' .i8) (Ev.name O' .i3) (sign_eq ch 9 "\t" rfl ▸ Cmp.eqS)) (fun hc => ?_) (fun hc => ?_))
      · have hc := of_decide_eq_true hc
        rw [if_pos hc] at hsc
        obtain ⟨g1, g2⟩ := grown_len (cnt := sc.cnt) hb0
        have hg2 : (grown sc.cnt sc.b).length ≤ i + 1 := g2 (i + 1) (by omega) (by omega)
        have cl : (((sc.cnt.map D.int).length : Nat) : Int) = sc.cnt.length := by simp
        have gl : (((grown sc.cnt sc.b).map D.int).length : Nat) = (grown sc.cnt sc.b).length := by simp
        refine Xs.assign O' (Ev.bin (Ev.name O' .i6) Ev.int Bin.add) .i6 ?_
        refine Xs.assign O' (Ev.bin (Ev.name O' .i7) Ev.int Bin.add) .i7 ?_
        refine Xs.ifGrow (σ' := fun c₂ => ist (dx + 1) t c₂ ⟨sc.cnt, sc.b, sc.n + 1, sc.nt + 1⟩ (some (.str ⟨#[ch]⟩))) (b := decide ((sc.cnt.length : Int) ≤ sc.b)) (ds := (grown sc.cnt sc.b).map .int) O'
          (Ts.cmp (Ev.name O' .i5) (Ev.len (Ev.built G' O' rfl rfl) (Ev.name O' .i4) (.inr ⟨c', rfl, .head _⟩) (by simp; omega)) (cl ▸ Cmp.ge)) (fun hg => ?_) (fun hg => ?_) (fun b => .i4) (fun M₂ W₂ c₂ ωr hM hW hWM hsub => ?_)
        · have hg := of_decide_eq_true hg
          have e : (grown sc.cnt sc.b).map D.int = sc.cnt.map .int ++ (List.replicate (sc.b - sc.cnt.length + 1).toNat [D.int 0]).flatten := by
            unfold grown
            rw [if_pos hg, List.map_append]
            congr 1
            generalize (sc.b - sc.cnt.length + 1).toNat = m
            induction m with
            | zero => rfl
            | succ m ih => rw [List.replicate_succ, List.map_cons, ih]; rfl
          rw [e]
          refine EvF.addL (Ev.name O' .i4) (.inr ⟨c', rfl, .head _⟩) (Ev.mulL (Ev.list (Es.cons Ev.int Es.nil)) (.inl rfl) (x := sc.b - sc.cnt.length + 1) (Ev.bin (Ev.bin (Ev.name O' .i5) (Ev.len (Ev.built G' O' rfl rfl) (Ev.name O' .i4) (.inr ⟨c', rfl, .head _⟩) (by simp; omega)) (cl ▸ Bin.sub)) Ev.int Bin.add) (by omega) (by omega) (by decide)) (.inl rfl) ?_
          rw [List.length_map, List.length_flatten]
          simp
          omega
        · have := of_decide_eq_false hg
          unfold grown; rw [if_neg (by omega)]
        · have hk : ((grown sc.cnt sc.b).map D.int)[sc.b.toNat]? = some (.int ((grown sc.cnt sc.b).getD sc.b.toNat 0)) := by
            have : sc.b.toNat < (grown sc.cnt sc.b).length := by omega
            simp [List.getD, this]
          refine Xs.setItem (Ev.bin (Ev.item (Ev.name O' .i4) (.inr ⟨c₂, rfl, .head _⟩) (Ev.name O' .i5) hb0 hk (hz := by rw [gl]; omega)) Ev.int Bin.add) (Ev.name O' .i4) (Ev.name O' .i5) hb0 (by rw [gl]; exact g1) (by rw [gl]; omega) .head ?_
          refine Xs.assign O' Ev.int .i5 ?_
          refine Xs.nil fun hp H => ⟨M₂, W₂, _, _, hM, hW, hWM, ⟨c₂, _, some (.str ⟨#[ch]⟩), hsc, Int.le_refl 0, by dsimp only; omega, by dsimp only; rw [bump_len]; exact hg2, rfl, rfl⟩, ?_⟩
          have e : ((grown sc.cnt sc.b).map D.int).set sc.b.toNat (.int ((grown sc.cnt sc.b).getD sc.b.toNat 0 + 1)) = (bump sc.cnt sc.b).map D.int := by
            unfold bump; rw [List.map_set]
          have H' := H.drop (.cons_cons _ hsub)
          rw [e] at H'
          exact H'
      · have hc := of_decide_eq_false hc
        rw [if_neg hc] at hsc
        refine Xs.one fun s Q E H q => wpAny_Break (q .brk s.heap s.toks (Kp.of_stays (Stays.refl _)) ⟨M', W', _, _, fun _ x => x, fun _ x => x, fun _ x => .inl x, ⟨c', sc, some (.str ⟨#[ch]⟩), by rw [hsc, signs_len, List.drop_of_length_le (by simp)]; rfl, hb0, by rw [signs_len]; omega, by rw [signs_len]; omega, rfl, rfl⟩, H⟩)
  · obtain ⟨c', sc, e, hsc, hb0, hbi, hcl, rfl, rfl⟩ := hJ
    rw [signs_len, List.drop_of_length_le (by simp)] at hsc
    rw [signs_len] at hbi hcl
    have hsc : scanned t = sc := hsc
    have cl : (((sc.cnt.map D.int).length : Nat) : Int) = sc.cnt.length := by simp
    have cz : (sc.cnt.map D.int).length ≤ 900 := by simp; omega
    refine Xs.setAttr Gb hxb (Ev.name O .i0) (Ev.name O .i6) (.tail .head) rfl ?_
    refine Xs.setAttr Gb hxb (Ev.name O .i0) (Ev.name O .i7) (.tail .head) rfl ?_
    refine Xs.setAttr Gb hxb (Ev.name O .i0) (Ev.tup (Es.cons (Ev.tupOf (Ev.built Gb O rfl rfl) (Ev.name O .i4) (.inr ⟨c', rfl, .head _⟩) (by omega)) (Es.cons (Ev.name O .i5) Es.nil))) (.tail .head) rfl ?_
    refine Xs.setAttr (d := .bool (decide ((sc.cnt.length : Int) ≤ 1))) Gb hxb (Ev.name O .i0) (Ev.cmp (Ev.len (Ev.built Gb O rfl rfl) (Ev.name O .i4) (.inr ⟨c', rfl, .head _⟩) (by omega)) Ev.int (cl ▸ Cmp.le)) (.tail .head) rfl ?_
    refine Xs.nil fun hp H => ⟨rfl, H.base, W', fun b x => w1 b (.inr (.inr (.inr x))), ?_⟩
    have := H.own (dx, _) (.tail _ (.head _))
    have e : wsOf t = ⟨t, sc.n, sc.nt, sc.cnt, sc.b, decide ((sc.cnt.length : Int) ≤ 1)⟩ := by unfold wsOf; rw [hsc]
    rw [e]
    exact this
end
end Mine

-- F3
namespace Mine
open PySem PySem.Spec PySem.Calls PyProof.Rows PySem.W

theorem slot_wd_get : Slot "wrapper_descriptor" "__get__" "wrapper_descriptor.__get__" :=
  .of (owner := "wrapper_descriptor") (n := "__get__") (by rw [typeLookup_type, builtinLookup_eq_fast]; kernel_rfl) (by decide +kernel) (by decide +kernel) (by decide +kernel)
    (by first | exact .inl (by decide +kernel) | exact .inr (by decide +kernel)) (by rw [isSubtype_type]; kernel_rfl)
theorem entry_wd_get : entryFor table "wrapper_descriptor.__get__" = some Builtin.«wrapper_descriptor.__get__» := entryFor_of_tree (by kernel_rfl)
theorem args_wd_get (a b c : Value) : argsOk "wrapper_descriptor.__get__" ⟨[a, b, c], []⟩ := by unfold argsOk; kernel_rfl
theorem typeOf_gi : typeOf (.builtin "str.__getitem__") = pure (.type "wrapper_descriptor") := by kernel_rfl
theorem lk_wd_get : typeLookup (.type "wrapper_descriptor") "__get__" = pure (some (.builtin "wrapper_descriptor.__get__")) := by rw [typeLookup_type, builtinLookup_eq_fast]; kernel_rfl
theorem lk_wd_set : typeLookup (.type "wrapper_descriptor") "__set__" = pure none := by rw [typeLookup_type, builtinLookup_eq_fast]; kernel_rfl
theorem lk_wd_del : typeLookup (.type "wrapper_descriptor") "__delete__" = pure none := by rw [typeLookup_type, builtinLookup_eq_fast]; kernel_rfl
theorem owner_gi : (".".intercalate ("str.__getitem__".cutAt '.').dropLast) = "str" := by
  have e0 : "str.__getitem__".cutAt '.' = ["str", "__getitem__"] := by first | rfl | decide +kernel
  rw [e0]; decide +kernel
theorem sub_gi : isSubtype (.type "str") (.type (".".intercalate ("str.__getitem__".cutAt '.').dropLast)) = pure true := by
  rw [owner_gi, isSubtype_type]; kernel_rfl

noncomputable abbrev giObj (x : Str) (u : Tok) : Obj := { cls := .type "method-wrapper", data := .fields #[.builtin "str.__getitem__", .str x u] }

section
variable {prog : Program} {w : World} {A : Around} {E : Value → Shared → Prop} {h : Heap} {g : Array GenState} {d : Drawn} {t : Nat} {os : OsState} {x : Str} {u : Tok}

theorem gi_get {R : Result → Shared → Prop} (hq : R (.ok (.ret (.ref h.objs.size))) ⟨h.push (giObj x u), g, d, t, os⟩) :
    codeAny (model prog w) A (.call (.builtin "wrapper_descriptor.__get__") ⟨[.builtin "str.__getitem__", .str x u, .type "str"], []⟩) R ⟨h, g, d, t, os⟩ := by
  have hT : (⟨h, g, d, t, os⟩ : Shared).TypeIs (.str x u) "str" := rfl
  have hT5 : (⟨h, g, d, t, os⟩ : Shared).TypeIs (.builtin "str.__getitem__") "wrapper_descriptor" := typeOf_gi
  have f8 := sub_gi
  refine codeAny_call_builtin slot_wd_get.plain entry_wd_get (slot_wd_get.check _ _ _ _ _ _ _ _ hT5 (args_wd_get _ _ _) ?_)
  repeat (any_goals (first | assumption | wp_step))

theorem gi_entry {tk : Tok} {Q : Fin → Shared → Prop} (hq : Q (.done (.ret (.ref h.objs.size))) ⟨h.push (giObj x u), g, d, t, os⟩) :
    wpAny (model prog w) A (Builtin.«object.__getattribute__» ⟨[.str x u, .str "__getitem__" tk], []⟩) Q E ⟨h, g, d, t, os⟩ := by
  have hT : (⟨h, g, d, t, os⟩ : Shared).TypeIs (.str x u) "str" := rfl
  have f4 := F.slot_str_getitem.lookup
  have f5 := typeOf_gi
  have f6 := lk_wd_get
  have f7 := lk_wd_set
  have f8 := lk_wd_del
  unfold Builtin.«object.__getattribute__»
  repeat (any_goals (first | assumption | wp_step))
  exact gi_get (wpAny_pure hq)

theorem gi_by {tk : Tok} {Q : Value → Shared → Prop} (hq : Q (.ref h.objs.size) ⟨h.push (giObj x u), g, d, t, os⟩) : wpAny (model prog w) A (getAttrBy (.str x u) (.str "__getitem__" tk) false) Q E ⟨h, g, d, t, os⟩ := by
  have hT : (⟨h, g, d, t, os⟩ : Shared).TypeIs (.str x u) "str" := rfl
  have f2 := F.slot_str_getattribute.lookup
  have f3 := F.slot_str_getattribute.bind (.str x u)
  repeat (any_goals (first | assumption | wp_step))
  refine codeAny_call_builtin F.slot_str_getattribute.plain F.entry_object_getattribute (F.slot_str_getattribute.check _ _ _ _ _ _ _ _ hT (F.args_object_getattribute_2 _ _) (gi_entry ?_))
  show wpAny _ _ (handedOut (.ref h.objs.size)) _ _ _
  rw [handedOut_of rfl]
  exact wpAny_pure hq

theorem hasattr_gi {tk : Tok} {Q : Value → Shared → Prop} (hq : Q (.bool true) ⟨h.push (giObj x u), g, d, t, os⟩) : wpAny (model prog w) A (call (.builtin "hasattr") [.str x u, .str "__getitem__" tk]) Q E ⟨h, g, d, t, os⟩ := by
  have hT : (⟨h, g, d, t, os⟩ : Shared).TypeIs (.str x u) "str" := rfl
  have f2 := F.slot_str_getattribute.lookup
  have f4 := F.slot_str_getitem.lookup
  have k1 : builtinKind "hasattr" = none := by decide +kernel
  have k2 : plainId "hasattr" = true := by decide +kernel
  have k3 : entryFor table "hasattr" = some Builtin.«hasattr» := entryFor_of_tree (by kernel_rfl)
  have k4 : ∀ a b : Value, argsOk "hasattr" ⟨[a, b], []⟩ := fun a b => by unfold argsOk; kernel_rfl
  refine call_function_tree k1 k2 k3 (k4 _ _) ?_
  unfold Builtin.«hasattr» getAttrBy?
  repeat (any_goals (first | assumption | with_reducible apply gi_by | wp_step))

end
section
variable {prog : Program} {w : World}

theorem Bf.hasGi {A : Around} {x : Str} : Bf prog w A (.builtin "hasattr") [.str x, .str "__getitem__"] (.bool true) := by
  intro W s vs Q E hW r h
  obtain ⟨_, _, rfl, ra, rb⟩ := r.two_inv
  obtain ⟨t, rfl⟩ := ra.str_inv
  obtain ⟨u, rfl⟩ := rb.str_inv
  obtain ⟨hp, g, d, tk, os⟩ := s
  exact hasattr_gi (h (.bool true) _ tk (Stays.push _ _) (.bool _))

theorem Ts.call {A : Around} {Γ : Cx} {M W : Forb} {σ : List (Option D)} {ω : Owns} {f : Expr} {es : List Expr} {pos : Pos} {b : Bool} (a : Ev prog w Γ A M W σ ω (.Call f es [] pos) (.bool b)) : Ts prog w Γ A M W σ ω (.Call f es [] pos) b := Ts.val a

theorem fn_concat {a b : Str} (hz : a.length + b.length ≤ 1000000) : Fn prog w 122 2 [.str a, .str b] (.str (a ++ b)) := by
  refine Fn.plain (k := 1) (ns := ["a", "b"]) (rest := ["msg"]) rfl rfl rfl (fun vs hv => ?_) (by decide) (by decide) (by decide) (by decide) rfl rfl rfl fun A hb L W R G hL O => ?_
  · match vs, hv with
    | [_, _], _ => rfl
  refine Xs.guard (b := false) (Ts.not (b := true) (Ts.call (Ev.callB (Ev.built G O rfl rfl) (Es.cons (Ev.name O .i0) (Es.cons Ev.str Es.nil)) Bf.hasGi))) (fun e => nomatch e) fun _ => Xs.ret (Ev.bin (Ev.name O .i0) (Ev.name O .i1) (Bin.addS hz)) fun b => .inr

theorem fn_make {t : Str} (hlen : t.cps.size ≤ 900) : Fn prog w 83 3 [.str t] (.ws (wsOf t)) := by
  intro A W s vs Q E R G hW r q
  obtain ⟨tv, rfl, rt⟩ := r.one_inv
  ·
    obtain ⟨h₀, g, d, tk, os⟩ := s
    refine wpAny_call (make_core (makes_of G.K (k_makes _)) (looks_findIn G.K (k_init _)) (fun self => bind_fn G.K self (k_initf _)) (.inl rfl) ?_)
    have R' : Rm (A.under (.builtin "type.__call__" ⟨.ref 83 :: [tv], []⟩)) 2 := by
      have hw : (Code.builtin "type.__call__" ⟨.ref 83 :: [tv], []⟩).weight ≤ 2 := by
        have : (Code.builtin "type.__call__" ⟨.ref 83 :: [tv], []⟩).isGuard = false := rfl
        show 0 + 1 + _ + 0 ≤ 2
        rw [this]; decide
      have hu : (Code.builtin "type.__call__" ⟨.ref 83 :: [tv], []⟩).cUnits = 1 := rfl
      refine ⟨R.hand, ?_, ?_⟩
      · have := R.dep
        show A.depth + _ + 4 * 2 + 4 < _
        omega
      · have := R.uni
        show A.units + _ + 24 * 2 + 128 < _
        rw [hu]; omega
    refine init_ok R' G hW hlen rfl rt fun h' tk' k r => ⟨rfl, ?_⟩
    exact q _ h' tk' k r
end
end Mine

-- F4
namespace Mine
open PySem PySem.Spec PySem.Calls PyProof.Rows PySem.W

noncomputable def top2 (c d : WS) : Int := (if lrun d > lrun c then lrun d else lrun c) + 1
noncomputable def lessv (c d : WS) : Bool := if c.n ≥ d.n then false else if c.simple && d.simple then decide (c.nt ≤ d.nt) else (zspan 2 (top2 c d + 1)).all fun ts => !decide (ilv d ts ≤ ilv c ts)

/-- left by a return -/
noncomputable def Left (W : Forb) (d : D) (f : Flow) (h : Heap) : Prop := ∃ v, f = .ret v ∧ Rd W h d v
theorem Left.ret {W : Forb} {d : D} {f : Flow} {h : Heap} (x : Left W d f h) : RetIs W d f h := by obtain ⟨v, rfl, r⟩ := x; exact r
theorem Left.thn {W : Forb} {d : D} {f : Flow} {h : Heap} {P : Heap → Prop} (x : Left W d f h) : Then P (RetIs W d) f h := by obtain ⟨v, rfl, r⟩ := x; exact r
theorem Left.turn {W W' M : Forb} {Γ : Cx} {J : List (Option D) → Owns → Prop} {d : D} {f : Flow} {h : Heap} (x : Left W d f h) : Turn0 J Γ M W' (RetIs W d) f h := by obtain ⟨v, rfl, r⟩ := x; exact r
theorem Left.thnTurn {W W' M : Forb} {Γ : Cx} {J : List (Option D) → Owns → Prop} {d : D} {f : Flow} {h : Heap} {P : Heap → Prop} (x : Left W d f h) : Then P (Turn0 J Γ M W' (RetIs W d)) f h := by obtain ⟨v, rfl, r⟩ := x; exact r

section
variable {prog : Program} {w : World}
theorem Xs.leave {A : Around} {Γ : Cx} {M W W₀ : Forb} {σ : List (Option D)} {ω : Owns} {e : Expr} {d : D} {pos : Pos} {rest : List Stmt} (a : Ev prog w Γ A M W σ ω e d) (hW : ∀ b, W₀ b → W b) : Xs prog w Γ A (Hx Γ M W σ ω) M (.Return (some e) pos :: rest) (Left W₀ d) := by
  refine Xs.cons (P₁ := fun _ => False) (X1.ret a fun hp v H r => ⟨v, rfl, r.sub fun b o e wb => ⟨fun x => wb (hW b x), e⟩⟩) ?_
  exact fun _ _ _ h => h.elim

theorem zspan_mem {a b : Int} {x : Int} (h : x ∈ zspan a b) : a ≤ x ∧ x < b := by
  unfold zspan at h
  obtain ⟨i, h1, h2⟩ := List.mem_map.mp h
  have := List.mem_range.mp h1
  omega
theorem zspan_all {a b : Int} {p : Int → Bool} : (zspan a b).all p = true ↔ ∀ i : Nat, i < (b - a).toNat → p (a + i) = true := by
  unfold zspan
  rw [List.all_map, List.all_eq_true]
  exact ⟨fun h i hi => h i (List.mem_range.mpr hi), fun h i hi => h i (List.mem_range.mp hi)⟩

theorem fn_less {c d : WS} (h1 : c.cnt.length ≤ 900) (h2 : d.cnt.length ≤ 900) (h3 : c.b ≤ 900) (h4 : d.b ≤ 900) : Fn prog w 73 2 [.ws c, .ws d] (.bool (lessv c d)) := by
  refine Fn.plain (k := 2) (ns := ["self", "other"]) (rest := ["n", "ts"]) rfl rfl rfl (fun vs hv => ?_) (by decide) (by decide) (by decide) (by decide) rfl rfl rfl fun A hb L W R G hL O => ?_
  · match vs, hv with
    | [_, _], _ => rfl
  have sh : ∀ nm : Str, nm = "longest_run_of_spaces" ∨ nm = "indent_level" → ∀ es k, (∃ h1 h2 h3 h4 h5 t1 t2 t3 t4 t5 v1 v2 v3 v4 v5, es = ([⟨h1, .str "raw" t1, v1⟩, ⟨h2, .str "n" t2, v2⟩, ⟨h3, .str "nt" t3, v3⟩, ⟨h4, .str "norm" t4, v4⟩, ⟨h5, .str "is_simple" t5, v5⟩] : List DictEntry)) → shadowIn (some (dictOf es k)) nm = some false := by
    rintro nm (rfl | rfl) es k ⟨_, _, _, _, _, _, _, _, _, _, _, _, _, _, _, rfl⟩ <;> rfl
  refine Xs.guard (b := decide (d.n ≤ c.n)) (Ts.cmp (Ev.attr G (Ev.name O .i0) rfl) (Ev.attr G (Ev.name O .i1) rfl) Cmp.ge) (fun hc => ?_) (fun hc => ?_)
  · have e : lessv c d = false := by unfold lessv; rw [if_pos (of_decide_eq_true hc)]
    rw [e]
    exact (Xs.leave Ev.bool fun b => .inr).mono fun _ _ => Left.thn
  have hc := of_decide_eq_false hc
  refine Xs.guard (b := c.simple && d.simple) (Ts.and2 (Ts.val (Ev.attr G (Ev.name O .i0) rfl)) fun _ => Ts.val (Ev.attr G (Ev.name O .i1) rfl)) (fun hs => ?_) (fun hs => ?_)
  · have e : lessv c d = decide (c.nt ≤ d.nt) := by unfold lessv; rw [if_neg hc, hs]; rfl
    rw [e]
    exact (Xs.leave (Ev.cmp (Ev.attr G (Ev.name O .i0) rfl) (Ev.attr G (Ev.name O .i1) rfl) Cmp.le) fun b => .inr).mono fun _ _ => Left.thn
  have e : lessv c d = (zspan 2 (top2 c d + 1)).all fun ts => !decide (ilv d ts ≤ ilv c ts) := by unfold lessv; rw [if_neg hc, hs]; rfl
  have hl1 : lrun c ≤ 900 := by unfold lrun; split <;> omega
  have hl2 : lrun d ≤ 900 := by unfold lrun; split <;> omega
  have hl3 : -1 ≤ lrun c := by unfold lrun; split <;> omega
  have ht : top2 c d ≤ 901 ∧ 0 ≤ top2 c d := by unfold top2; split <;> omega
  refine Xs.assign (d := .int (top2 c d)) O (Ev.bin (Ev.callB (Ev.built G O rfl rfl) (Es.cons (Ev.meth0 G (n := 1) (R.le (by omega)) (Ev.name O .i0) rfl rfl (sh _ (.inl rfl)) rfl (fn_lrun (by omega))) (Es.cons (Ev.meth0 G (n := 1) (R.le (by omega)) (Ev.name O .i1) rfl rfl (sh _ (.inl rfl)) rfl (fn_lrun (by omega))) Es.nil)) (Bf.max2 R.hand)) Ev.int Bin.add) .i2 ?_
  refine Xs.forIn R.hand (It.range2 (Ev.built G O rfl rfl) Ev.int (Ev.bin (Ev.name O .i2) Ev.int Bin.add) (by omega) (by omega) (by omega) (by omega))
    (fun j σ ω => ω = [] ∧ (∃ e, σ = [some (.ws c), some (.ws d), some (.int (top2 c d)), e]) ∧ ∀ i : Nat, i < j → (!decide (ilv d (2 + i) ≤ ilv c (2 + i))) = true) ⟨rfl, ⟨_, rfl⟩, fun i hi => absurd hi (Nat.not_lt_zero _)⟩ (fun W' hW i dd σ ω hd hJ => ?_) (fun σ ω hJ => ?_)
  · obtain ⟨rfl, ⟨e', rfl⟩, hall⟩ := hJ
    obtain ⟨hi, rfl⟩ := zspan_get hd
    refine ⟨_, Tg.name O .i3 (fun _ e => nomatch e), ?_⟩
    have hts : 1 ≤ (2 : Int) + i ∧ (2 : Int) + i ≤ 1000 := by omega
    refine Xs.guard (b := decide (ilv d (2 + i) ≤ ilv c (2 + i))) (Ts.cmp (Ev.meth G (n := 1) (R.le (by omega)) (Ev.name O .i0) rfl rfl (sh _ (.inr rfl)) rfl (Es.cons (Ev.name O .i3) Es.nil) (fn_il (by omega) hts.1 hts.2)) (Ev.meth G (n := 1) (R.le (by omega)) (Ev.name O .i1) rfl rfl (sh _ (.inr rfl)) rfl (Es.cons (Ev.name O .i3) Es.nil) (fn_il (by omega) hts.1 hts.2)) Cmp.ge) (fun hb => ?_) (fun hb => ?_)
    · have e2 : lessv c d = false := by
        rw [e]
        cases q : (zspan 2 (top2 c d + 1)).all fun ts => !decide (ilv d ts ≤ ilv c ts) with
        | false => rfl
        | true =>
          have := zspan_all.mp q i hi
          rw [hb] at this; cases this
      rw [e2]
      exact (Xs.leave Ev.bool fun b x => hW b (.inr x)).mono fun _ _ => Left.thnTurn
    · refine Xs.turn ⟨rfl, ⟨_, rfl⟩, fun j hj => ?_⟩
      rcases Nat.lt_succ_iff_lt_or_eq.mp hj with h | rfl
      · exact hall j h
      · rw [hb]; rfl
  · obtain ⟨rfl, ⟨e', rfl⟩, hall⟩ := hJ
    rw [zspan_length] at hall
    have e2 : lessv c d = true := by
      rw [e]
      exact zspan_all.mpr hall
    rw [e2]
    exact Xs.ret Ev.bool fun b => .inr
end
end Mine

-- F5
namespace Mine
open PySem PySem.Spec PySem.Calls PyProof.Rows PySem.W
noncomputable def told : Str := "( ) [ ] : , ; + - * / | & < > = . % { } == != <= >= ~ ^ << >> ** += -= *= /= %= &= |= ^= <<= >>= **= // //= @ @= -> ... := !"
noncomputable def opsL : List Str := [Str.ofString "(", Str.ofString ")", Str.ofString "[", Str.ofString "]", Str.ofString ":", Str.ofString ",", Str.ofString ";", Str.ofString "+", Str.ofString "-", Str.ofString "*", Str.ofString "/", Str.ofString "|", Str.ofString "&", Str.ofString "<", Str.ofString ">", Str.ofString "=", Str.ofString ".", Str.ofString "%", Str.ofString "{", Str.ofString "}", Str.ofString "==", Str.ofString "!=", Str.ofString "<=", Str.ofString ">=", Str.ofString "~", Str.ofString "^", Str.ofString "<<", Str.ofString ">>", Str.ofString "**", Str.ofString "+=", Str.ofString "-=", Str.ofString "*=", Str.ofString "/=", Str.ofString "%=", Str.ofString "&=", Str.ofString "|=", Str.ofString "^=", Str.ofString "<<=", Str.ofString ">>=", Str.ofString "**=", Str.ofString "//", Str.ofString "//=", Str.ofString "@", Str.ofString "@=", Str.ofString "->", Str.ofString "...", Str.ofString ":=", Str.ofString "!"]
noncomputable def op (i : Nat) : Str := opsL.getD i ""
theorem ops_num (p : Params) : ∀ i : Nat, i < 48 → ∃ tk, nsIn (Kf p) 144 (op i) = some (some (.int ((i : Int) + 7) tk))
  | 0, _ => ⟨_, rfl⟩
  | 1, _ => ⟨_, rfl⟩
  | 2, _ => ⟨_, rfl⟩
  | 3, _ => ⟨_, rfl⟩
  | 4, _ => ⟨_, rfl⟩
  | 5, _ => ⟨_, rfl⟩
  | 6, _ => ⟨_, rfl⟩
  | 7, _ => ⟨_, rfl⟩
  | 8, _ => ⟨_, rfl⟩
  | 9, _ => ⟨_, rfl⟩
  | 10, _ => ⟨_, rfl⟩
  | 11, _ => ⟨_, rfl⟩
  | 12, _ => ⟨_, rfl⟩
  | 13, _ => ⟨_, rfl⟩
  | 14, _ => ⟨_, rfl⟩
  | 15, _ => ⟨_, rfl⟩
  | 16, _ => ⟨_, rfl⟩
  | 17, _ => ⟨_, rfl⟩
  | 18, _ => ⟨_, rfl⟩
  | 19, _ => ⟨_, rfl⟩
  | 20, _ => ⟨_, rfl⟩
  | 21, _ => ⟨_, rfl⟩
  | 22, _ => ⟨_, rfl⟩
  | 23, _ => ⟨_, rfl⟩
  | 24, _ => ⟨_, rfl⟩
  | 25, _ => ⟨_, rfl⟩
  | 26, _ => ⟨_, rfl⟩
  | 27, _ => ⟨_, rfl⟩
  | 28, _ => ⟨_, rfl⟩
  | 29, _ => ⟨_, rfl⟩
  | 30, _ => ⟨_, rfl⟩
  | 31, _ => ⟨_, rfl⟩
  | 32, _ => ⟨_, rfl⟩
  | 33, _ => ⟨_, rfl⟩
  | 34, _ => ⟨_, rfl⟩
  | 35, _ => ⟨_, rfl⟩
  | 36, _ => ⟨_, rfl⟩
  | 37, _ => ⟨_, rfl⟩
  | 38, _ => ⟨_, rfl⟩
  | 39, _ => ⟨_, rfl⟩
  | 40, _ => ⟨_, rfl⟩
  | 41, _ => ⟨_, rfl⟩
  | 42, _ => ⟨_, rfl⟩
  | 43, _ => ⟨_, rfl⟩
  | 44, _ => ⟨_, rfl⟩
  | 45, _ => ⟨_, rfl⟩
  | 46, _ => ⟨_, rfl⟩
  | 47, _ => ⟨_, rfl⟩
  | n + 48, h => absurd h (by omega)
theorem ops_keys (p : Params) : ∃ es n, (Kf p).lookup 144 = some ⟨.type "dict", none, .dict es n, #[]⟩ ∧ KeysLit p es.toList := ⟨_, _, rfl, by repeat (first | exact True.intro | refine And.intro ⟨_, _, rfl, rfl⟩ ?_)⟩
theorem told_parts : Builtin.Str.partsBetween told (Builtin.Str.occurrences told " " 0 told.length (told.length + 1)) (" " : Str).length = opsL := by decide +kernel
theorem told_1 : (decide (told.length < (" " : Str).length) || decide (Builtin.Str.strKind told < Builtin.Str.strKind " ")) = false := by decide +kernel
theorem told_2 : ((" " : Str).length == 0) = false := by decide +kernel
theorem told_3 : (Builtin.Str.occurrences told " " 0 told.length (told.length + 1)).isEmpty = false := by decide +kernel
theorem told_4 : told.length ≤ 1000 := by decide +kernel
end Mine

-- F6
namespace Mine
open PySem PySem.Spec PySem.Calls PyProof.Rows PySem.W

noncomputable def piece (x : Nat) : Str := Txt.mul " " ((x : Int) + 4) ++ "\t"
noncomputable def leadPart (xs : List Nat) : Str := xs.foldl (fun s x => s ++ piece x) ""
noncomputable def leadText (xs : List Nat) (behind : Str) : Str := leadPart xs ++ (behind ++ "x \t")
theorem leadPart_snoc (xs : List Nat) (x : Nat) : leadPart (xs ++ [x]) = leadPart xs ++ piece x := by unfold leadPart; rw [List.foldl_append]; rfl
theorem piece_len {x : Nat} (hx : x < 4) : (piece x).length ≤ 8 := by
  have h := len_mul " " ((x : Int) + 4)
  rw [if_neg (by simp; omega)] at h
  have h1 : (" " : Str).length = 1 := rfl
  have h2 : ("\t" : Str).length = 1 := rfl
  unfold piece
  rw [PySem.Str.length_append, h2]
  rw [h1] at h
  omega
theorem fold_len : ∀ (xs : List Nat) (acc : Str), (∀ x ∈ xs, x < 4) → (xs.foldl (fun s x => s ++ piece x) acc).length ≤ acc.length + 8 * xs.length
  | [], acc, _ => by simp
  | x :: xs, acc, h => by
    have := fold_len xs (acc ++ piece x) fun y hy => h y (.tail _ hy)
    have hp := piece_len (h x (.head _))
    rw [PySem.Str.length_append] at this
    rw [List.foldl_cons, List.length_cons]
    omega
theorem leadPart_len {xs : List Nat} (h : ∀ x ∈ xs, x < 4) : (leadPart xs).length ≤ 8 * xs.length := by
  have := fold_len xs "" h
  have h0 : ("" : Str).length = 0 := rfl
  unfold leadPart
  omega

/-- four texts, by their places among the operators -/
noncomputable def opD (c0 : Nat) (x : Nat) : D := .str (op (c0 + x))

section
variable {prog : Program} {w : World} {A : Around} {Γ : Cx} {M W : Forb} {σ σ' : List (Option D)} {ω ω' : Owns}

theorem Ev.tok {xp pos : Pos} {e : Expr} {i : Nat} (G : Gl w Γ.hb) (b : Ev prog w Γ A M W σ ω (.Name "EXACT_TOKEN_TYPES" xp) (.val (.ref 144))) (a : Ev prog w Γ A M W σ ω e (.str (op i))) (hi : i < 48)
    (hs : ∀ t, subscripted e false (.ref 144) (.str (op i) t) = operate [.ref 144, .str (op i) t] (getItem (.ref 144) (.str (op i) t)) := by intro _; with_unfolding_all rfl) : Ev prog w Γ A M W σ ω (.Subscript (.Name "EXACT_TOKEN_TYPES" xp) e pos) (.int ((i : Int) + 7)) := by
  intro s Q E H h
  refine Subscript_ (b s _ E H fun v h₁ tk₁ k₁ r₁ => a _ _ E (H.stays k₁) fun u h₂ tk₂ k₂ r₂ => ?_)
  cases r₁
  cases r₂ with
  | str _ t =>
    obtain ⟨es, n, hl, hk⟩ := ops_keys w.params
    obtain ⟨tk, e⟩ := ops_num w.params i hi
    have hm := mapOf_K (prog := prog) (w := w) (G.stays ((H.stays k₁).stays k₂).base).K hl hk
    exact tail_any (s := { s with heap := h₂, toks := tk₂ }) hm.typeIs slot_dict_getitem.lookup (wpAny_getItem_of (strKind_is prog w (op i) t) hm (find_K hl e) (h _ _ _ (k₁.trans k₂) (.int _ _))) (hs t)

theorem strs_rd {W : Forb} {h : Heap} : ∀ (l : List Str) (tk : Nat), RdL W h (l.map .str) (strsFrom tk l)
  | [], _ => .nil
  | x :: r, tk => .cons (.str x tk) (strs_rd r (tk + 1))

theorem EvF.split {xp apos pos : Pos} {n : Str} {e : Expr} (a : Ev prog w Γ A M W σ ω (.Name n xp) (.str told)) (b : Ev prog w Γ A M W σ ω e (.str " ")) 
    (he : starEach [e] Γ.env = (false, eval e Γ.env) :: starEach [] Γ.env := by rfl)
    {pl : Sem Bool} (hpl : eval (.Call (.Attribute (.Name n xp) "split" apos) [e] [] pos) Γ.env = (do
      let ov ← eval (.Name n xp) Γ.env
      standAt apos.atName
      let (f, first) ← holding [ov] (getMethod ov "split" pl)
      callWith pos f first (backTo pos (starEach [e] Γ.env)) []) := by rfl) :
    EvF prog w Γ A M W σ ω (.Call (.Attribute (.Name n xp) "split" apos) [e] [] pos) (opsL.map .str) := by
  intro s Q E H h
  refine MethodCall_ (a s _ E H fun v h₁ tk₁ k₁ r₁ => ?_) hpl
  cases r₁ with
  | str _ t =>
    refine GM.split (callWith_method1 (wpAny_items_cons (b _ _ E (H.stays k₁) fun v h₂ tk₂ k₂ r₂ => wpAny_items_nil ?_) he) he rfl)
    cases r₂ with
    | str _ u =>
      have hf := get?_size h₂
      refine call_meets (s := { s with heap := h₂, toks := tk₂ }) F.slot_str_split (typeIs_str _ _ _) F.entry_str_split (F.args_str_split_2 _ _) (meets_str_split_sep told " " t u told_1 told_2 told_3 (by rw [sizeLine_eq]; have := told_4; omega) (by rw [told_parts, sizeLine_eq]; decide)) ?_
      rw [told_parts]
      exact h _ _ 0 _ _ ((k₁.trans k₂).trans (Stays.push _ _)) (fresh_back (k₁.trans k₂) hf) (Heap.get?_push_size _ rfl) (strs_rd _ _)

theorem fn_four {c0 : Nat} (h : c0 < 45) : Fn prog w 153 1 [.int ((c0 : Int) + 7)] (.list ((List.range 4).map (opD c0))) := by
  refine Fn.plain (k := 1) (ns := ["c"]) (rest := ["told"]) rfl rfl rfl (fun vs hv => ?_) (by decide) (by decide) (by decide) (by decide) rfl rfl rfl fun A hb L W R G hL O => ?_
  · match vs, hv with
    | [_], _ => rfl
  refine Xs.assign O Ev.str .i1 ?_
  refine Xs.ret ?_ fun b => .inr
  have e : lcut (opsL.map D.str) (some c0) (some (c0 + 4)) = (List.range 4).map (opD c0) := by
    have : ∀ c : Nat, c < 45 → (((opsL.drop c).take 4) = (List.range 4).map fun x => op (c + x)) := by decide +kernel
    show ((opsL.map D.str).drop c0).take (c0 + 4 - c0) = _
    rw [← List.map_drop, ← List.map_take, Nat.add_sub_cancel_left, this c0 h, List.map_map]
    rfl
  rw [← e]
  refine EvF.ev (EvF.cut (EvF.split (Ev.name O .i1) Ev.str).ev (.inl rfl) ?_ ?_ (fun x y e1 e2 => ?_) (by simp [opsL]))
  · show Ev _ _ _ _ _ _ _ _ _ (.int ((c0 : Nat) : Int))
    have : (.int ((c0 : Nat) : Int) : D) = .int ((c0 : Int) + 7 - 7) := by congr 1; omega
    rw [this]
    exact Ev.bin (Ev.name O .i0) Ev.int Bin.sub
  · show Ev _ _ _ _ _ _ _ _ _ (.int ((c0 + 4 : Nat) : Int))
    have : (.int ((c0 + 4 : Nat) : Int) : D) = .int ((c0 : Int) + 7 - 3) := by congr 1; omega
    rw [this]
    exact Ev.bin (Ev.name O .i0) Ev.int Bin.sub
  · cases e1; cases e2
    refine ⟨by omega, ?_⟩
    simp [opsL]; omega

theorem fn_lead {c0 : Nat} {xs : List Nat} {behind : Str} (h : c0 < 45) (hx : ∀ x ∈ xs, x < 4) (hl : xs.length ≤ 4) (hbh : behind.length ≤ 100) : Fn prog w 165 4 [.list (xs.map (opD c0)), .int ((c0 : Int) + 7), .str behind] (.ws (wsOf (leadText xs behind))) := by
  refine Fn.plain (k := 3) (ns := ["texts", "c", "behind"]) (rest := ["lead", "text", "blanks"]) rfl rfl rfl (fun vs hv => ?_) (by decide) (by decide) (by decide) (by decide) rfl rfl rfl fun A hb L W R G hL O => ?_
  · match vs, hv with
    | [_, _, _], _ => rfl
  have hlp := leadPart_len hx
  refine Xs.assign O Ev.str .i3 ?_
  refine Xs.forIn R.hand (It.list (Ev.name O .i0)) (fun j σ ω => ω = [] ∧ ∃ e f, σ = [some (.list (xs.map (opD c0))), some (.int ((c0 : Int) + 7)), some (.str behind), some (.str (leadPart (xs.take j))), e, f]) ⟨rfl, _, _, rfl⟩ (fun W' hW i d σ ω hd hJ => ?_) (fun σ ω hJ => ?_)
  · obtain ⟨rfl, e, f, rfl⟩ := hJ
    rw [List.getElem?_map] at hd
    obtain ⟨x, ex, rfl⟩ := Option.map_eq_some_iff.mp hd
    have hx4 := hx x (List.mem_of_getElem? ex)
    have hi := (List.getElem?_eq_some_iff.mp ex).1
    have hpre := leadPart_len (xs := xs.take i) fun y hy => hx y (List.mem_of_mem_take hy)
    have hpl := piece_len hx4
    have hle : (xs.take i).length ≤ 4 := by rw [List.length_take]; omega
    have et : xs.take (i + 1) = xs.take i ++ [x] := by rw [List.take_add_one, ex]; rfl
    have hm : (Txt.mul " " ((x : Int) + 4)).length ≤ 8 := by
      unfold piece at hpl
      rw [PySem.Str.length_append] at hpl
      omega
    refine ⟨_, Tg.name O .i4 (fun _ e => nomatch e), ?_⟩
    refine Xs.assign (d := .str (Txt.mul " " ((x : Int) + 4))) O ?_ .i5 ?_
    · have : ((c0 + x : Nat) : Int) + 7 - ((c0 : Int) + 7 - 4) = (x : Int) + 4 := by omega
      rw [← this]
      refine Ev.callFn G (n := 1) (R.le (by omega)) (Ev.glob G O rfl) rfl (Es.cons Ev.str (Es.cons (Ev.callFn G (n := 1) (R.le (by omega)) (Ev.glob G O rfl) rfl (Es.cons (Ev.tok G (Ev.glob G O rfl) (Ev.name O .i4) (by omega)) (Es.cons (Ev.bin (Ev.name O .i1) Ev.int Bin.sub) Es.nil)) fn_sub) Es.nil)) (fn_mul (by decide) (by omega) (by omega))
    refine Xs.assign (d := .str (leadPart (xs.take (i + 1)))) O ?_ .i3 (Xs.turn ⟨rfl, _, _, rfl⟩)
    rw [et, leadPart_snoc]
    exact Ev.callFn G (n := 2) (R.le (by omega)) (Ev.glob G O rfl) rfl (Es.cons (Ev.name O .i3) (Es.cons (Ev.callFn G (n := 2) (R.le (by omega)) (Ev.glob G O rfl) rfl (Es.cons (Ev.name O .i5) (Es.cons Ev.str Es.nil)) (fn_concat (b := "\t") (by have : ("\t" : Str).length = 1 := rfl; omega))) Es.nil)) (fn_concat (b := piece x) (by omega))
  · obtain ⟨rfl, e, f, rfl⟩ := hJ
    rw [List.length_map, List.take_length]
    have h3 : ("x \t" : Str).length = 3 := rfl
    have h4 : (behind ++ "x \t").length ≤ 103 := by rw [PySem.Str.length_append, h3]; omega
    have h5 : (leadText xs behind).length ≤ 200 := by unfold leadText; rw [PySem.Str.length_append]; omega
    refine Xs.ret ?_ fun b => .inr
    exact Ev.callFn G (n := 3) (R.le (by omega)) (Ev.glob G O rfl) rfl (Es.cons (Ev.callFn G (n := 2) (R.le (by omega)) (Ev.glob G O rfl) rfl (Es.cons (Ev.name O .i3) (Es.cons (Ev.callFn G (n := 2) (R.le (by omega)) (Ev.glob G O rfl) rfl (Es.cons (Ev.name O .i2) (Es.cons Ev.str Es.nil)) (fn_concat (by omega))) Es.nil)) (fn_concat (by omega))) Es.nil) (fn_make (show (leadText xs behind).length ≤ 900 by omega))
end
end Mine

-- L19
namespace Mine
open PySem PySem.Spec PySem.Calls PyProof.Rows PySem.W

mutual
/-- a tree as the data that the library compares -/
inductive Py : D → PyData → Prop
  | none : Py .none .none
  | bool (b : Bool) : Py (.bool b) (.bool b)
  | int (i : Int) : Py (.int i) (.int i)
  | str (x : Str) : Py (.str x) (.str x)
  | list {ds : List D} {xs : List PyData} : PyL ds xs → Py (.list ds) (.list xs)
inductive PyL : List D → List PyData → Prop
  | nil : PyL [] []
  | cons {d : D} {x : PyData} {ds : List D} {xs : List PyData} : Py d x → PyL ds xs → PyL (d :: ds) (x :: xs)
end
theorem PyL.map {α : Type} {f : α → D} {g : α → PyData} : ∀ {l : List α}, (∀ x ∈ l, Py (f x) (g x)) → PyL (l.map f) (l.map g)
  | [], _ => .nil
  | x :: l, h => .cons (h x (.head _)) (PyL.map fun y hy => h y (.tail _ hy))

mutual
theorem Py.reads {W : Forb} {h : Heap} : ∀ {d : D} {p : PyData} {v : Value}, Py d p → Rd W h d v → ∃ as, Reads h v p as
  | _, _, _, .none, r => by cases r; exact ⟨_, .none⟩
  | _, _, _, .bool b, r => by cases r; exact ⟨_, .bool _⟩
  | _, _, _, .int i, r => by cases r; exact ⟨_, .int _ _⟩
  | _, _, _, .str x, r => by cases r; exact ⟨_, .str _ _⟩
  | _, _, _, .list q, r => by
    cases r with
    | list e _ r =>
      obtain ⟨as, x⟩ := PyL.reads q r
      exact ⟨_, .list e rfl rfl (by simpa using x)⟩
theorem PyL.reads {W : Forb} {h : Heap} : ∀ {d : List D} {p : List PyData} {v : List Value}, PyL d p → RdL W h d v → ∃ as, ReadsAll h v p as
  | _, _, _, .nil, r => by cases r; exact ⟨_, .nil⟩
  | _, _, _, .cons a b, r => by
    cases r with
    | cons x y =>
      obtain ⟨as, ha⟩ := Py.reads a x
      obtain ⟨bs, hb⟩ := PyL.reads b y
      exact ⟨_, .cons ha hb⟩
end

theorem canLay_map {α : Type} {g : α → PyData} : ∀ {l : List α}, (∀ x ∈ l, (g x).canLay0 = true) → PyData.canLayAll0 (l.map g) = true
  | [], _ => rfl
  | x :: l, h => by
    rw [List.map_cons]
    show ((g x).canLay0 && PyData.canLayAll0 (l.map g)) = true
    rw [h x (.head _), canLay_map fun y hy => h y (.tail _ hy)]; rfl
theorem depth_map {α : Type} {g : α → PyData} {n : Nat} : ∀ {l : List α}, (∀ x ∈ l, (g x).depth ≤ n) → PyData.depthAll (l.map g) ≤ n
  | [], _ => Nat.zero_le _
  | x :: l, h => Nat.max_le.mpr ⟨h x (.head _), depth_map fun y hy => h y (.tail _ hy)⟩
theorem eqv_map {α β : Type} {g : α → PyData} {f : β → PyData} {e : α → β → Bool} (he : ∀ x y, PyData.eqv (g x) (f y) = e x y) : ∀ (l : List α) (k : List β), PyData.eqvAll (l.map g) (k.map f) = (l.length == k.length && (l.zip k).all fun p => e p.1 p.2)
  | [], [] => rfl
  | [], _ :: _ => by simp [PyData.eqvAll]
  | _ :: _, [] => by simp [PyData.eqvAll]
  | x :: l, y :: k => by
    show (PyData.eqv (g x) (f y) && PyData.eqvAll (l.map g) (k.map f)) = _
    rw [he, eqv_map he l k]
    simp only [List.length_cons, List.zip_cons_cons, List.all_cons]
    cases e x y <;> cases h : (l.length == k.length) <;> simp_all
theorem eqv_mapEq {α : Type} [DecidableEq α] {g : α → PyData} (he : ∀ x y, PyData.eqv (g x) (g y) = decide (x = y)) : ∀ (l k : List α), PyData.eqvAll (l.map g) (k.map g) = decide (l = k)
  | [], [] => rfl
  | [], _ :: _ => by simp [PyData.eqvAll]
  | _ :: _, [] => by simp [PyData.eqvAll]
  | x :: l, y :: k => by
    show (PyData.eqv (g x) (g y) && PyData.eqvAll (l.map g) (k.map g)) = _
    rw [he, eqv_mapEq he l k]
    by_cases h : x = y <;> by_cases h' : l = k <;> simp [h, h']

section
variable {prog : Program} {w : World} {A : Around}
theorem Cmp.eqD {d e : D} {p q : PyData} (pd : Py d p) (pe : Py e q) (hp : PySem.SeqAt.shaped p = true) (hq : PySem.SeqAt.shaped q = true) (hu : A.units + 64 < cLine) : Cmp prog w A .Eq d e (PyData.eqv p q) := by
  intro W s Q E a b _ ra rb h
  obtain ⟨as, x⟩ := pd.reads ra
  obtain ⟨bs, y⟩ := pe.reads rb
  exact eq_dataH x y hp hq hu (h s.heap s.toks (Stays.refl _))
theorem Cmp.neD {d e : D} {p q : PyData} (pd : Py d p) (pe : Py e q) (hp : PySem.SeqAt.shaped p = true) (hq : PySem.SeqAt.shaped q = true) (hu : A.units + 64 < cLine) : Cmp prog w A .NotEq d e (!PyData.eqv p q) := by
  intro W s Q E a b _ ra rb h
  obtain ⟨as, x⟩ := pd.reads ra
  obtain ⟨bs, y⟩ := pe.reads rb
  exact ne_dataH x y hp hq hu (h s.heap s.toks (Stays.refl _))
theorem Cmp.notInD {d : D} {es : List D} {p : PyData} {qs : List PyData} (pd : Py d p) (pe : PyL es qs) (hp : p.canLay0 = true) (hq : PyData.canLayAll0 qs = true) (hd : p.depth ≤ 60) (hu : A.units + 64 < cLine) : Cmp prog w A .NotIn d (.list es) (!qs.any fun y => PyData.eqv y p) := by
  intro W s Q E a b _ ra rb h
  obtain ⟨as, x⟩ := pd.reads ra
  obtain ⟨bs, y⟩ := (Py.list pe).reads rb
  exact PySem.SeqAt.notIn_list_reads y x hq hp (by have := Nat.min_le_right (PyData.depthAll qs) p.depth; omega) (h s.heap s.toks (Stays.refl _))
end

/-- trees without objects -/
noncomputable def D.flat : D → Bool
  | .none | .bool _ | .int _ | .str _ => true
  | _ => false
theorem Rd.flat {W W' : Forb} {h h' : Heap} {d : D} {v : Value} (r : Rd W h d v) (f : d.flat = true) : Rd W' h' d v := by
  cases r <;> first | (cases f; done) | (constructor; done)

section
variable {prog : Program} {w : World} {A : Around} {Γ : Cx} {M W : Forb} {σ σ' : List (Option D)} {ω ω' : Owns} {R : Flow → Heap → Prop} {h : Heap}

/-- an own list as a tree again -/
theorem Hx.lend {x : Str} {l : Option Addr} {a : Addr} {ds : List D} (O : Γ.Ok) (H : Hx Γ M W σ ω h) (hm : (a, .list ds) ∈ ω) (V : VarAt Γ.slots σ x l (.val (.ref a))) (V' : VarSet Γ.slots σ x l (.list ds) σ') (S : List.Sublist ω' ω) (hne : ∀ p ∈ ω', p.1 ≠ a) :
    Hx Γ (fun b => M b ∧ b ≠ a) (fun b => W b ∧ b ≠ a) σ' ω' h := by
  have U : Sub W h (fun b => W b ∧ b ≠ a) h := fun b o e wb => ⟨fun x => wb x.1, e⟩
  obtain ⟨m, hn, hv⟩ := H.vars
  obtain ⟨v, sv, rv⟩ := hv.at V
  cases rv
  obtain ⟨vs, n, e, rl⟩ := H.own _ hm
  refine ⟨H.base, fun b hb => H.new b hb.1, ⟨m, hn, Vars.set V' U O.nd sv (.list e (fun x => x.2 rfl) (rl.sub U)) (fun _ _ _ _ e => e) hv⟩, H.cells, fun p hp => (H.own p (S.subset hp)).move U fun _ e => e, fun p hp => ⟨H.ownM p (S.subset hp), hne p hp⟩, fun p hp => H.ownL p (S.subset hp),
    fun p hp => H.ownC p (S.subset hp), H.ownN.sublist S, ⟨H.locM, fun e => H.ownL _ hm e.symm⟩, fun y b hb => ⟨H.celW y b hb, fun e => H.ownC _ hm y (e ▸ hb)⟩, fun b hb => ⟨H.MW b hb.1, hb.2⟩, fun b hb => H.live b hb.1⟩
theorem Ev.borrow {x : Str} {l : Option Addr} {a : Addr} {ds : List D} {e : Expr} {d : D} (O : Γ.Ok) (hm : (a, .list ds) ∈ ω) (V : VarAt Γ.slots σ x l (.val (.ref a))) (V' : VarSet Γ.slots σ x l (.list ds) σ') (S : List.Sublist ω' ω) (hne : ∀ p ∈ ω', p.1 ≠ a) (f : d.flat = true)
    (k : Ev prog w Γ A (fun b => M b ∧ b ≠ a) (fun b => W b ∧ b ≠ a) σ' ω' e d) : Ev prog w Γ A M W σ ω e d :=
  fun s Q E H q => k s Q E (H.lend O hm V V' S hne) fun v h' tk' st r => q v h' tk' st (r.flat f)
theorem Xs.freeze {x : Str} {l : Option Addr} {a : Addr} {ds : List D} {body : List Stmt} (O : Γ.Ok) (hm : (a, .list ds) ∈ ω) (V : VarAt Γ.slots σ x l (.val (.ref a))) (V' : VarSet Γ.slots σ x l (.list ds) σ') (S : List.Sublist ω' ω) (hne : ∀ p ∈ ω', p.1 ≠ a)
    (k : Xs prog w Γ A (Hx Γ (fun b => M b ∧ b ≠ a) (fun b => W b ∧ b ≠ a) σ' ω') (fun b => M b ∧ b ≠ a) body R) : Xs prog w Γ A (Hx Γ M W σ ω) M body R :=
  fun s Q E H q => k s Q E (H.lend O hm V V' S hne) fun f h' tk' kp r => q f h' tk' (fun b o e hb => kp b o e fun x => hb x.1) r
end
end Mine

-- F7
namespace Mine
open PySem PySem.Spec PySem.Calls PyProof.Rows PySem.W

section
variable {prog : Program} {w : World} {A : Around} {Γ : Cx} {M W : Forb} {σ σ' : List (Option D)} {ω ω' : Owns} {R : Flow → Heap → Prop} {h h' : Heap}

theorem Hx.steps {X : Forb} (H : Hx Γ M W σ ω h) (hW : ∀ b, X b → W b) (hM : ∀ b, X b → ¬ M b) (hc : ∀ b, X b → ∀ x, (x, some b) ∉ Γ.slots) (hb : ∀ b, X b → Γ.hb.get? b = none) (k : ∀ b o, ¬ X b → h.get? b = some o → h'.get? b = some o) (hl : ∀ b, X b → ∃ o, h'.get? b = some o) :
    Hx Γ M W σ ω h' := by
  have S : Sub W h W h' := fun b o e wb => ⟨wb, k b o (fun q => wb (hW b q)) e⟩
  obtain ⟨m, hm, hv⟩ := H.vars
  have kM : ∀ b, M b → ∀ o, h.get? b = some o → h'.get? b = some o := fun b hb o => k b o fun q => hM b q hb
  refine ⟨fun b o e => k b o (fun q => by rw [hb b q] at e; cases e) (H.base b o e), H.new, ⟨m, hm.at' fun o => kM _ H.locM o, hv.move S fun p hp u e => ?_⟩, fun x b hb' => ?_, fun p hp => (H.own p hp).move S fun o => kM _ (H.ownM p hp) o, H.ownM, H.ownL, H.ownC, H.ownN, H.locM, H.celW, H.MW, fun b hb' => ?_⟩
  · obtain ⟨y, l⟩ := p
    cases l with
    | none => exact e
    | some b => exact IsCell.st (fun o => k b o fun q => hc b q y hp) e
  · obtain ⟨v, c⟩ := H.cells x b hb'
    exact ⟨v, IsCell.st (fun o => k b o fun q => hc b q x hb') c⟩
  · by_cases q : X b
    · exact hl b q
    · obtain ⟨o, e⟩ := H.live b hb'
      exact ⟨o, k b o q e⟩
/-- an own object changed by someone who was handed it -/
theorem Hx.poke {a : Addr} {o o' : OD} (H : Hx Γ M W σ ω h) (S : OwnSet ω a o o' ω') (k : ∀ b x, b ≠ a → h.get? b = some x → h'.get? b = some x) (hn : OwnAt W h' a o') : Hx Γ M W σ ω' h' := by
  have hM := H.ownM _ S.mem
  have U : Sub W h W h' := fun b x e wb => ⟨wb, k b x (fun q => wb (q ▸ H.MW _ hM)) e⟩
  have key : ∀ p ∈ ω', ∃ o, (p.1, o) ∈ ω := fun p hp => key_mem (S.keys ▸ List.mem_map_of_mem (f := (·.1)) hp)
  obtain ⟨m, hm, hv⟩ := H.vars
  have hneL : a ≠ Γ.env.locals := H.ownL _ S.mem
  have n' : ω'.Pairwise fun p q => p.1 ≠ q.1 := by
    have e1 : ω.Pairwise (fun p q => p.1 ≠ q.1) ↔ (ω.map (·.1)).Pairwise (· ≠ ·) := by rw [List.pairwise_map]
    have e2 : ω'.Pairwise (fun p q => p.1 ≠ q.1) ↔ (ω'.map (·.1)).Pairwise (· ≠ ·) := by rw [List.pairwise_map]
    rw [e2, S.keys, ← e1]; exact H.ownN
  refine ⟨fun b x e => k b x (fun q => ?_) (H.base b x e), H.new, ⟨m, hm.at' fun x => k _ x (Ne.symm hneL), hv.move U fun p hp u e => ?_⟩, fun x b hb => ?_, fun p hp => ?_, fun p hp => ?_, fun p hp => ?_, fun p hp => ?_, n', H.locM, H.celW, H.MW, fun b hb => ?_⟩
  · rw [q, H.new a hM] at e; cases e
  · obtain ⟨y, l⟩ := p
    cases l with
    | none => exact e
    | some b => exact IsCell.st (fun x => k b x fun q => H.ownC _ S.mem y (q ▸ hp)) e
  · obtain ⟨v, c⟩ := H.cells x b hb
    exact ⟨v, IsCell.st (fun o => k b o fun q => H.ownC _ S.mem x (q ▸ hb)) c⟩
  · by_cases q : p.1 = a
    · obtain ⟨b, o₁⟩ := p
      have q' : b = a := q
      subst q'
      rw [own_unique n' hp S.mem']; exact hn
    · rcases S.cases p hp with e | hm'
      · exact absurd (by rw [e]) q
      · exact (H.own p hm').move U fun x => k _ x q
  · obtain ⟨o, q⟩ := key p hp; exact H.ownM (p.1, o) q
  · obtain ⟨o, q⟩ := key p hp; exact H.ownL (p.1, o) q
  · obtain ⟨o, q⟩ := key p hp; exact H.ownC (p.1, o) q
  · by_cases q : b = a
    · subst q
      cases o' with
      | list => obtain ⟨_, _, e, _⟩ := hn; exact ⟨_, e⟩
      | dict => obtain ⟨_, _, e, _⟩ := hn; exact ⟨_, e⟩
      | attrs => obtain ⟨_, _, e, _⟩ := hn; exact ⟨_, e⟩
    · obtain ⟨x, e⟩ := H.live b hb
      exact ⟨x, k b x q e⟩

theorem Ts.isOrEq {x y x' y' : Expr} {p1 p2 pos : Pos} {s t : Str} (hu : A.units + 64 < cLine) (hs : PyData.strOk s = true) (ht : PyData.strOk t = true) (a : Ev prog w Γ A M W σ ω x (.list [.str s])) (b : Ev prog w Γ A M W σ ω y (.list [.str t])) (a' : Ev prog w Γ A M W σ ω x' (.list [.str s])) (b' : Ev prog w Γ A M W σ ω y' (.list [.str t]))
    (hm : behindInMarks .Is y = false := by with_unfolding_all rfl) (hm' : behindInMarks .Eq y' = false := by with_unfolding_all rfl) : Ts prog w Γ A M W σ ω (.BoolOp .Or [.Compare x [.Is] [y] p1, .Compare x' [.Eq] [y'] p2] pos) (decide (s = t)) := by
  intro st Q E H h
  refine wpAny_isTrue_BoolOp (wpAny_allTrue_Or_cons (wpAny_isTrue_Compare1 (a st _ E H fun v h₁ tk₁ k₁ r₁ => b _ _ E (H.stays k₁) fun u h₂ tk₂ k₂ r₂ => ?_) hm))
  have r₁' := r₁.stays k₂
  cases r₁' with
  | @list a₁ vs n _ e₁ w₁ p₁ =>
    cases r₂ with
    | @list a₂ us n' _ e₂ w₂ p₂ =>
      have k12 := k₁.trans k₂
      by_cases q : a₁ = a₂
      · subst q
        rw [e₁] at e₂
        have hv : vs = us := by
          have := congrArg (fun o => match o with | some (o : Obj) => (match o.data with | .seq a _ => a.toList | _ => []) | none => []) e₂
          simpa using this
        subst hv
        have est : s = t := by
          cases p₁ with | cons x1 _ => cases p₂ with | cons x2 _ => cases x1; cases x2; rfl
        refine wpAny_is_ref_self (s := { st with heap := h₂, toks := tk₂ }) (wpAny_truthy_bool ?_)
        rw [decide_eq_true est] at h
        exact h _ _ k12
      · refine wpAny_is_ref_other (s := { st with heap := h₂, toks := tk₂ }) q e₁ e₂ (by intro e; injection e with e; exact absurd e (by decide)) (wpAny_truthy_bool ?_)
        have heq : PyData.eqv (.list [.str s]) (.list [.str t]) = decide (s = t) := by
          show ((s == t) && true) = _
          rw [Bool.and_true]; rfl
        have sh : ∀ z, PyData.strOk z = true → PySem.SeqAt.shaped (.list [.str z]) = true := fun z hz => by
          show ((PyData.strOk z && true) && decide _) = true
          rw [hz]; rfl
        refine wpAny_allTrue_Or_cons (Ts.cmp a' b' (heq ▸ Cmp.eqD (.list (.cons (.str s) .nil)) (.list (.cons (.str t) .nil)) (sh s hs) (sh t ht) hu) hm' _ _ _ ((H.stays k12)) fun h₃ tk₃ k₃ => ?_)
        cases hd : decide (s = t) with
        | true => rw [hd] at h; exact h _ _ (k12.trans k₃)
        | false => rw [hd] at h; exact wpAny_allTrue_Or_nil (h _ _ (k12.trans k₃))
end

section
variable {prog : Program} {w : World}
theorem fn_getitem {ds : List D} {k : Int} {r : D} (h0 : 0 ≤ k) (hk : ds[k.toNat]? = some r) (hz : ds.length < 2 ^ 62) : Fn prog w 129 1 [.list ds, .int k] r := by
  refine Fn.plain (k := 0) (ns := ["a", "b"]) (rest := []) rfl rfl rfl (fun vs hv => ?_) (by decide) (by decide) (by decide) (by decide) rfl rfl rfl fun A hb L W R G hL O => ?_
  · match vs, hv with
    | [_, _], _ => rfl
  exact Xs.ret (Ev.item (Ev.name O .i0) (.inl rfl) (Ev.name O .i1) h0 hk (hz := hz)) fun b => .inr

theorem set_run {A : Around} {W : Forb} {hb : Heap} {s : Shared} {a : Addr} {ds : List D} {k : Int} {tk : Tok} {d : D} {v : Value} {Q : Value → Shared → Prop} {E : Value → Shared → Prop} (R : Rm A 1) (kb : Stays hb s.heap) (G : Gl w hb) (hW : ∀ a, W a → ∃ o, s.heap.get? a = some o) (hWa : W a) (hba : hb.get? a = none)
    (own : OwnAt W s.heap a (.list ds)) (rd : Rd W s.heap d v) (h0 : 0 ≤ k) (h1 : k < ds.length) (hz : ds.length ≤ 1000000)
    (q : ∀ h' tk', (∀ b o, b ≠ a → s.heap.get? b = some o → h'.get? b = some o) → OwnAt W h' a (.list (ds.set k.toNat d)) → Q .none { s with heap := h', toks := tk' }) :
    wpAny (model prog w) A (call (.ref 143) [.ref a, .int k tk, v]) Q E s := by
  refine wpAny_call (frame_run (n := 0) (k := 0) (M₀ := fun b => b = a) (W := W) (hb := hb) (ω := [(a, .list ds)]) (args := [.val (.ref a), .int k, d]) (ns := ["a", "b", "c"]) (rest := [])
    (Rb := fun L f h => f = .next ∧ OwnAt (fun b => b = L ∨ W b) h a (.list (ds.set k.toNat d)))
    R kb G hW (fun b e => e ▸ hWa) (fun b e => e ▸ hba) (fun p hp => by rw [List.mem_singleton.mp hp]; exact own) (fun p hp => by rw [List.mem_singleton.mp hp]) (List.pairwise_singleton _ _)
    (.cons (.val _) (.cons (.int _ _) (.cons rd .nil))) (fun A L R nL nLb O => ?_) (fun L f h' tk' kp nL rr => ?_) rfl rfl rfl (fun vs hv => ?_) (by decide) (by decide) (by decide) (by decide) rfl rfl rfl)
  · exact Xs.setItem (Ev.name O .i2) (Ev.name O .i0) (Ev.name O .i1) h0 h1 hz .head (Xs.nil fun hp H => ⟨rfl, H.own _ (.head _)⟩)
  · obtain ⟨rfl, vs, n, e, r⟩ := rr
    exact q h' tk' (fun b o hb e => kp b o e hb) ⟨vs, n, e, r.sub fun b o e wb => ⟨fun x => wb (.inr x), e⟩⟩
  · match vs, hv with
    | [_, _, _], _ => rfl
end
end Mine

-- F8
namespace Mine
open PySem PySem.Spec PySem.Calls PyProof.Rows PySem.W

theorem Hx.wides {Γ : Cx} {M W X : Forb} {σ : List (Option D)} {ω : Owns} {h h' : Heap} (H : Hx Γ M W σ ω h) (k : Stays h h') (hn : ∀ b, X b → h.get? b = none) (hl : ∀ b, X b → ∃ o, h'.get? b = some o) : Hx Γ M (fun b => X b ∨ W b) σ ω h' := by
  have S : Sub W h (fun b => X b ∨ W b) h' := fun b o e wb => ⟨fun x => x.elim (fun x => by rw [hn b x] at e; cases e) wb, k b o e⟩
  obtain ⟨m, hm, hv⟩ := H.vars
  refine ⟨H.base.trans k, H.new, ⟨m, hm.keeps k, hv.move S fun p _ u e => ?_⟩, fun x b hb => ?_, fun p hp => (H.own p hp).move S fun o => k _ o, H.ownM, H.ownL, H.ownC, H.ownN, H.locM, fun x b hb => .inr (H.celW x b hb), fun b hb => .inr (H.MW b hb), fun b hb => ?_⟩
  · obtain ⟨y, l⟩ := p
    cases l with
    | none => exact e
    | some b => exact IsCell.st (fun o => k b o) e
  · obtain ⟨v, c⟩ := H.cells x b hb
    exact ⟨v, c.keeps k⟩
  · rcases hb with hb | hb
    · exact hl b hb
    · obtain ⟨o, e⟩ := H.live b hb
      exact ⟨o, k _ _ e⟩

section
variable {prog : Program} {w : World}

noncomputable abbrev ixs : Slots := [("a", none), ("b", none), ("i", none), ("j", none)]
noncomputable def boxD (xs : List Str) : List D := xs.map fun x => .list [.str x]

theorem enum_find {env : Env} {hb : Heap} {A : Around} {M W W₀ : Forb} {e1 e2 : Option D} {xs : List Str} {t : Str} {i : Nat} {p1 p2 p3 p4 p5 p6 p7 p8 p9 p10 p11 p12 p13 p14 p15 p16 pos : Pos} {kk : Nat} {orelse : List Stmt} (O : (⟨env, ixs, hb⟩ : Cx).Ok) (G : Gl w hb) (R : Rm A 0) (hi : xs[i]? = some t) (hno : ∀ j, j < i → xs[j]? ≠ some t) (hok : ∀ x ∈ xs, PyData.strOk x = true)
    (hf : env.kindOf "enumerate" = some .globalImplicit) (hW0 : ∀ b, W₀ b → W b)
    (hcall : starEach [.Name "a" p5] env = (false, eval (.Name "a" p5) env) :: starEach [] env := by rfl) :
    X1 prog w ⟨env, ixs, hb⟩ A (Hx ⟨env, ixs, hb⟩ M W [some (.list (boxD xs)), some (.list [.str t]), e1, e2] []) M (.For (.Tuple [.Name "i" p1, .Name "j" p2] kk p3) (.Call (.Name "enumerate" p4) [.Name "a" p5] [] p6)
      [.If (.BoolOp .Or [.Compare (.Name "j" p7) [.Is] [.Name "b" p8] p9, .Compare (.Name "j" p10) [.Eq] [.Name "b" p11] p12] p13) [.Return (some (.Name "i" p14)) p15] [] p16] orelse pos) (RetIs W₀ (.int i)) := by
  have hlt : i < xs.length := (List.getElem?_eq_some_iff.mp hi).1
  have htk : PyData.strOk t = true := hok t (List.mem_of_getElem? hi)
  have hu : A.units + 64 < cLine := by have := R.uni; omega
  intro s Q E H q
  refine wpAny_For ?_ (by intro _; rfl)
  rw [eval_CallName]
  refine wpAny_bind ((Ev.built (x := "enumerate") (v := .type "enumerate") G O rfl rfl (hk := hf) : Ev prog w _ A _ _ _ _ _ _) s _ E H fun v h₁ tk₁ k₁ r₁ => ?_)
  cases r₁
  refine PyProof.Rows.callWith_type1 (wpAny_items_cons ((Ev.name O .i0 : Ev prog w _ A _ _ _ _ _ _) _ _ E (H.stays k₁) fun v h₂ tk₂ k₂ r₂ => wpAny_items_nil ?_) hcall) hcall rfl
  have H₂ := (H.stays k₁).stays k₂
  cases r₂ with
  | @list l vs n _ el wl rl =>
    refine call_enumerate_list (s := { s with heap := h₂, toks := tk₂ }) (listAt el) fun h₃ hen hit hsz k₃ => ?_
    refine wpAny_pyIter_enum (s := { s with heap := h₃, toks := tk₂ }) hen ?_
    dsimp only at hen hit hsz ⊢
    generalize hI : h₂.objs.size = I at hen hit hsz
    have nI : h₂.get? I = none := hI ▸ get?_size _
    have nE : h₂.get? (I + 1) = none := by
      cases e : h₂.get? (I + 1) with
      | none => rfl
      | some o => exact absurd (hI ▸ Heap.lt_size e) (Nat.not_lt.mpr (Nat.le_succ _))
    have k₃ : Stays h₂ h₃ := k₃
    have k03 : Stays s.heap h₃ := (k₁.trans k₂).trans k₃
    have hne : I + 1 ≠ I := Nat.succ_ne_self I
    have lI : ∀ {hh : Heap} {j : Nat}, hh.IsListIter I l j → ∃ o, hh.get? I = some o := fun ⟨o, e, _⟩ => ⟨o, e⟩
    have nX : ∀ b, (b = I + 1 ∨ b = I) → h₂.get? b = none := fun b hb => hb.elim (fun e => e ▸ nE) fun e => e ▸ nI
    have nM : ∀ b, (b = I + 1 ∨ b = I) → ¬ M b := fun b hb m => by obtain ⟨o, e⟩ := H₂.live b (H₂.MW b m); rw [nX b hb] at e; cases e
    have H₃ := H₂.wides (X := fun b => b = I + 1 ∨ b = I) k₃ nX (fun b hb => hb.elim (fun e => e ▸ ⟨_, hen⟩) fun e => e ▸ lI hit)
    have S0 : Sub W h₂ (fun b => (b = I + 1 ∨ b = I) ∨ W b) h₃ := fun b o e wb => ⟨fun x => x.elim (fun x => by rw [nX b x] at e; cases e) wb, k₃ b o e⟩
    have rl₃ := rl.sub S0
    have hlI : l ≠ I := fun x => by rw [x, nI] at el; cases el
    have hlE : l ≠ I + 1 := fun x => by rw [x, nE] at el; cases el
    have hlM : ¬ M l := fun m => wl (H₂.MW _ m)
    refine codeAny_forLoop_any (fun m s' => ∃ j h' tk' old e1 e2, s' = { s with heap := h', toks := tk' } ∧ m = xs.length + 1 - j ∧ j ≤ i ∧ IsEnum h' (I + 1) I ((j : Nat) : Int) old ∧ h'.IsListIter I l j ∧ h'.get? l = some (listOf vs.toArray n) ∧
      Hx ⟨env, ixs, hb⟩ M (fun b => (b = I + 1 ∨ b = I) ∨ W b) [some (.list (boxD xs)), some (.list [.str t]), e1, e2] [] h' ∧ RdL (fun b => (b = I + 1 ∨ b = I) ∨ W b) h' (boxD xs) vs ∧ Kp M s.heap h') ?_ (xs.length + 1)
      ⟨0, h₃, tk₂, .none, e1, e2, rfl, rfl, Nat.zero_le _, hen, hit, k₃ _ _ el, H₃, rl₃, Kp.of_stays k03⟩
    rintro m s' ⟨j, h', tk', old, e1, e2, rfl, rfl, hj, he', hit', el', H', rl', kp'⟩
    have hjl : j < xs.length := by omega
    obtain ⟨v, ev, rv⟩ := rl'.at (i := j) (d := .list [.str xs[j]]) (by simp [boxD, hjl])
    refine wpAny_pyNext_enum_item (s := { s with heap := h', toks := tk' }) he' hit' (listAt el') (x := v) (by simpa using ev) hne fun h₄ heo hit₄ ht₄ hz₄ k₄ => ?_
    dsimp only at heo hit₄ ht₄ hz₄ k₄ ⊢
    generalize hT : h'.objs.size = T at heo hit₄ ht₄ hz₄
    refine wpAny_letOwnedTupleGo_enum (s := { s with heap := h₄, toks := tk' + 1 }) heo fun h₅ he₅ hs₅ => ?_
    have hs₅ : Heap.SameBut (I + 1) h₄ h₅ := hs₅
    have nT : h'.get? T = none := hT ▸ get?_size _
    have hTE : T ≠ I + 1 := fun x => by have e : h'.get? (I + 1) = _ := he'; rw [← x, nT] at e; cases e
    have hTI : T ≠ I := fun x => by obtain ⟨o, e⟩ := lI hit'; rw [← x, nT] at e; cases e
    have ht₅ : h₅.IsTuple T #[.int j tk', v] := ⟨_, (hs₅.2 _ hTE).trans ht₄, rfl, _, rfl⟩
    have k45 : ∀ b o, ¬ (b = I + 1 ∨ b = I) → h'.get? b = some o → h₅.get? b = some o := fun b o hb e => (hs₅.2 b fun x => hb (.inl x)).trans (k₄ b o (fun x => hb (.inl x)) (fun x => hb (.inr x)) e)
    have hit₅ : h₅.IsListIter I l (j + 1) := hit₄.extBut hs₅.extBut (Ne.symm hne)
    refine wpAny_assign_Tuple (s := { s with heap := h₅, toks := tk' + 1 }) R.hand ht₅ rfl rfl fun h₆ x₆ => ?_
    have k₆ : Stays h₅ h₆ := fun b o e => x₆ b o (Nat.ne_of_lt (Heap.lt_size e)) e
    have H₅ : Hx _ M (fun b => (b = I + 1 ∨ b = I) ∨ W b) _ [] h₅ := H'.steps (X := fun b => b = I + 1 ∨ b = I) (fun b x => .inl x) nM (fun b x y hy => by simp [ixs] at hy) (fun b x => fresh_back H₂.base (nX b x)) k45 (fun b x => x.elim (fun e => e ▸ ⟨_, he₅⟩) fun e => e ▸ lI hit₅)
    have S5 : Sub (fun b => (b = I + 1 ∨ b = I) ∨ W b) h' (fun b => (b = I + 1 ∨ b = I) ∨ W b) h₅ := fun b o e wb => ⟨wb, k45 b o (fun x => wb (.inl x)) e⟩
    have H₆ := H₅.stays k₆
    have SM : ∀ {h h' : Heap}, Kp M h h' → Sub (fun b => (b = I + 1 ∨ b = I) ∨ W b) h (fun b => (b = I + 1 ∨ b = I) ∨ W b) h' := fun k b o e wb => ⟨wb, k b o e fun m => wb (.inr (H.MW _ m))⟩
    have rv₆ := (rv.sub S5).stays k₆
    refine wpAny_bind (wpAny_holding (wpAny_assign_Name (store_name (s := { s with heap := h₆, toks := tk' + 1 }) O H₆ (by intro a e; cases e) .i2 (.int (j : Int) _) fun h₇ tk₇ k₇ H₇ => ?_)))
    refine wpAny_bind (wpAny_holding (wpAny_assign_Name (store_name (s := { s with heap := h₇, toks := tk₇ }) O H₇ (by intro a e; cases e) .i3 (rv₆.sub (SM k₇)) fun h₈ tk₈ k₈ H₈ => wpAny_pure ?_)))
    have kp8 : ∀ b o, ¬ (b = I + 1 ∨ b = I) → ¬ M b → h'.get? b = some o → h₈.get? b = some o := fun b o hx hm e => k₈ b o (k₇ b o (k₆ b o (k45 b o hx e)) hm) hm
    have kM8 : ∀ b o, ¬ M b → h₅.get? b = some o → h₈.get? b = some o := fun b o hm e => k₈ b o (k₇ b o (k₆ b o e) hm) hm
    refine wpAny_execs_cons (wpAny_If ((Ts.isOrEq (prog := prog) (w := w) (p1 := p9) (p2 := p12) (pos := p13) hu (hok xs[j] (List.getElem_mem hjl)) htk (Ev.name O .i3 (pos := p7)) (Ev.name O .i1 (pos := p8)) (Ev.name O .i3 (pos := p10)) (Ev.name O .i1 (pos := p11)) : Ts prog w _ A _ _ _ _ _ _) _ _ _ H₈ fun h₉ tk₉ k₉ => ?_))
    have kpq : Kp M s.heap h₉ := fun b o e hm => by
      have hx : ¬ (b = I + 1 ∨ b = I) := fun x => by
        have := k₁.trans k₂ b o e
        rw [nX b x] at this; cases this
      exact k₉ b o (kp8 b o hx hm (kp' b o e hm))
    cases hd : decide (xs[j] = t) with
    | true =>
      have hji : j = i := by
        rcases Nat.lt_or_ge j i with h | h
        · exact absurd (by rw [List.getElem?_eq_getElem hjl, of_decide_eq_true hd]) (hno j h)
        · omega
      subst hji
      refine wpAny_execs_cons (wpAny_Return_some (Ev.name O .i2 _ _ _ (H₈.stays k₉) fun v h₁₀ tk₁₀ k₁₀ r₁₀ => ?_))
      refine q _ h₁₀ tk₁₀ (kpq.trans (Kp.of_stays k₁₀)) (r₁₀.sub fun b o e wb => ⟨fun x => wb (.inr (hW0 b x)), e⟩)
    | false =>
      have hji : j + 1 ≤ i := by
        rcases Nat.lt_or_ge j i with h | h
        · exact h
        · have : j = i := by omega
          subst this
          rw [List.getElem?_eq_getElem hjl] at hi
          cases hi
          simp at hd
      refine wpAny_execs_nil (wpAny_execs_nil ⟨xs.length + 1 - (j + 1), by omega, j + 1, h₉, tk₉, v, _, _, rfl, rfl, hji, ?_, ?_, ?_, H₈.stays k₉, ?_, kpq⟩)
      · have e5 : h₅.get? (I + 1) = _ := he₅
        have : ((j + 1 : Nat) : Int) = (j : Int) + 1 := by push_cast; rfl
        rw [this]
        exact k₉ _ _ (kM8 _ _ (nM _ (.inl rfl)) e5)
      · exact hit₅.at fun o e => k₉ _ _ (kM8 _ _ (nM _ (.inr rfl)) e)
      · exact k₉ _ _ (kp8 _ _ (fun x => x.elim hlE hlI) hlM el')
      · exact ((((rl'.sub S5).stays k₆).sub (SM k₇)).sub (SM k₈)).stays k₉

theorem fn_indexOf {xs : List Str} {t : Str} {i : Nat} (hi : xs[i]? = some t) (hno : ∀ j, j < i → xs[j]? ≠ some t) (hok : ∀ x ∈ xs, PyData.strOk x = true) : Fn prog w 136 1 [.list (boxD xs), .list [.str t]] (.int i) := by
  refine Fn.plain (k := 2) (ns := ["a", "b"]) (rest := ["i", "j"]) rfl rfl rfl (fun vs hv => ?_) (by decide) (by decide) (by decide) (by decide) rfl rfl rfl fun A hb L W₀ R G hL O => ?_
  · match vs, hv with
    | [_, _], _ => rfl
  exact Xs.one (enum_find O G R hi hno hok rfl fun b => .inr)
end
end Mine

-- F9
namespace Mine
open PySem PySem.Spec PySem.Calls PyProof.Rows PySem.W

section
variable {prog : Program} {w : World} {A : Around} {Γ : Cx} {M W : Forb} {σ σ' : List (Option D)} {ω ω' ω'' : Owns} {R : Flow → Heap → Prop}

theorem Xs.iteE {α : Type} {t : Expr} {x y rest : List Stmt} {pos : Pos} {b : Bool} (σf : α → List (Option D)) (ωf : α → Owns) (a : Ts prog w Γ A M W σ ω t b) (p : b = true → Xs prog w Γ A (Hx Γ M W σ ω) M x (Then (fun h => ∃ z, Hx Γ M W (σf z) (ωf z) h) R)) (q : b = false → Xs prog w Γ A (Hx Γ M W σ ω) M y (Then (fun h => ∃ z, Hx Γ M W (σf z) (ωf z) h) R))
    (k : ∀ z, Xs prog w Γ A (Hx Γ M W (σf z) (ωf z)) M rest R) : Xs prog w Γ A (Hx Γ M W σ ω) M (.If t x y pos :: rest) R :=
  Xs.cons (X1.ite a p q) (Xs.ex k)
theorem Xs.doneE {α : Type} {σf : α → List (Option D)} {ωf : α → Owns} (z : α) : Xs prog w Γ A (Hx Γ M W (σf z) (ωf z)) M [] (Then (fun h => ∃ z, Hx Γ M W (σf z) (ωf z) h) R) := Xs.nil fun _ H => ⟨z, H⟩
theorem Xs.assignComp {α : Type} {σ₂ : List (Option D)} {y : Str} {py spos : Pos} {l : Option Addr} {elt iter : Expr} {x : Str} {px : Pos} {ifs : List Expr} {scope : Scope} {pos : Pos} {cl : List (Str × Addr)} {slots : Slots} {rest : List Stmt} (as : List α) (g f : α → D) (p : α → Bool)
    (O : Γ.Ok) (hh : A.handled = none) (it : It prog w Γ A M W σ ω iter (as.map g)) (c : Caps Γ.slots σ slots σ') (V : VarSet Γ.slots σ y l (.list ((as.filter p).map f)) σ₂)
    (elt_ : ∀ C W', (∀ b, W b → W' b) → (compCx Γ scope cl x slots C).Ok → ∀ a ∈ as, Tss prog w (compCx Γ scope cl x slots C) A (fun b => b = C ∨ M b) W' (some (g a) :: σ') ω ifs (p a) ∧
      (p a = true → Ev prog w (compCx Γ scope cl x slots C) A (fun b => b = C ∨ M b) W' (some (g a) :: σ') ω elt (f a)))
    (hlen : as.length ≤ 1000000) (k : Xs prog w Γ A (Hx Γ M W σ₂ ω) M rest R)
    (hsw : swapsWith (.ListComp elt [⟨.Name x px, iter, ifs, 0⟩] scope pos) (some (.Name y py)) spos.line Γ.env = pure true := by rfl)
    (hclos : closureFor scope Γ.env = pure cl := by rfl) (hcell : ∀ y ∈ scope.names, y.2 ≠ .cell := by decide) (hkind : scope.kind = .function := by rfl) (hnames : ∀ y ∈ scope.names, y.2 = .local → scope.names.lookup y.1 = some .local := by decide) (hx : scope.names.lookup x = some .local := by rfl)
    (hdx : (x == ("__debug__" : Str)) = false := by decide) (hcel : ∀ y a, (y, some a) ∈ slots → (relabel scope Γ.env).names.lookup y = some .cell ∧ cl.lookup y = some a := by intro y a h; cases h) (hxn : x ∉ slots.map (·.1) := by decide)
    (hM : ∀ a, l = some a → M a := by intro _ e; cases e)
    (hs : ∀ x, foldedSetIterable iter Γ.env x = pure x := by intro _; rfl) :
    Xs prog w Γ A (Hx Γ M W σ ω) M (.Assign [.Name y py] (.ListComp elt [⟨.Name x px, iter, ifs, 0⟩] scope pos) spos :: rest) R :=
  Xs.cons (P₁ := Hx Γ M W σ₂ ω) (X1.assignComp as g f p O hh it c V hM (fun _ h => h) elt_ hsw hclos hcell hkind hnames hx hdx hcel hxn hlen hs) k

theorem set_call {p pos : Pos} {e : Expr} {es : List Expr} {a : Addr} {ds : List D} {k : Int} {d : D} {s : Shared} {Q : Value → Shared → Prop} {E : Value → Shared → Prop} (G : Gl w Γ.hb) (R : Rm A 1) (hf : Ev prog w Γ A M W σ ω (.Name "setitem" p) (.val (.ref 143)))
    (x : Es prog w Γ A M W σ ω (e :: es) [.val (.ref a), .int k, d]) (S : OwnSet ω a (.list ds) (.list (ds.set k.toNat d)) ω') (h0 : 0 ≤ k) (h1 : k < ds.length) (hz : ds.length ≤ 1000000) (H : Hx Γ M W σ ω s.heap)
    (q : ∀ h' tk', Kp M s.heap h' → Hx Γ M W σ ω' h' → Q .none { s with heap := h', toks := tk' })
    (he : starEach (e :: es) Γ.env = (false, eval e Γ.env) :: starEach es Γ.env := by rfl) (hst : (backTo pos (starEach es Γ.env)).any (·.1) = false := by rfl) :
    wpAny (model prog w) A (eval (.Call (.Name "setitem" p) (e :: es) [] pos) Γ.env) Q E s := by
  rw [eval_CallName]
  refine wpAny_bind (hf s _ E H fun v h₁ tk₁ k₁ r₁ => ?_)
  cases r₁
  refine callWith_K (h₀ := Γ.hb) G.K rfl (x pos _ _ E (H.stays k₁) fun vs h₂ tk₂ k₂ r₂ => ⟨(G.stays ((H.stays k₁).stays k₂).base).K, ?_⟩) he hst
  have H₂ := (H.stays k₁).stays k₂
  have hM := H₂.ownM _ S.mem
  obtain ⟨_, _, v, rfl, ra, rb, rd⟩ := r₂.three_inv
  obtain rfl := ra.val_inv
  obtain ⟨_, rfl⟩ := rb.int_inv
  ·
    refine set_run (s := { s with heap := h₂, toks := tk₂ }) R H₂.base G H₂.live (H₂.MW _ hM) (H₂.new _ hM) (H₂.own _ S.mem) rd h0 h1 hz fun h₃ tk₃ k₃ own₃ => ?_
    exact q h₃ tk₃ ((Kp.of_stays (k₁.trans k₂)).trans fun b o e hm => k₃ b o (fun q => hm (q ▸ hM)) e) (H₂.poke S k₃ own₃)

/-- the exchange of two items by two calls of setitem -/
theorem X1.exchange {p1 p2 p3 p4 p5 p6 p7 p8 p9 pos : Pos} {e1 e2 : Expr} {es1 es2 : List Expr} {body : List Stmt} {c1 c2 : Nat} {a : Addr} {ds : List D} {i j : Int} {d d' : D} (G : Gl w Γ.hb) (R₀ : Rm A 1) (hf : ∀ ω p, Ev prog w Γ A M W σ ω (.Name "setitem" p) (.val (.ref 143)))
    (x : Es prog w Γ A M W σ ω (e1 :: es1) [.val (.ref a), .int i, d]) (y : Es prog w Γ A M W σ ω' (e2 :: es2) [.val (.ref a), .int j, d']) (S : OwnSet ω a (.list ds) (.list (ds.set i.toNat d)) ω') (S' : OwnSet ω' a (.list (ds.set i.toNat d)) (.list ((ds.set i.toNat d).set j.toNat d')) ω'')
    (h0 : 0 ≤ i) (h1 : i < ds.length) (h2 : 0 ≤ j) (h3 : j < ds.length) (hz : ds.length ≤ 1000000) (k : ∀ hp, Hx Γ M W σ ω'' hp → R .next hp)
    (he : starEach (e1 :: es1) Γ.env = (false, eval e1 Γ.env) :: starEach es1 Γ.env := by rfl) (hst : (backTo p2 (starEach es1 Γ.env)).any (·.1) = false := by rfl)
    (he' : starEach (e2 :: es2) Γ.env = (false, eval e2 Γ.env) :: starEach es2 Γ.env := by rfl) (hst' : (backTo p4 (starEach es2 Γ.env)).any (·.1) = false := by rfl)
    (hl : starEach [.Call (.Name "setitem" p1) (e1 :: es1) [] p2, .Call (.Name "setitem" p3) (e2 :: es2) [] p4] Γ.env = (false, eval (.Call (.Name "setitem" p1) (e1 :: es1) [] p2) Γ.env) :: starEach [.Call (.Name "setitem" p3) (e2 :: es2) [] p4] Γ.env := by rfl)
    (hl' : starEach [.Call (.Name "setitem" p3) (e2 :: es2) [] p4] Γ.env = (false, eval (.Call (.Name "setitem" p3) (e2 :: es2) [] p4) Γ.env) :: starEach [] Γ.env := by rfl)
    (hm : behindInMarks .NotEq (.List [.Constant .none c1 p6, .Constant .none c2 p7] p8) = false := by with_unfolding_all rfl) :
    X1 prog w Γ A (Hx Γ M W σ ω) M (.If (.Compare (.List [.Call (.Name "setitem" p1) (e1 :: es1) [] p2, .Call (.Name "setitem" p3) (e2 :: es2) [] p4] p5) [.NotEq] [.List [.Constant .none c1 p6, .Constant .none c2 p7] p8] p9) body [] pos) R := by
  intro s Q E H q
  have hu : A.units + 64 < cLine := by have := R₀.uni; omega
  refine wpAny_If (wpAny_isTrue_Compare1 (wpAny_List (wpAny_items_cons (set_call G R₀ (hf _ _) x S h0 h1 hz H (fun h₁ tk₁ k₁ H₁ => wpAny_items_cons (set_call (s := { s with heap := h₁, toks := tk₁ }) G R₀ (hf _ _) y S' h2 (by rw [List.length_set]; exact h3) (by rw [List.length_set]; exact hz) H₁ (fun h₂ tk₂ k₂ H₂ => wpAny_items_nil ?_) he' hst') hl') he hst) hl)) hm)
  refine ⟨by rw [sizeLine_eq]; decide, ?_⟩
  have hf₂ := get?_size h₂
  have k₃ : Stays h₂ (h₂.push { cls := .type "list", data := .seq [Value.none, Value.none].toArray }) := Stays.push _ _
  have H₃ := H₂.stays k₃
  have r₃ : Rd W (h₂.push { cls := .type "list", data := .seq [Value.none, Value.none].toArray }) (.list [.none, .none]) (.ref h₂.objs.size) := .list (n := 0) (Heap.get?_push_size _ rfl) (H₂.fresh hf₂) (.cons .none (.cons .none .nil))
  refine (Ev.list (Es.cons Ev.none (Es.cons Ev.none Es.nil)) : Ev prog w Γ A M W σ ω'' _ (.list [.none, .none])) _ _ _ H₃ fun u h₄ tk₄ k₄ r₄ => ?_
  have ceq : PyData.eqv (.list [.none, .none]) (.list [.none, .none]) = true := rfl
  refine Cmp.neD (A := A) (prog := prog) (w := w) (.list (.cons .none (.cons .none .nil))) (.list (.cons .none (.cons .none .nil))) rfl rfl hu W _ _ _ _ _ (H₃.stays k₄).live (r₃.stays k₄) r₄ fun h₅ tk₅ k₅ => wpAny_truthy_bool ?_
  rw [ceq]
  refine wpAny_execs_nil (q _ h₅ tk₅ (((k₁.trans k₂).trans (Kp.of_stays (k₃.trans k₄))).trans (Kp.of_stays k₅)) (k _ ((H₃.stays k₄).stays k₅)))
end
end Mine

-- F10
namespace Mine
open PySem PySem.Spec PySem.Calls PyProof.Rows PySem.W

noncomputable def cmpN (f : Bool) (a b : Nat) : Bool := if f then decide (b < a) else decide (a < b)
noncomputable def spot1 (rs : List Nat) (l : Nat) : Nat := if l < 3 then l else rs.idxOf (l - 3)
noncomputable def spot2 (rs : List Nat) (l : Nat) : Nat := if l < 3 then l + 1 else rs.idxOf (l - 2)
noncomputable def saysR (f : Bool) (rs : List Nat) (l : Nat) : Bool := if l < 3 then cmpN f (rs.getD l 0) (rs.getD (l + 1) 0) else cmpN f (rs.idxOf (l - 3)) (rs.idxOf (l - 2))
noncomputable def stepR (f : Bool) (rs : List Nat) (l : Nat) : List Nat := if saysR f rs l then (rs.set (spot1 rs l) (rs.getD (spot2 rs l) 0)).set (spot2 rs l) (rs.getD (spot1 rs l) 0) else rs
noncomputable def runR (f : Bool) (rs : List Nat) (ls : List Nat) : List Nat := ls.foldl (stepR f) rs

noncomputable def perms4 : List (List Nat) := [[0,1,2,3],[0,1,3,2],[0,2,1,3],[0,2,3,1],[0,3,1,2],[0,3,2,1],[1,0,2,3],[1,0,3,2],[1,2,0,3],[1,2,3,0],[1,3,0,2],[1,3,2,0],[2,0,1,3],[2,0,3,1],[2,1,0,3],[2,1,3,0],[2,3,0,1],[2,3,1,0],[3,0,1,2],[3,0,2,1],[3,1,0,2],[3,1,2,0],[3,2,0,1],[3,2,1,0]]
theorem perm_len : ∀ rs ∈ perms4, rs.length = 4 := by decide
theorem perm_lt : ∀ rs ∈ perms4, ∀ x ∈ rs, x < 4 := by decide
theorem perm_step : ∀ f : Bool, ∀ rs ∈ perms4, ∀ l : Nat, l < 6 → stepR f rs l ∈ perms4 := by decide +kernel
theorem perm_spot : ∀ rs ∈ perms4, ∀ l : Nat, l < 6 → spot1 rs l < 4 ∧ spot2 rs l < 4 := by decide +kernel
theorem perm_idx : ∀ rs ∈ perms4, ∀ x : Nat, x < 4 → (rs ++ rs)[rs.idxOf x]? = some x ∧ ∀ j : Nat, j < rs.idxOf x → (rs ++ rs)[j]? ≠ some x := by decide +kernel
theorem run_snoc (f : Bool) (rs ls : List Nat) (l : Nat) : runR f rs (ls ++ [l]) = stepR f (runR f rs ls) l := by unfold runR; rw [List.foldl_append]; rfl
theorem perm_run (f : Bool) : ∀ (ls : List Nat) (rs : List Nat), rs ∈ perms4 → (∀ l ∈ ls, l < 6) → runR f rs ls ∈ perms4
  | [], rs, h, _ => h
  | l :: ls, rs, h, hl => perm_run f ls _ (perm_step f rs h l (hl l (.head _))) fun y hy => hl y (.tail _ hy)

theorem op_inj : ∀ i : Nat, i < 48 → ∀ j : Nat, j < 48 → op i = op j → i = j := by decide +kernel
theorem op_ok : ∀ i : Nat, i < 48 → PyData.strOk (op i) = true := by decide +kernel

noncomputable def natD (l : Nat) : D := .int (l : Int)
/-- the address of lt, of gt -/
noncomputable def tst (f : Bool) : Addr := if f then 101 else 94
theorem tst_keep (f : Bool) (p : Params) : keepIn (Kf p) (.ref (tst f)) = true := by cases f <;> rfl

theorem at_map {c0 : Nat} {rs : List Nat} {k : Nat} (hk : k < rs.length) : (rs.map (opD c0))[k]? = some (.str (op (c0 + rs.getD k 0))) := by
  simp [opD, List.getD, hk]
theorem getD_lt {rs : List Nat} (h : rs ∈ perms4) {k : Nat} (hk : k < 4) : rs.getD k 0 < 4 := by
  have hl := perm_len rs h
  have : rs.getD k 0 = rs[k]'(by omega) := by simp [List.getD, hl, hk]
  rw [this]
  exact perm_lt rs h _ (List.getElem_mem _)

section
variable {prog : Program} {w : World}
theorem fn_cmp (f : Bool) {a b : Int} : Fn prog w (tst f) 1 [.int a, .int b] (.bool (if f then decide (b < a) else decide (a < b))) := by
  cases f
  · exact fn_lt
  · exact fn_gt

noncomputable abbrev stC (a : Addr) (ls : List Nat) (c0 : Nat) (f : Bool) (r : List (Option D)) : List (Option D) := some (.val (.ref a)) :: some (.list (ls.map natD)) :: some (.list ((List.range 4).map (opD c0))) :: some (.val (.ref (tst f))) :: r

theorem changed_run {A : Around} {W : Forb} {hb : Heap} {s : Shared} {a : Addr} {rs ls : List Nat} {c0 : Nat} {f : Bool} {lv fv : Value} {Q : Value → Shared → Prop} {E : Value → Shared → Prop} (R : Rm A 3) (kb : Stays hb s.heap) (G : Gl w hb) (hW : ∀ a, W a → ∃ o, s.heap.get? a = some o) (hWa : W a) (hba : hb.get? a = none)
    (own : OwnAt W s.heap a (.list (rs.map (opD c0)))) (rl : Rd W s.heap (.list (ls.map natD)) lv) (rf : Rd W s.heap (.list ((List.range 4).map (opD c0))) fv) (hc : c0 < 45) (hr : rs ∈ perms4) (hl : ∀ l ∈ ls, l < 6) (hz : ls.length ≤ 1000)
    (q : ∀ h' tk', (∀ b o, b ≠ a → s.heap.get? b = some o → h'.get? b = some o) → OwnAt W h' a (.list ((runR f rs ls).map (opD c0))) → Q (.ref a) { s with heap := h', toks := tk' }) :
    wpAny (model prog w) A (call (.ref 158) [.ref a, lv, fv, .ref (tst f)]) Q E s := by
  refine wpAny_call (frame_run (n := 2) (k := 6) (M₀ := fun b => b = a) (W := W) (hb := hb) (ω := [(a, .list (rs.map (opD c0)))]) (args := [.val (.ref a), .list (ls.map natD), .list ((List.range 4).map (opD c0)), .val (.ref (tst f))]) (ns := ["row", "letters", "four", "test"]) (rest := ["letter", "one", "other", "says", "boxes", "thing"])
    (Rb := fun L fl h => fl = .ret (.ref a) ∧ OwnAt (fun b => b = L ∨ W b) h a (.list ((runR f rs ls).map (opD c0))))
    R kb G hW (fun b e => e ▸ hWa) (fun b e => e ▸ hba) (fun p hp => by rw [List.mem_singleton.mp hp]; exact own) (fun p hp => by rw [List.mem_singleton.mp hp]) (List.pairwise_singleton _ _)
    (.cons (.val _) (.cons rl (.cons rf (.cons (.val _) .nil)))) (fun A L R nL nLb O => ?_) (fun L fl h' tk' kp nL rr => ?_) rfl rfl rfl (fun vs hv => ?_) (by decide) (by decide) (by decide) (by decide) rfl rfl rfl)
  rotate_left
  · obtain ⟨rfl, vs, n, e, r⟩ := rr
    exact q h' tk' (fun b o hb e => kp b o e hb) ⟨vs, n, e, r.sub fun b o e wb => ⟨fun x => wb (.inr x), e⟩⟩
  · match vs, hv with
    | [_, _, _, _], _ => rfl
  refine Xs.forIn R.hand (It.list (Ev.name O .i1)) (fun j σ ω => (∃ e1 e2 e3 e4 e5 e6, σ = stC a ls c0 f [e1, e2, e3, e4, e5, e6]) ∧ ω = [(a, .list ((runR f rs (ls.take j)).map (opD c0)))]) ⟨⟨_, _, _, _, _, _, rfl⟩, rfl⟩ (fun W' hW' i d σ ω hd hJ => ?_) (fun σ ω hJ => ?_)
  · obtain ⟨⟨e1, e2, e3, e4, e5, e6, rfl⟩, rfl⟩ := hJ
    rw [List.getElem?_map] at hd
    obtain ⟨l, el, rfl⟩ := Option.map_eq_some_iff.mp hd
    have hl6 := hl l (List.mem_of_getElem? el)
    have et : ls.take (i + 1) = ls.take i ++ [l] := by rw [List.take_add_one, el]; rfl
    have hrj := perm_run f (ls.take i) rs hr fun y hy => hl y (List.mem_of_mem_take hy)
    generalize hrs : runR f rs (ls.take i) = r at hrj
    have hlen := perm_len r hrj
    obtain ⟨hs1, hs2⟩ := perm_spot r hrj l hl6
    have hv1 := getD_lt hrj hs1
    have hv2 := getD_lt hrj hs2
    have hdl : (r.map (opD c0)).length = 4 := by rw [List.length_map, hlen]
    refine ⟨_, Tg.name O .i4 (fun _ e => nomatch e), ?_⟩
    have G' := G
    have hcmp : ∀ x y : Nat, (if f = true then decide ((y : Int) < x) else decide ((x : Int) < y)) = cmpN f x y := fun x y => by unfold cmpN; cases f <;> simp
    refine Xs.iteE (b := decide ((l : Int) < 3)) (fun e5 => stC a ls c0 f [some (natD l), some (natD (spot1 r l)), some (natD (spot2 r l)), some (.bool (saysR f r l)), e5, e6]) (fun _ => [(a, .list (r.map (opD c0)))]) (Ts.cmp (Ev.name O .i4) Ev.int Cmp.lt) (fun h3 => ?_) (fun h3 => ?_) (fun e5 => ?_)
    · have h3 : l < 3 := by have := of_decide_eq_true h3; omega
      have s1 : spot1 r l = l := by unfold spot1; rw [if_pos h3]
      have s2 : spot2 r l = l + 1 := by unfold spot2; rw [if_pos h3]
      rw [s1] at hs1 hv1
      rw [s2] at hs2 hv2
      refine Xs.assign O (Ev.name O .i4) .i5 ?_
      refine Xs.assign (d := natD (l + 1)) O (Ev.bin (Ev.name O .i4) Ev.int Bin.add) .i6 ?_
      refine Xs.assign (d := .bool (saysR f r l)) O ?_ .i7 ?_
      · have e : saysR f r l = (if f = true then decide ((((c0 + r.getD (l + 1) 0 : Nat) : Int) + 7) < ((c0 + r.getD l 0 : Nat) : Int) + 7) else decide ((((c0 + r.getD l 0 : Nat) : Int) + 7) < ((c0 + r.getD (l + 1) 0 : Nat) : Int) + 7)) := by
          unfold saysR cmpN
          rw [if_pos h3]
          cases f <;> simp <;> omega
        rw [e]
        refine Ev.callFn G (n := 1) (R.le (by omega)) (Ev.name O .i3) (tst_keep f _) (Es.cons (Ev.tok G (Ev.glob G O rfl) ?_ (by omega)) (Es.cons (Ev.tok G (Ev.glob G O rfl) ?_ (by omega)) Es.nil)) (fn_cmp f)
        · exact Ev.borrow (ω' := []) O (.head _) .i0 .i0 (List.nil_sublist _) (fun p hp => nomatch hp) rfl (Ev.callFn G (n := 1) (R.le (by omega)) (Ev.glob G O rfl) rfl (Es.cons (Ev.name O .i0) (Es.cons (Ev.name O .i5) Es.nil)) (fn_getitem (by omega) (by rw [Int.toNat_natCast]; exact at_map (by omega)) (by omega)))
        · exact Ev.borrow (ω' := []) O (.head _) .i0 .i0 (List.nil_sublist _) (fun p hp => nomatch hp) rfl (Ev.callFn G (n := 1) (R.le (by omega)) (Ev.glob G O rfl) rfl (Es.cons (Ev.name O .i0) (Es.cons (Ev.name O .i6) Es.nil)) (fn_getitem (by omega) (by rw [Int.toNat_natCast]; exact at_map (by omega)) (by omega)))
      · exact Xs.nil fun hp H => ⟨e5, by rw [s1, s2]; exact H⟩
    · have h3 : ¬ l < 3 := by have := of_decide_eq_false h3; omega
      have s1 : spot1 r l = r.idxOf (l - 3) := by unfold spot1; rw [if_neg h3]
      have s2 : spot2 r l = r.idxOf (l - 2) := by unfold spot2; rw [if_neg h3]
      have hbox : (((r ++ r).filter fun _ => true).map fun x => D.list [opD c0 x]) = boxD ((r ++ r).map fun x => op (c0 + x)) := by
        rw [List.filter_eq_self.mpr fun _ _ => rfl]; unfold boxD; rw [List.map_map]; rfl
      have hrr : ∀ x ∈ r ++ r, x < 4 := fun x hx => (List.mem_append.mp hx).elim (perm_lt r hrj x) (perm_lt r hrj x)
      have hidx : ∀ x : Nat, x < 4 → ∀ A' : Around, Fn prog w 136 1 [.list (boxD ((r ++ r).map fun x => op (c0 + x))), .list [.str (op (c0 + x))]] (natD (r.idxOf x)) := fun x hx _ => by
        obtain ⟨i1, i2⟩ := perm_idx r hrj x hx
        refine fn_indexOf ?_ (fun j hj e => ?_) fun y hy => ?_
        · rw [List.getElem?_map, i1]; rfl
        · rw [List.getElem?_map] at e
          obtain ⟨z, e1, e2⟩ := Option.map_eq_some_iff.mp e
          have hz4 := hrr z (List.mem_of_getElem? e1)
          have := op_inj _ (by omega) _ (by omega) e2
          exact i2 j hj (by rw [e1]; congr 1; omega)
        · obtain ⟨z, hz, rfl⟩ := List.mem_map.mp hy
          exact op_ok _ (by have := hrr z hz; omega)
      refine Xs.assignComp (r ++ r) (opD c0) (fun x => D.list [opD c0 x]) (fun _ => true) O R.hand (It.list ?_) .done .i8 (fun C W'' hW'' O' x hx => ⟨Tss.nil, fun _ => Ev.list (Es.cons (Ev.name O' .i0) Es.nil)⟩) (by rw [List.length_append, hlen]; decide) ?_
      · have e : (r ++ r).map (opD c0) = r.map (opD c0) ++ r.map (opD c0) := List.map_append
        rw [e]
        refine EvF.ev (EvF.addL (d := .val (.ref a)) (e := .val (.ref a)) (Ev.name O .i0) (.inr ⟨a, rfl, ?_⟩) (Ev.name O .i0) (.inr ⟨a, rfl, ?_⟩) (by rw [hdl]; decide))
        · exact .head _
        · exact .head _
      rw [hbox]
      have hfour : ∀ x : Nat, x < 4 → ((List.range 4).map (opD c0))[((x : Nat) : Int).toNat]? = some (.str (op (c0 + x))) := fun x hx => by
        rw [Int.toNat_natCast, List.getElem?_map, List.getElem?_range hx]; rfl
      have e3 : ((l : Int) - 3) = ((l - 3 : Nat) : Int) := by omega
      have e4 : ((l : Int) - 2) = ((l - 2 : Nat) : Int) := by omega
      refine Xs.assign O (Ev.callFn G (n := 1) (R.le (by omega)) (Ev.glob G O rfl) rfl (Es.cons (Ev.name O .i8) (Es.cons (Ev.list (Es.cons (Ev.item (k := ((l - 3 : Nat) : Int)) (Ev.name O .i2) (.inl rfl) ?_ (by omega) (hfour (l - 3) (by omega))) Es.nil)) Es.nil)) (hidx (l - 3) (by omega) A)) .i5 ?_
      · rw [← e3]; exact Ev.bin (Ev.name O .i4) Ev.int Bin.sub
      refine Xs.assign O (Ev.callFn G (n := 1) (R.le (by omega)) (Ev.glob G O rfl) rfl (Es.cons (Ev.name O .i8) (Es.cons (Ev.list (Es.cons (Ev.item (k := ((l - 2 : Nat) : Int)) (Ev.name O .i2) (.inl rfl) ?_ (by omega) (hfour (l - 2) (by omega))) Es.nil)) Es.nil)) (hidx (l - 2) (by omega) A)) .i6 ?_
      · rw [← e4]; exact Ev.bin (Ev.name O .i4) Ev.int Bin.sub
      refine Xs.assign (d := .bool (saysR f r l)) O ?_ .i7 ?_
      · have e : saysR f r l = (if f = true then decide (((r.idxOf (l - 2) : Nat) : Int) < (r.idxOf (l - 3) : Nat)) else decide (((r.idxOf (l - 3) : Nat) : Int) < (r.idxOf (l - 2) : Nat))) := by
          unfold saysR
          rw [if_neg h3, hcmp]
        rw [e]
        exact Ev.callFn G (n := 1) (R.le (by omega)) (Ev.name O .i3) (tst_keep f _) (Es.cons (Ev.name O .i5) (Es.cons (Ev.name O .i6) Es.nil)) (fn_cmp f)
      · exact Xs.nil fun hp H => ⟨_, by rw [s1, s2]; exact H⟩
    · rw [et]
      have hstep : runR f rs (ls.take i ++ [l]) = stepR f r l := by rw [run_snoc, hrs]
      refine Xs.one (X1.ite (b := saysR f r l == true) (Ts.cmp (Ev.name O .i7) Ev.bool Cmp.isB) (fun hs => ?_) (fun hs => ?_))
      · have hs : saysR f r l = true := by simpa using hs
        have hst : stepR f r l = (r.set (spot1 r l) (r.getD (spot2 r l) 0)).set (spot2 r l) (r.getD (spot1 r l) 0) := by unfold stepR; rw [if_pos hs]
        refine Xs.assign (d := .str (op (c0 + r.getD (spot1 r l) 0))) O (Ev.borrow (ω' := []) O (.head _) .i0 .i0 (List.nil_sublist _) (fun p hp => nomatch hp) rfl (Ev.callFn G (n := 1) (R.le (by omega)) (Ev.glob G O rfl) rfl (Es.cons (Ev.name O .i0) (Es.cons (Ev.name O .i5) Es.nil)) (fn_getitem (by omega) (by rw [Int.toNat_natCast]; exact at_map (by omega)) (by omega)))) .i9 ?_
        refine Xs.one (X1.exchange (i := ((spot1 r l : Nat) : Int)) (j := ((spot2 r l : Nat) : Int)) (d := .str (op (c0 + r.getD (spot2 r l) 0))) (d' := .str (op (c0 + r.getD (spot1 r l) 0))) G (R.le (by omega)) (fun ω p => Ev.glob G O rfl)
          (Es.cons (Ev.name O .i0) (Es.cons (Ev.name O .i5) (Es.cons (Ev.borrow (ω' := []) O (.head _) .i0 .i0 (List.nil_sublist _) (fun p hp => nomatch hp) rfl (Ev.callFn G (n := 1) (R.le (by omega)) (Ev.glob G O rfl) rfl (Es.cons (Ev.name O .i0) (Es.cons (Ev.name O .i6) Es.nil)) (fn_getitem (by omega) (by rw [Int.toNat_natCast]; exact at_map (by omega)) (by omega)))) Es.nil)))
          (Es.cons (Ev.name O .i0) (Es.cons (Ev.name O .i6) (Es.cons (Ev.name O .i9) Es.nil))) .head .head (by omega) (by rw [hdl]; omega) (by omega) (by rw [hdl]; omega) (by rw [hdl]; decide) (fun hp H => ⟨_, _, ⟨⟨_, _, _, _, _, _, rfl⟩, ?_⟩, H⟩))
        rw [hstep, hst, Int.toNat_natCast, Int.toNat_natCast, List.map_set, List.map_set]
        rfl
      · have hs : saysR f r l = false := by simpa using hs
        have hst : stepR f r l = r := by unfold stepR; rw [if_neg (by rw [hs]; decide)]
        exact Xs.nil fun hp H => ⟨_, _, ⟨⟨_, _, _, _, _, _, rfl⟩, by rw [hstep, hst]⟩, H⟩
  · obtain ⟨⟨e1, e2, e3, e4, e5, e6, rfl⟩, rfl⟩ := hJ
    rw [List.length_map, List.take_length]
    refine Xs.one fun s Q E H q => wpAny_Return_some ((Ev.name O .i0 : Ev prog w _ A _ _ _ _ _ _) s _ _ H fun v h' tk' k r => ?_)
    cases r
    exact q _ h' tk' (Kp.of_stays k) ⟨rfl, (H.stays k).own _ (.head _)⟩
end
end Mine

-- L20
namespace Mine
open PySem PySem.Spec PySem.Calls PyProof.Rows PySem.W

theorem bindL_at {kindOf : Str → Option NameKind} : ∀ (ns : List Str) (vs : List Value) (m : Str → Option Value), ns.Nodup → (∀ x ∈ ns, kindOf x = some .local) → ∀ (i : Nat) (x : Str) (v : Value), ns[i]? = some x → vs[i]? = some v → bindL kindOf (ns.zip vs) m x = some v
  | [], _, _, _, _, _, _, _, e, _ => by simp at e
  | _ :: _, [], _, _, _, _, _, _, _, e => by simp at e
  | n :: ns, u :: vs, m, nd, hk, 0, x, v, e, e' => by
    simp at e e'
    subst e; subst e'
    rw [List.nodup_cons] at nd
    have keep : ∀ (ns : List Str) (vs : List Value) (m : Str → Option Value), n ∉ ns → m n = some u → bindL kindOf (ns.zip vs) m n = some u := by
      intro ns
      induction ns with
      | nil => intro vs m _ h; exact h
      | cons k ns ih =>
        intro vs m hn h
        cases vs with
        | nil => exact h
        | cons w vs =>
          rw [List.zip_cons_cons]
          unfold bindL
          refine ih vs _ (fun x => hn (.tail _ x)) ?_
          split
          · show (if n = k then some w else m n) = some u
            have hne : n ≠ k := fun e => hn (by rw [e]; exact .head _)
            rw [if_neg hne]; exact h
          · exact h
    rw [List.zip_cons_cons]
    unfold bindL
    refine keep ns vs _ nd.1 ?_
    rw [if_pos (hk n (.head _))]
    simp
  | n :: ns, u :: vs, m, nd, hk, i + 1, x, v, e, e' => by
    rw [List.nodup_cons] at nd
    rw [List.zip_cons_cons]
    unfold bindL
    exact bindL_at ns vs _ nd.2 (fun y hy => hk y (.tail _ hy)) i x v (by simpa using e) (by simpa using e')

section
variable {prog : Program} {w : World}

/-- a def with one cell, none of its arguments -/
theorem Fn.cell {f : Addr} {name qual : Str} {params : Arguments} {body : List Stmt} {scope : Scope} {dV kV doc pm cdv ct oc : Value} {an od : Option Addr} {osl : Array (Option Value)} {n k : Nat} {args : List D} {d : D} {ns : List Str} {rest : List Str} {cx : Str}
    (ho : (Kf w.params).lookup f = some ⟨oc, od, .func (fnOf name qual params body scope dV kV doc pm an cdv ct), osl⟩) (hcd : codeIn (Kf w.params) cdv qual = true)
    (hlen : ns.length = args.length)
    (hbind : ∀ vs : List Value, vs.length = ns.length → bindArgs (fnOf name qual params body scope dV kV doc pm an cdv ct) ⟨vs, []⟩ = pure (ns.zip vs))
    (hkind : ∀ x ∈ ns ++ rest, scope.names.lookup x = some .local) (hnd : (ns ++ rest).Nodup) (hdb : ∀ x ∈ ns ++ rest, (x == ("__debug__" : Str)) = false)
    (hcs : ∀ n, cellsFrom n scope.names [] = [(cx, n)]) (hcx : scope.names.lookup cx = some .cell) (hcn : cx ∉ ns ++ rest) (hcd' : (cx == ("__debug__" : Str)) = false) (hco : scope.isCoroutine = false) (hgen : scope.isGenerator = false) (hk : scope.kind = .function)
    (h : ∀ (A : Around) (hb : Heap) (L : Addr) (W : Forb), Rm A n → Gl w hb →
      (⟨envOfC qual scope L f cdv, (ns ++ rest).map (fun x => (x, none)) ++ [(cx, some (L + 1))], hb⟩ : Cx).Ok →
      Xs prog w ⟨envOfC qual scope L f cdv, (ns ++ rest).map (fun x => (x, none)) ++ [(cx, some (L + 1))], hb⟩ A
        (Hx ⟨envOfC qual scope L f cdv, (ns ++ rest).map (fun x => (x, none)) ++ [(cx, some (L + 1))], hb⟩ (fun a => a = L ∨ a = L + 1) (fun a => (a = L ∨ a = L + 1) ∨ W a) (args.map some ++ List.replicate k none) []) (fun a => a = L ∨ a = L + 1) body (RetIs W d)) :
    Fn prog w f (n + 1) args d := by
  intro A W s vs Q E R G hW r q
  have hd : A.depth < recursionLimit := by have := R.dep; omega
  have hvl := r.length
  have nsnd : ns.Nodup := (List.nodup_append.mp hnd).1
  refine wpAny_call (codeAny_call_function hd (G.K _ _ ho) rfl hco hgen rfl (codeRec_of G.K hcd) (BindsTo.of_eq (hbind vs (by rw [hvl, hlen])) _ _ _ _ ?_))
  refine wpAny_newFunctionEnv_cells hk (fun x hx => .inl (hkind _ (List.mem_append_left _ (List.of_mem_zip (a := x.1) (b := x.2) hx).1))) fun env' he s' X => ?_
  subst he
  dsimp only at X ⊢
  rw [hcs] at X
  obtain ⟨h₀, tk, rfl, _⟩ := X.done
  have hk₀ : Stays s.heap h₀ := X.toInCall.keep
  have hns := X.toInCall.ns
  have hcell := X.cell cx (s.heap.objs.size + 1) (by simp [newEnv])
  have hL : s.heap.get? s.heap.objs.size = none := get?_size _
  have hC : s.heap.get? (s.heap.objs.size + 1) = none := by
    cases e : s.heap.get? (s.heap.objs.size + 1) with
    | none => rfl
    | some o => exact absurd (Heap.lt_size e) (Nat.not_lt.mpr (Nat.le_succ _))
  refine ⟨(G.stays hk₀).lim, codeAny_func ?_⟩
  have ok : (⟨envOfC qual scope s.heap.objs.size f cdv, (ns ++ rest).map (fun x => (x, none)) ++ [(cx, some (s.heap.objs.size + 1))], s.heap⟩ : Cx).Ok := by
    refine ⟨hk, rfl, rfl, fun x hx => ?_, fun x a hx => ?_, ?_, fun p hp => ?_, ?_, fun x a hx => ?_⟩
    · rcases List.mem_append.mp hx with hx | hx
      · obtain ⟨y, hy, e⟩ := List.mem_map.mp hx
        cases e
        exact hkind x hy
      · cases List.mem_singleton.mp hx
    · rcases List.mem_append.mp hx with hx | hx
      · obtain ⟨y, hy, e⟩ := List.mem_map.mp hx
        cases e
      · cases List.mem_singleton.mp hx
        refine ⟨hcx, ?_⟩
        show (cellsFrom (s.heap.objs.size + 1) scope.names []).lookup cx = _
        rw [hcs]; simp
    · rw [List.map_append, List.map_map]
      have : ((fun p : Str × Option Addr => p.1) ∘ fun x : Str => (x, (none : Option Addr))) = id := rfl
      rw [this, List.map_id]
      refine List.nodup_append.mpr ⟨hnd, by simp, fun a ha b hb e => hcn ?_⟩
      have hb' : b = cx := by simpa using hb
      rw [← hb', ← e]; exact ha
    · rcases List.mem_append.mp hp with hp | hp
      · obtain ⟨y, hy, e⟩ := List.mem_map.mp hp
        cases e
        exact hdb y hy
      · cases List.mem_singleton.mp hp; exact hcd'
    · rw [List.pairwise_append]
      refine ⟨?_, List.pairwise_singleton _ _, fun p hp q hq a e => ?_⟩
      · rw [List.pairwise_map]
        exact List.Pairwise.imp (fun _ a e => nomatch e) hnd
      · obtain ⟨y, hy, e'⟩ := List.mem_map.mp hp
        cases e'; cases e
    · rcases List.mem_append.mp hx with hx | hx
      · obtain ⟨y, hy, e⟩ := List.mem_map.mp hx; cases e
      · cases List.mem_singleton.mp hx; exact Nat.succ_ne_self _
  have sub : Sub W s.heap (fun a => (a = s.heap.objs.size ∨ a = s.heap.objs.size + 1) ∨ W a) h₀ := fun b o e wb => ⟨fun x => x.elim (fun x => x.elim (fun x => by rw [x, hL] at e; cases e) (fun x => by rw [x, hC] at e; cases e)) wb, hk₀ b o e⟩
  have H : Hx ⟨envOfC qual scope s.heap.objs.size f cdv, (ns ++ rest).map (fun x => (x, none)) ++ [(cx, some (s.heap.objs.size + 1))], s.heap⟩ (fun a => a = s.heap.objs.size ∨ a = s.heap.objs.size + 1) (fun a => (a = s.heap.objs.size ∨ a = s.heap.objs.size + 1) ∨ W a) (args.map some ++ List.replicate k none) [] h₀ := by
    refine ⟨hk₀, fun a e => e.elim (fun e => e ▸ hL) fun e => e ▸ hC, ⟨_, hns, ?_⟩, fun x a hx => ?_, fun p hp => (nomatch hp), fun p hp => (nomatch hp), fun p hp => (nomatch hp), fun p hp => (nomatch hp), .nil, .inl rfl, fun x a hx => ?_, fun a e => .inl e, fun a e => ?_⟩
    · show Vars _ _ _ ((ns ++ rest).map (fun x => (x, none)) ++ [(cx, some (s.heap.objs.size + 1))]) _
      rw [List.map_append, List.append_assoc]
      exact vars_args ns args vs _ k (r.sub sub) hlen fun i x v e e' => bindL_at ns vs _ nsnd (fun y hy => hkind y (List.mem_append_left _ hy)) i x v e e'
    · rcases List.mem_append.mp hx with hx | hx
      · obtain ⟨y, hy, e⟩ := List.mem_map.mp hx; cases e
      · cases List.mem_singleton.mp hx; exact ⟨_, hcell⟩
    · rcases List.mem_append.mp hx with hx | hx
      · obtain ⟨y, hy, e⟩ := List.mem_map.mp hx; cases e
      · cases List.mem_singleton.mp hx; exact .inl (.inr rfl)
    · rcases e with (rfl | rfl) | e
      · obtain ⟨o, _, _, e, _⟩ := hns; exact ⟨o, e⟩
      · obtain ⟨o, e, _⟩ := hcell; exact ⟨o, e⟩
      · obtain ⟨o, e⟩ := hW a e; exact ⟨o, hk₀ _ _ e⟩
  have env_eq : newEnv scope s.heap.objs.size mainGlobals (cellsFrom (s.heap.objs.size + 1) scope.names []) (qual ++ ".<locals>.") (some f) cdv none builtinsNs = envOfC qual scope s.heap.objs.size f cdv := rfl
  refine h _ s.heap s.heap.objs.size W R.deeper G ok _ _ _ H fun fl h' tk' kp rr => ?_
  have st : Stays s.heap h' := fun b o e => kp b o (hk₀ b o e) fun x => x.elim (fun x => by rw [x, hL] at e; cases e) fun x => by rw [x, hC] at e; cases e
  cases fl with
  | ret v => exact q v h' tk' st (rr.sub fun b o e wb => ⟨fun x => wb x, e⟩)
  | next => exact q .none h' tk' st (by have e : d = .none := rr; rw [e]; exact .none)
  | brk => exact rr.elim
  | cont => exact rr.elim
end
end Mine

-- L21
namespace Mine
open PySem PySem.Spec PySem.Calls PyProof.Rows PySem.W

/-- the tree of questions, answered -/
noncomputable def ans {α : Type} (lt : Nat → Nat → Bool) : KasT α → α
  | .ret a => a
  | .ask i j k => ans lt (k (lt i j))
theorem ans_bind {α β : Type} {lt : Nat → Nat → Bool} {f : α → KasT β} : ∀ (t : KasT α), ans lt (t.bind f) = ans lt (f (ans lt t))
  | .ret _ => rfl
  | .ask i j k => ans_bind (k (lt i j))

theorem kas_ans {α : Type} {cmp : Nat → Nat → (Bool → Shared → Prop) → Shared → Prop} {lt : Nat → Nat → Bool} {Inv : Shared → Prop} (N : Nat) (hc : ∀ i j, i < N → j < N → ∀ (s : Shared) (C : Bool → Shared → Prop), Inv s → (∀ s', Inv s' → C (lt i j) s') → cmp i j C s) :
    True := trivial

section
variable (lt : Nat → Nat → Bool)
/-- the first n stand in order -/
noncomputable def Asc (p : Array Nat) (n : Nat) : Prop := ∀ i j, i < j → j < n → lt (p.getD i 0) (p.getD j 0) = true
/-- a strict order on the numbers below N -/
structure Ord (N : Nat) : Prop where
  trans : ∀ a b c, lt a b = true → lt b c = true → lt a c = true
  tot : ∀ a b, a < N → b < N → a ≠ b → lt a b = true ∨ lt b a = true
  irr : ∀ a, lt a a = false
variable {lt}
theorem Ord.asym {N : Nat} (O : Ord lt N) {a b : Nat} (h : lt a b = true) : lt b a = false := by
  cases q : lt b a with
  | false => rfl
  | true => have := O.trans _ _ _ h q; rw [O.irr] at this; cases this

theorem asc_ok {N : Nat} (O : Ord lt N) {p : Array Nat} (hp : ∀ i, i < p.size → p.getD i 0 < N) (hd : ∀ i j, i < p.size → j < p.size → i ≠ j → p.getD i 0 ≠ p.getD j 0) : ∀ (f n : Nat), 1 ≤ n → n + f ≤ p.size → Asc lt p n → Asc lt p (ans lt (kas_asc p f n)) ∧ n ≤ ans lt (kas_asc p f n) ∧ ans lt (kas_asc p f n) ≤ n + f ∧ (ans lt (kas_asc p f n) < n + f → lt (p.getD (ans lt (kas_asc p f n)) 0) (p.getD (ans lt (kas_asc p f n) - 1) 0) = true)
  | 0, n, h1, h2, h => ⟨h, Nat.le_refl _, Nat.le_refl _, fun x => absurd x (Nat.lt_irrefl _)⟩
  | f + 1, n, h1, h2, h => by
    unfold kas_asc
    unfold ans
    cases q : lt (p.getD n 0) (p.getD (n - 1) 0) with
    | true =>
      dsimp only
      rw [if_pos rfl]
      exact ⟨h, Nat.le_refl _, by unfold ans; omega, fun _ => q⟩
    | false =>
      dsimp only
      rw [if_neg (by decide)]
      have hn : lt (p.getD (n - 1) 0) (p.getD n 0) = true := by
        rcases O.tot _ _ (hp (n - 1) (by omega)) (hp n (by omega)) (hd _ _ (by omega) (by omega) (by omega)) with x | x
        · exact x
        · rw [q] at x; cases x
      have h' : Asc lt p (n + 1) := fun i j hij hj => by
        rcases Nat.lt_or_ge j n with x | x
        · exact h i j hij x
        · have : j = n := by omega
          subst this
          by_cases hi : i = j - 1
          · subst hi; exact hn
          · exact O.trans _ _ _ (h i (j - 1) (by omega) (by omega)) hn
      obtain ⟨a, b, c, d⟩ := asc_ok O hp hd f (n + 1) (by omega) (by omega) h'
      exact ⟨a, by omega, by omega, fun x => d (by omega)⟩
/-- falling -/
noncomputable def Dsc (lt : Nat → Nat → Bool) (p : Array Nat) (n : Nat) : Prop := ∀ i j, i < j → j < n → lt (p.getD j 0) (p.getD i 0) = true
theorem desc_ok {N : Nat} (O : Ord lt N) {p : Array Nat} (hp : ∀ i, i < p.size → p.getD i 0 < N) (hd : ∀ i j, i < p.size → j < p.size → i ≠ j → p.getD i 0 ≠ p.getD j 0) : ∀ (f n : Nat), 1 ≤ n → n + f ≤ p.size → Dsc lt p n → ∃ m, ans lt (kas_desc f p n 0) = (p, m, 0) ∧ Dsc lt p m ∧ n ≤ m ∧ m ≤ n + f
  | 0, n, h1, h2, h => ⟨n, rfl, h, Nat.le_refl _, Nat.le_refl _⟩
  | f + 1, n, h1, h2, h => by
    unfold kas_desc
    unfold ans
    cases q : lt (p.getD n 0) (p.getD (n - 1) 0) with
    | true =>
      dsimp only
      rw [if_pos rfl, if_neg (by decide)]
      have h' : Dsc lt p (n + 1) := fun i j hij hj => by
        rcases Nat.lt_or_ge j n with x | x
        · exact h i j hij x
        · have : j = n := by omega
          subst this
          by_cases hi : i = j - 1
          · subst hi; exact q
          · exact O.trans _ _ _ q (h i (j - 1) (by omega) (by omega))
      obtain ⟨m, a, b, c, d⟩ := desc_ok O hp hd f (n + 1) (by omega) (by omega) h'
      exact ⟨m, a, b, by omega, by omega⟩
    | false =>
      dsimp only
      rw [if_neg (by decide)]
      have hn : lt (p.getD (n - 1) 0) (p.getD n 0) = true := by
        rcases O.tot _ _ (hp (n - 1) (by omega)) (hp n (by omega)) (hd _ _ (by omega) (by omega) (by omega)) with x | x
        · exact x
        · rw [q] at x; cases x
      unfold ans
      dsimp only
      rw [hn, if_pos rfl]
      exact ⟨n, rfl, h, Nat.le_refl _, by omega⟩

theorem place_ok {N : Nat} (O : Ord lt N) {p : Array Nat} (hp : ∀ i, i < p.size → p.getD i 0 < N) (hd : ∀ i j, i < p.size → j < p.size → i ≠ j → p.getD i 0 ≠ p.getD j 0) {k : Nat} (hk : k < p.size) (hs : Asc lt p k) :
    ∀ (f l r : Nat), l ≤ r → r ≤ k → r - l ≤ f → (∀ i, i < l → lt (p.getD i 0) (p.getD k 0) = true) → (∀ i, r ≤ i → i < k → lt (p.getD k 0) (p.getD i 0) = true) →
      (∀ i, i < ans lt (kas_place p k f l r) → lt (p.getD i 0) (p.getD k 0) = true) ∧ (∀ i, ans lt (kas_place p k f l r) ≤ i → i < k → lt (p.getD k 0) (p.getD i 0) = true) ∧ ans lt (kas_place p k f l r) ≤ k
  | 0, l, r, h1, h2, h3, hl, hr => ⟨hl, fun i hi => hr i (by have : ans lt (kas_place p k 0 l r) = l := rfl; omega), by show l ≤ k; omega⟩
  | f + 1, l, r, h1, h2, h3, hl, hr => by
    unfold kas_place
    by_cases c : l ≥ r
    · rw [if_pos c]
      exact ⟨hl, fun i hi => hr i (by unfold ans at hi; omega), by show l ≤ k; omega⟩
    · rw [if_neg c]
      unfold ans
      have hm : l ≤ (l + r) / 2 ∧ (l + r) / 2 < r := by omega
      generalize (l + r) / 2 = m at hm
      cases q : lt (p.getD k 0) (p.getD m 0) with
      | true =>
        dsimp only
        rw [if_pos rfl]
        refine place_ok O hp hd hk hs f l m (by omega) (by omega) (by omega) hl fun i hi hik => ?_
        by_cases e : i = m
        · subst e; exact q
        · exact O.trans _ _ _ q (hs m i (by omega) hik)
      | false =>
        dsimp only
        rw [if_neg (by decide)]
        have hn : lt (p.getD m 0) (p.getD k 0) = true := by
          rcases O.tot _ _ (hp m (by omega)) (hp k hk) (hd _ _ (by omega) hk (by omega)) with x | x
          · exact x
          · rw [q] at x; cases x
        refine place_ok O hp hd hk hs f (m + 1) r (by omega) h2 (by omega) (fun i hi => ?_) hr
        by_cases e : i = m
        · subst e; exact hn
        · exact O.trans _ _ _ (hs i m (by omega) (by omega)) hn

/-- the places in some order -/
noncomputable def Pm (N : Nat) (p : Array Nat) : Prop := p.Perm (List.toArray (List.range N))
theorem Pm.size {N : Nat} {p : Array Nat} (h : Pm N p) : p.size = N := by have := h.size_eq; simpa using this
theorem Pm.below {N : Nat} {p : Array Nat} (h : Pm N p) : ∀ i, i < p.size → p.getD i 0 < N := fun i hi => by
  have hm : p[i] ∈ (List.toArray (List.range N)) := h.mem_iff.mp (Array.getElem_mem hi)
  simp only [Array.getD, hi, dif_pos]
  simpa using hm
theorem Pm.ne {N : Nat} {p : Array Nat} (h : Pm N p) : ∀ i j, i < p.size → j < p.size → i ≠ j → p.getD i 0 ≠ p.getD j 0 := fun i j hi hj hij e => by
  have hl : p.toList.Perm (List.range N) := by simpa using Array.perm_iff_toList_perm.mp h
  have nd : p.toList.Nodup := hl.nodup_iff.mpr List.nodup_range
  have ei : p.getD i 0 = p.toList[i]'(by simpa using hi) := by simp [hi]
  have ej : p.getD j 0 = p.toList[j]'(by simpa using hj) := by simp [hj]
  rw [ei, ej] at e
  have := List.pairwise_iff_getElem.mp nd
  rcases Nat.lt_or_gt_of_ne hij with x | x
  · exact this i j _ _ x e
  · exact this j i _ _ x e.symm
theorem getD_of {p q : Array Nat} {i j : Nat} (h : p[i]? = q[j]?) : p.getD i 0 = q.getD j 0 := by
  rw [Array.getD_eq_getD_getElem?, Array.getD_eq_getD_getElem?, h]
theorem rev_getD {p : Array Nat} {m : Nat} (hm : m ≤ p.size) (i : Nat) : (kas_rev p 0 m).getD i 0 = if i < m then p.getD (m - 1 - i) 0 else p.getD i 0 := by
  have e := getElem?_mirror_all (xs := p) (i := 0) hm i
  by_cases h : i < m
  · rw [if_pos h]
    rw [if_pos ⟨Nat.zero_le _, h⟩] at e
    have : 0 + m - 1 - i = m - 1 - i := by omega
    rw [this] at e
    exact getD_of e
  · rw [if_neg h]
    rw [if_neg (by omega)] at e
    exact getD_of e
theorem rev_Pm {N m : Nat} {p : Array Nat} (h : Pm N p) : Pm N (kas_rev p 0 m) := (mirror_perm _ _ _ _).trans h
theorem rev_asc {p : Array Nat} {m : Nat} (hm : m ≤ p.size) (h : Dsc lt p m) : Asc lt (kas_rev p 0 m) m := fun i j hij hj => by
  rw [rev_getD hm, rev_getD hm, if_pos (by omega), if_pos hj]
  exact h _ _ (by omega) (by omega)

theorem bin_ok {N : Nat} (O : Ord lt N) : ∀ (f : Nat) (p : Array Nat) (k : Nat), Pm N p → k + f ≤ N → Asc lt p k → Pm N (ans lt (kas_bin f p k)) ∧ Asc lt (ans lt (kas_bin f p k)) (k + f)
  | 0, p, k, h, _, hs => ⟨h, hs⟩
  | f + 1, p, k, h, hk, hs => by
    unfold kas_bin
    rw [ans_bind]
    have hsz := h.size
    have hkp : k < p.size := by omega
    obtain ⟨a, b, c⟩ := place_ok O h.below h.ne hkp hs k 0 k (Nat.zero_le _) (Nat.le_refl _) (by omega) (fun i hi => absurd hi (Nat.not_lt_zero _)) (fun i hi hik => absurd hik (by omega))
    generalize ans lt (kas_place p k k 0 k) = l at a b c
    have hb : Pm N (bubble p k (k - l)) := (bubble_perm _ _ _).trans h
    have get : ∀ i, (bubble p k (k - l)).getD i 0 = if i = l then p.getD k 0 else if l < i ∧ i ≤ k then p.getD (i - 1) 0 else p.getD i 0 := fun i => by
      have e := getElem?_bubble hkp (k - l) (by omega) i
      have hl : k - (k - l) = l := by omega
      rw [hl] at e
      by_cases h1 : i = l
      · rw [if_pos h1] at e ⊢; exact getD_of e
      · rw [if_neg h1] at e ⊢
        by_cases h2 : l < i ∧ i ≤ k
        · rw [if_pos h2] at e ⊢; exact getD_of e
        · rw [if_neg h2] at e ⊢; exact getD_of e
    have hs' : Asc lt (bubble p k (k - l)) (k + 1) := fun i j hij hj => by
      rw [get, get]
      by_cases i1 : i = l
      · rw [if_pos i1]
        have j1 : ¬ j = l := by omega
        rw [if_neg j1, if_pos (by omega)]
        exact b _ (by omega) (by omega)
      · rw [if_neg i1]
        by_cases i2 : l < i ∧ i ≤ k
        · rw [if_pos i2, if_neg (by omega), if_pos (by omega)]
          exact hs _ _ (by omega) (by omega)
        · rw [if_neg i2]
          by_cases j1 : j = l
          · rw [if_pos j1]; exact a _ (by omega)
          · rw [if_neg j1]
            by_cases j2 : l < j ∧ j ≤ k
            · rw [if_pos j2]
              exact hs _ _ (by omega) (by omega)
            · rw [if_neg j2]; exact hs _ _ hij (by omega)
    obtain ⟨x, y⟩ := bin_ok O f _ (k + 1) hb (by omega) hs'
    exact ⟨x, by have : k + (f + 1) = k + 1 + f := by omega
                 rw [this]; exact y⟩

theorem sort_ok {N : Nat} (O : Ord lt N) (h2 : 2 ≤ N) : Pm N (ans lt (kas_sort N)) ∧ Asc lt (ans lt (kas_sort N)) N := by
  have h : Pm N (List.toArray (List.range N)) := Array.Perm.refl _
  generalize hp : List.toArray (List.range N) = p at h
  have hsz := h.size
  unfold kas_sort
  rw [ans_bind, hp]
  -- what is left behind the count of the first run
  have fin : ∀ (m : Nat) (q : Array Nat), Pm N q → 1 ≤ m → m ≤ N → Asc lt q m → ans lt (kas_count N p) = (m, q) → Pm N (ans lt (if (ans lt (kas_count N p)).1 < N then kas_bin (N - max (ans lt (kas_count N p)).1 1) (ans lt (kas_count N p)).2 (max (ans lt (kas_count N p)).1 1) else .ret (ans lt (kas_count N p)).2)) ∧
      Asc lt (ans lt (if (ans lt (kas_count N p)).1 < N then kas_bin (N - max (ans lt (kas_count N p)).1 1) (ans lt (kas_count N p)).2 (max (ans lt (kas_count N p)).1 1) else .ret (ans lt (kas_count N p)).2)) N := fun m q hq h1 hm hs e => by
    rw [e]
    dsimp only
    have hmax : max m 1 = m := by omega
    rw [hmax]
    by_cases c : m < N
    · rw [if_pos c]
      have := bin_ok O (N - m) q m hq (by omega) hs
      rw [show m + (N - m) = N by omega] at this
      exact this
    · rw [if_neg c]
      have : m = N := by omega
      subst this
      exact ⟨hq, hs⟩
  have a1 : Asc lt p 1 := fun i j hij hj => absurd hij (by omega)
  obtain ⟨b1, b2, b3, b4⟩ := asc_ok O h.below h.ne (N - 1) 1 (Nat.le_refl _) (by omega) a1
  have hcount : ans lt (kas_count N p) = ans lt (if (ans lt (kas_asc p (N - 1) 1) == N) = true then .ret (ans lt (kas_asc p (N - 1) 1), p) else if ans lt (kas_asc p (N - 1) 1) > 1 then .ask (p.getD 0 0) (p.getD (ans lt (kas_asc p (N - 1) 1) - 1) 0) fun c => if c = true then .ret (ans lt (kas_asc p (N - 1) 1), p) else kas_descPart (ans lt (kas_asc p (N - 1) 1)) N (kas_rev p 0 (ans lt (kas_asc p (N - 1) 1)))
      else kas_descPart (ans lt (kas_asc p (N - 1) 1)) N p) := by
    unfold kas_count
    rw [ans_bind]
  generalize ans lt (kas_asc p (N - 1) 1) = m at b1 b2 b3 b4 hcount
  by_cases c1 : m = N
  · subst c1
    refine fin m p h (by omega) (Nat.le_refl _) b1 (hcount.trans ?_)
    rw [if_pos (by simp)]; rfl
  · rw [if_neg (by simpa using c1)] at hcount
    by_cases c2 : m > 1
    · rw [if_pos c2] at hcount
      refine fin m p h (by omega) (by omega) b1 (hcount.trans ?_)
      unfold ans
      dsimp only
      rw [b1 0 (m - 1) (by omega) (by omega), if_pos rfl]; rfl
    · rw [if_neg c2] at hcount
      have hm1 : m = 1 := by omega
      subst hm1
      have hlt : lt (p.getD 1 0) (p.getD 0 0) = true := b4 (by omega)
      have d2 : Dsc lt p 2 := fun i j hij hj => by
        have : i = 0 ∧ j = 1 := by omega
        rw [this.1, this.2]; exact hlt
      obtain ⟨m', e', d', g1, g2⟩ := desc_ok O h.below h.ne (N - 2) 2 (by omega) (by omega) d2
      have hr := rev_asc (by omega) d'
      have hrp := rev_Pm (m := m') h
      obtain ⟨x1, x2, x3, _⟩ := asc_ok O hrp.below hrp.ne (N - m') m' (by omega) (by have := hrp.size; omega) hr
      refine fin (ans lt (kas_asc (kas_rev p 0 m') (N - m') m')) (kas_rev p 0 m') hrp (by omega) (by omega) x1 (hcount.trans ?_)
      unfold kas_descPart
      rw [ans_bind, show N - (1 + 1) = N - 2 from rfl, e']
      dsimp only
      rw [if_neg (by decide)]
      unfold kas_tail3
      rw [ans_bind]; rfl
end
end Mine

-- L22
namespace Mine
open PySem PySem.Spec PySem.Calls PyProof.Rows PySem.W
open AutoSeq1 (wpAny_loadPart')
open MeetsSeq MeetsSeq2 MeetsSeq3

/-- lists of numbers of one length, by the first place where they part -/
noncomputable def ltL : List Int → List Int → Bool
  | x :: xs, y :: ys => if x == y then ltL xs ys else decide (x < y)
  | _, _ => false

theorem lt_loop (l b : Addr) (items items2 : Array Value) (n n2 : Nat) (xs ys : List Int) (hs1 : items.size = xs.length) (hs2 : items2.size = ys.length) (hsz : xs.length = ys.length)
    (h1 : ∀ j (h : j < items.size) (h' : j < xs.length), ∃ t, items[j] = .int xs[j] t) (h2 : ∀ j (h : j < items2.size) (h' : j < ys.length), ∃ t, items2[j] = .int ys[j] t) (k : Nat) :
    ∀ i : Nat, items.size - i = k → Meets (Builtin.«list.__eq__.loop» ⟨[.ref l, .ref b, rawInt i, rawInt 0], []⟩)
      (fun A R s => s.heap.get? l = some { cls := .type "list", dict := none, data := .seq items n, slots := #[] } ∧ s.heap.get? b = some { cls := .type "list", dict := none, data := .seq items2 n2, slots := #[] } ∧
        R (.ok (.ret (.bool (ltL (xs.drop i) (ys.drop i))))) s) := by
  induction k with
  | zero =>
    intro i hk prog w A R s h
    obtain ⟨hp, g, d, tk, os⟩ := s; obtain ⟨hl, hb, h⟩ := h
    wp_walk using wpAny_loadPart' hl, wpAny_loadPart' hb
    have hi1 : items[((i : Nat) : Int).toNat]? = none := by simp; omega
    have hi2 : items2[((i : Nat) : Int).toNat]? = none := by simp; omega
    have hd : xs.drop i = [] := by simp; omega
    rw [hd] at h
    rw [hi1, hi2]
    wp_walk using wpAny_loadPart' hl, wpAny_loadPart' hb
    show R (.ok (.ret (.bool (decide (items.size < items2.size))))) _
    rw [hs1, hs2, hsz, decide_eq_false (Nat.lt_irrefl _)]
    exact h
  | succ k ih =>
    intro i hk prog w A R s h
    obtain ⟨hp, g, d, tk, os⟩ := s; obtain ⟨hl, hb, h⟩ := h
    wp_walk using wpAny_loadPart' hl, wpAny_loadPart' hb
    have hlt : i < items.size := by omega
    have hlt2 : i < items2.size := by omega
    have hx : i < xs.length := by omega
    have hy : i < ys.length := by omega
    obtain ⟨t, et⟩ := h1 i hlt hx
    obtain ⟨u, eu⟩ := h2 i hlt2 hy
    have hi1 : items[((i : Nat) : Int).toNat]? = some (.int xs[i] t) := by simp [hlt, et]
    have hi2 : items2[((i : Nat) : Int).toNat]? = some (.int ys[i] u) := by simp [hlt2, eu]
    have hd1 : xs.drop i = xs[i] :: xs.drop (i + 1) := List.drop_eq_getElem_cons hx
    have hd2 : ys.drop i = ys[i] :: ys.drop (i + 1) := List.drop_eq_getElem_cons hy
    have hc : ((i : Int) + 1) = ((i + 1 : Nat) : Int) := by push_cast; rfl
    rw [hd1, hd2] at h
    unfold ltL at h
    rw [hi1, hi2]
    refine wpAny_bind (PySem.SeqAt.EqAt.int_int xs[i] t ys[i] u prog w _ _ ?_)
    cases hb' : xs[i] == ys[i] with
    | true =>
      rw [hb', if_pos rfl] at h
      wp_walk
      rw [hc]
      exact ⟨plainId_quiet plain_eq_loop _, codeAny_builtin entry_eq_loop (by
        rw [Around.under_plainId plain_eq_loop _]
        exact ih (i + 1) (by omega) prog w A R _ ⟨hl, hb, h⟩)⟩
    | false =>
      rw [hb', if_neg (by decide)] at h
      wp_walk using wpAny_loadPart' hl, wpAny_loadPart' hb
      rw [hi1, hi2]
      show wpAny _ _ (richCompare .Lt (.int xs[i] t) (.int ys[i] u) >>= fun r => ret r) _ _ _
      refine wpAny_bind ?_
      have := PyProof.Rows.lt_int (prog := prog) (w := w) (A := A.in1) (E := fun e s' => R (.error e) s') (s := ⟨hp, g, d, tk, os⟩) (a := xs[i]) (b := ys[i]) (t := t) (u := u) (Q := fun v s' => wpAny (model prog w) A.in1 (ret v) (fun fin s' => match fin with
        | .done f => R (.ok f) s'
        | .again c' => c'.quiet = true ∧ codeAny (model prog w) A c' R s') (fun e s' => R (.error e) s') s') (wpAny_pure h)
      exact this

theorem list_lt (l b : Addr) (items items2 : Array Value) (n n2 : Nat) (xs ys : List Int) (hs1 : items.size = xs.length) (hs2 : items2.size = ys.length) (hsz : xs.length = ys.length)
    (h1 : ∀ j (h : j < items.size) (h' : j < xs.length), ∃ t, items[j] = .int xs[j] t) (h2 : ∀ j (h : j < items2.size) (h' : j < ys.length), ∃ t, items2[j] = .int ys[j] t) :
    Meets (Builtin.«list.__lt__» ⟨[.ref l, .ref b], []⟩)
      (fun A R s => s.heap.get? l = some { cls := .type "list", dict := none, data := .seq items n, slots := #[] } ∧ s.heap.get? b = some { cls := .type "list", dict := none, data := .seq items2 n2, slots := #[] } ∧
        R (.ok (.ret (.bool (ltL xs ys)))) s) := by
  intro prog w A R s h
  obtain ⟨hp, g, d, tk, os⟩ := s; obtain ⟨hl, hb, h⟩ := h
  have f3 := AutoSeq1.sub_list_list
  wp_walk using wpAny_loadPart' hl, wpAny_loadPart' hb
  exact ⟨plainId_quiet plain_eq_loop _, codeAny_builtin entry_eq_loop (by
    rw [Around.under_plainId plain_eq_loop _]
    exact lt_loop l b items items2 n n2 xs ys hs1 hs2 hsz h1 h2 _ 0 rfl prog w A R _ ⟨hl, hb, h⟩)⟩

section
variable {prog : Program} {w : World} {A : Around} {E : Value → Shared → Prop} {s : Shared}

theorem slot_lt : Slot "list" "__lt__" "list.__lt__" := F.slot_list_lt
theorem keyLt_list {l b : Addr} {vs us : List Value} {n n2 : Nat} {xs ys : List Int} {W : Forb} {Q : Bool → Shared → Prop} (hu : A.units < cLine) (hl : s.heap.get? l = some (listOf vs.toArray n)) (hb : s.heap.get? b = some (listOf us.toArray n2)) (rl : RdL W s.heap (xs.map .int) vs) (rb : RdL W s.heap (ys.map .int) us) (hsz : xs.length = ys.length)
    (h : Q (ltL xs ys) s) : wpAny (model prog w) A (keyLt' oneType' (.ref l) (.ref b)) Q E s := by
  rw [keyLt'_oneType, oneLt'_eq]
  simp only [if_true]
  refine wpAny_bind (wpAny_cRoomFor hu ?_)
  have get : ∀ {zs : List Int} {ws : List Value}, RdL W s.heap (zs.map .int) ws → ∀ j (h : j < ws.toArray.size) (h' : j < zs.length), ∃ t, ws.toArray[j] = .int zs[j] t := fun {zs ws} r j hj hj' => by
    obtain ⟨v, e, rv⟩ := r.at (i := j) (d := .int zs[j]) (by simp [hj'])
    cases rv with
    | int i t =>
      refine ⟨t, ?_⟩
      have : ws[j]? = some (ws[j]'(by simpa using hj)) := by simp
      rw [e] at this
      simpa using (Option.some.inj this).symm
  refine wpAny_bind (wpAny_callSpecialIfBound?_slot (id := "list.__lt__") ⟨_, hl, rfl⟩ slot_lt (call_meets slot_lt ⟨_, hl, rfl⟩ F.entry_list_lt (F.args_list_lt_2 _ _) (list_lt l b vs.toArray us.toArray n n2 xs ys (by rw [List.size_toArray, rl.length, List.length_map]) (by rw [List.size_toArray, rb.length, List.length_map]) hsz (get rl) (get rb)) ⟨hl, hb, ?_⟩))
  exact wpAny_truthy_bool h
end
end Mine

-- L23
namespace Mine
open PySem PySem.Spec PySem.Calls PyProof.Rows PySem.W

/-- all questions are about places below N, all answers have P -/
noncomputable def AskP {α : Type} (N : Nat) (P : α → Prop) : KasT α → Prop
  | .ret a => P a
  | .ask i j k => i < N ∧ j < N ∧ ∀ b, AskP N P (k b)
theorem AskP.bind {α β : Type} {N : Nat} {P : α → Prop} {Q : β → Prop} {f : α → KasT β} (hf : ∀ a, P a → AskP N Q (f a)) : ∀ (t : KasT α), AskP N P t → AskP N Q (t.bind f)
  | .ret a, h => hf a h
  | .ask i j k, h => ⟨h.1, h.2.1, fun b => AskP.bind hf (k b) (h.2.2 b)⟩
theorem Pm.any {N : Nat} {p : Array Nat} (h : Pm N p) (h0 : 0 < N) (i : Nat) : p.getD i 0 < N := by
  by_cases c : i < p.size
  · exact h.below i c
  · have : p.getD i 0 = 0 := by simp [Array.getD, c]
    rw [this]; exact h0
theorem asc_ask {N : Nat} (h0 : 0 < N) {p : Array Nat} (hp : Pm N p) : ∀ (f n : Nat), AskP N (fun _ => True) (kas_asc p f n)
  | 0, n => trivial
  | f + 1, n => by
    unfold kas_asc
    refine ⟨hp.any h0 _, hp.any h0 _, fun b => ?_⟩
    cases b
    · exact asc_ask h0 hp f (n + 1)
    · trivial
theorem desc_ask {N : Nat} (h0 : 0 < N) : ∀ (f : Nat) (p : Array Nat) (n q : Nat), Pm N p → AskP N (fun r => Pm N r.1) (kas_desc f p n q)
  | 0, p, n, q, hp => hp
  | f + 1, p, n, q, hp => by
    unfold kas_desc
    refine ⟨hp.any h0 _, hp.any h0 _, fun b => ?_⟩
    cases b
    · refine ⟨hp.any h0 _, hp.any h0 _, fun b => ?_⟩
      cases b
      · exact desc_ask h0 f p _ _ hp
      · exact hp
    · show AskP N _ (if q > 0 then _ else _)
      split
      · exact desc_ask h0 f _ _ _ ((mirror_perm _ _ _ _).trans hp)
      · exact desc_ask h0 f p _ _ hp
theorem tail_ask {N : Nat} (h0 : 0 < N) {p : Array Nat} (n m : Nat) (hp : Pm N p) : AskP N (fun r => Pm N r.2) (kas_tail3 n m p) := by
  unfold kas_tail3
  refine AskP.bind (P := fun _ => True) (fun a _ => ?_) _ (asc_ask h0 (rev_Pm hp) _ _)
  exact (rev_Pm hp : Pm N (kas_rev p 0 n))
theorem dpart_ask {N : Nat} (h0 : 0 < N) {p : Array Nat} (n m : Nat) (hp : Pm N p) : AskP N (fun r => Pm N r.2) (kas_descPart n m p) := by
  refine AskP.bind (fun r hr => ?_) _ (desc_ask h0 _ _ _ _ hp)
  split
  · exact tail_ask h0 _ _ ((mirror_perm _ _ _ _).trans hr)
  · exact tail_ask h0 _ _ hr
theorem count_ask {N : Nat} (h0 : 0 < N) {p : Array Nat} (m : Nat) (hp : Pm N p) : AskP N (fun r => Pm N r.2) (kas_count m p) := by
  refine AskP.bind (fun n _ => ?_) _ (asc_ask h0 hp _ _)
  split
  · exact hp
  · split
    · refine ⟨hp.any h0 _, hp.any h0 _, fun b => ?_⟩
      cases b
      · exact dpart_ask h0 _ _ (rev_Pm hp)
      · exact hp
    · exact dpart_ask h0 _ _ hp
theorem place_ask {N : Nat} (h0 : 0 < N) {p : Array Nat} (hp : Pm N p) (k : Nat) : ∀ (f l r : Nat), AskP N (fun _ => True) (kas_place p k f l r)
  | 0, l, r => trivial
  | f + 1, l, r => by
    unfold kas_place
    split
    · trivial
    · refine ⟨hp.any h0 _, hp.any h0 _, fun b => ?_⟩
      cases b
      · exact place_ask h0 hp k f _ _
      · exact place_ask h0 hp k f _ _
theorem bin_ask {N : Nat} (h0 : 0 < N) : ∀ (f : Nat) (p : Array Nat) (k : Nat), Pm N p → AskP N (Pm N) (kas_bin f p k)
  | 0, p, k, hp => hp
  | f + 1, p, k, hp => AskP.bind (fun l _ => bin_ask h0 f _ (k + 1) ((bubble_perm _ _ _).trans hp)) _ (place_ask h0 hp k k 0 k)
theorem sort_ask {N : Nat} (h0 : 0 < N) : AskP N (Pm N) (kas_sort N) := by
  refine AskP.bind (fun r hr => ?_) _ (count_ask h0 N (Array.Perm.refl _))
  split
  · exact bin_ask h0 _ _ _ hr
  · exact hr

theorem kasWp_ans {α : Type} {cmp : Nat → Nat → (Bool → Shared → Prop) → Shared → Prop} {lt : Nat → Nat → Bool} {N : Nat} {s : Shared} (hc : ∀ i j (C : Bool → Shared → Prop), i < N → j < N → C (lt i j) s → cmp i j C s) {P : α → Prop} {Q : α → Shared → Prop} :
    ∀ (t : KasT α), AskP N P t → Q (ans lt t) s → t.kasWp cmp Q s
  | .ret a, _, h => h
  | .ask i j k, ha, h => hc i j _ ha.1 ha.2.1 (kasWp_ans hc (k (lt i j)) (ha.2.2 _) h)

theorem AskP.ans {α : Type} {N : Nat} {P : α → Prop} {lt : Nat → Nat → Bool} : ∀ (t : KasT α), AskP N P t → P (Mine.ans lt t)
  | .ret a, h => h
  | .ask i j k, h => AskP.ans (k (lt i j)) (h.2.2 _)

section
variable {prog : Program} {w : World} {A : Around} {E : Value → Shared → Prop} {s : Shared}

/-- what sorting gives -/
noncomputable def outOf (lt : Nat → Nat → Bool) (vs : List Value) : List Value := (ans lt (kas_sort vs.length)).toList.map fun i => vs.getD i Value.none

theorem list_sort_own {a : Addr} {vs : List Value} {n : Nat} {lt : Nat → Nat → Bool} {P : PySem.Fin → Shared → Prop} (ho : s.heap.get? a = some (seqObj "list" vs.toArray n)) (h2 : 2 ≤ vs.length) (h64 : vs.length < 64)
    (hT : ∀ v ∈ vs, ∃ b o, v = .ref b ∧ b ≠ a ∧ s.heap.get? b = some o ∧ o.cls = .type "list")
    (hc : ∀ (i j : Nat) (s' : Shared) (C : Bool → Shared → Prop), i < vs.length → j < vs.length → (∀ b o, b ≠ a → s.heap.get? b = some o → s'.heap.get? b = some o) → C (lt i j) s' → wpAny (model prog w) A (keyLt' oneType' (vs.getD i .none) (vs.getD j .none)) C (fun _ _ => False) s')
    (h : P (.done (.ret .none)) { s with heap := sortedHeap s.heap a vs (outOf lt vs).toArray }) :
    wpAny (model prog w) A (Builtin.«list.sort» ⟨[.ref a], []⟩) P E s := by
  have ha : a < s.heap.objs.size := Heap.lt_size ho
  obtain ⟨e1, ho1⟩ : ∃ e1, (s.heap.update a (Obj.mapSeq fun _ => (#[] : Array Value))).get? a = some (seqObj "list" #[] e1) := ⟨_, get?_update_seq ho fun _ => #[]⟩
  have ho6 : (((s.heap.update a (Obj.mapSeq fun _ => #[])).push (seqObj "tuple" vs.toArray 0)).push (seqObj "list" #[] 0)).get? a = some (seqObj "list" #[] e1) := Heap.get?_push_of_some _ (Heap.get?_push_of_some _ ho1)
  have keep : ∀ b o, b ≠ a → s.heap.get? b = some o → (((s.heap.update a (Obj.mapSeq fun _ => (#[] : Array Value))).push (seqObj "tuple" vs.toArray 0)).push (seqObj "list" #[] 0)).get? b = some o := fun b o hb e =>
    Heap.get?_push_of_some _ (Heap.get?_push_of_some _ (by rw [Heap.get?_update_ne _ _ _ _ hb]; exact e))
  rw [list_sort_plain]
  refine wpAny_bind (listItems_at ho rfl ?_)
  refine wpAny_bind (listUpdate_at ho rfl ?_ (by rw [List.size_toArray, sizeLine_eq]; omega) (Nat.zero_le _))
  refine wpAny_bind (seqEpoch_at ho1 rfl ?_)
  refine wpAny_bind (wpAny_newTuple ?_ (by show vs.length ≤ _; rw [sizeLine_eq]; omega))
  refine wpAny_bind (wpAny_newList ?_ (Nat.zero_le _))
  refine wpAny_holding ?_
  show wpAny (model prog w) A _ P E { s with heap := ((s.heap.update a (Obj.mapSeq fun _ => (#[] : Array Value))).push (seqObj "tuple" vs.toArray 0)).push (seqObj "list" #[] 0) }
  dsimp only
  have hn2 : ¬ vs.toArray.size < 2 := by rw [List.size_toArray]; omega
  rw [if_neg hn2, if_neg hn2]
  refine wpAny_bind (kas_kind (T := .type "list") h2 (fun v hv => ?_) rfl rfl ?_)
  · obtain ⟨b, o, rfl, hb, e, hcl⟩ := hT v hv
    exact hcl ▸ (Looks.ld (keep b o hb e)).andThen .now
  have est : SortSt.mk' oneType' (vs.toArray.zip vs.toArray) #[] 7 none = kas_st oneType' (pairsOf vs) (List.toArray (List.range vs.length)) := by
    have e := kas_range (pairsOf vs)
    rw [pairsOf_size] at e
    show SortSt.mk' oneType' (pairsOf vs) #[] 7 none = SortSt.mk' oneType' ((List.toArray (List.range vs.length)).map (kas_item (pairsOf vs))) #[] 7 none
    rw [e]
  have run := kas_runs (prog := prog) (w := w) (A := A) (κ := oneType') (it := pairsOf vs) (E := E) (s := { s with heap := ((s.heap.update a (Obj.mapSeq fun _ => (#[] : Array Value))).push (seqObj "tuple" vs.toArray 0)).push (seqObj "list" #[] 0) })
    (Q := fun _ st' s' => (arrOf st').map (·.2) = (outOf lt vs).toArray ∧ failedOf st' = none ∧ s' = { s with heap := ((s.heap.update a (Obj.mapSeq fun _ => (#[] : Array Value))).push (seqObj "tuple" vs.toArray 0)).push (seqObj "list" #[] 0) })
    (G := fun p s' => p = ans lt (kas_sort vs.length) ∧ s' = { s with heap := ((s.heap.update a (Obj.mapSeq fun _ => (#[] : Array Value))).push (seqObj "tuple" vs.toArray 0)).push (seqObj "list" #[] 0) })
    h2 h64 (fun p' st' s' _ har hf ⟨hp, hs⟩ => ⟨by
      apply Array.toList_inj.mp
      rw [har, Array.map_map, Array.toList_map, hp]
      exact List.map_congr_left fun i _ => by show (kas_item (pairsOf vs) i).2 = _; rw [kas_item_eq], hf, hs⟩)
    (kasWp_ans (lt := lt) (N := vs.length) (fun i j C hi hj hC => by
      have := hc i j _ C hi hj keep hC
      show wpAny _ _ (keyLt' oneType' (kas_item (pairsOf vs) i).1 (kas_item (pairsOf vs) j).1) _ _ _
      rw [kas_item_eq, kas_item_eq]
      exact this) _ (sort_ask (by omega)) ⟨rfl, rfl⟩)
  rw [← est] at run
  refine wpAny_bind (wpAny_mono run ?_ fun _ _ e => e)
  rintro ⟨⟨⟩, st'⟩ s' ⟨hout, hf, rfl⟩
  dsimp only
  have hlen : (outOf lt vs).length = vs.length := by
    unfold outOf
    rw [List.length_map, Array.length_toList]
    exact (AskP.ans _ (sort_ask (by omega))).size
  rw [hout]
  refine wpAny_bind (seqEpoch_at ho6 rfl ?_)
  refine wpAny_bind (listUpdate_at ho6 rfl ?_ (Nat.zero_le _) (by show (outOf lt vs).toArray.size ≤ _; rw [List.size_toArray, hlen, sizeLine_eq]; omega))
  rw [hf]
  simp only [bne_self_eq_false, Bool.false_eq_true, if_false]
  exact wpAny_pure h

theorem sorted_own {l : Addr} {vs : List Value} {n : Nat} {lt : Nat → Nat → Bool} {Q : Value → Shared → Prop} (hl : s.heap.get? l = some (listOf vs.toArray n)) (h2 : 2 ≤ vs.length) (h64 : vs.length < 64)
    (hT : ∀ v ∈ vs, ∃ b o, v = .ref b ∧ s.heap.get? b = some o ∧ o.cls = .type "list")
    (hc : ∀ (i j : Nat) (s' : Shared) (C : Bool → Shared → Prop), i < vs.length → j < vs.length → (∀ b o, s.heap.get? b = some o → s'.heap.get? b = some o) → C (lt i j) s' → wpAny (model prog w) A.in1.in1 (keyLt' oneType' (vs.getD i .none) (vs.getD j .none)) C (fun _ _ => False) s')
    (h : ∀ h' e, Stays s.heap h' → s.heap.get? (s.heap.objs.size + 1) = none → h'.get? (s.heap.objs.size + 1) = some (listOf (outOf lt vs).toArray e) → Q (.ref (s.heap.objs.size + 1)) { s with heap := h' }) :
    wpAny (model prog w) A (call (.builtin "sorted") [.ref l]) Q E s := by
  refine Calls.call_function_entry kind_sorted plain_sorted entry_sorted (args_sorted1 _) ?_
  unfold Builtin.«sorted»
  refine wpAny_bind (m := checkCount "sorted" 1 1 _) (wpAny_pure ?_)
  refine wpAny_bind (collect_list (listAt hl) ?_ (by rw [sizeLine_eq]; omega))
  refine wpAny_bind (wpAny_newList ?_ (by rw [sizeLine_eq]; omega))
  have hsz : ((s.heap.push (seqObj "list" #[] 0)).update s.heap.objs.size (Obj.mapSeq (· ++ vs.toArray))).objs.size = s.heap.objs.size + 1 := by
    rw [Heap.size_update, size_push']
  have hoL : (((s.heap.push (seqObj "list" #[] 0)).update s.heap.objs.size (Obj.mapSeq (· ++ vs.toArray))).push (seqObj "list" vs.toArray 0)).get? (s.heap.objs.size + 1) = some (seqObj "list" vs.toArray 0) := by
    rw [← hsz]; exact Heap.get?_push_size _ rfl
  have keep : ∀ b o, s.heap.get? b = some o → (((s.heap.push (seqObj "list" #[] 0)).update s.heap.objs.size (Obj.mapSeq (· ++ vs.toArray))).push (seqObj "list" vs.toArray 0)).get? b = some o := fun b o q => by
    have hlt : b < s.heap.objs.size := Heap.lt_size q
    rw [Heap.get?_push_ne _ _ _ (by rw [hsz]; exact Nat.ne_of_lt (Nat.lt_succ_of_lt hlt)), Heap.get?_update_ne _ _ _ _ (Nat.ne_of_lt hlt), Heap.get?_push_ne _ _ _ (Nat.ne_of_lt hlt)]
    exact q
  have new : s.heap.get? (s.heap.objs.size + 1) = none := by
    cases e : s.heap.get? (s.heap.objs.size + 1) with
    | none => rfl
    | some o => exact absurd (Heap.lt_size e) (Nat.not_lt.mpr (Nat.le_succ _))
  show wpAny _ _ _ _ _ { s with heap := ((s.heap.push (seqObj "list" #[] 0)).update s.heap.objs.size (Obj.mapSeq (· ++ vs.toArray))).push (seqObj "list" vs.toArray 0) }
  rw [hsz]
  refine wpAny_bind (wpAny_holding (wpAny_call_entry slot_list_sort ⟨_, hoL, rfl⟩ entry_list_sort (list_sort_own (lt := lt) hoL h2 h64 (fun v hv => ?_) (fun i j s' C hi hj hk hC => ?_) ?_) (args_list_sort _)))
  · obtain ⟨b, o, rfl, e, hcl⟩ := hT v hv
    exact ⟨b, o, rfl, fun q => (by rw [q, new] at e; cases e), keep _ _ e, hcl⟩
  · exact hc i j s' C hi hj (fun b o e => hk b o (fun q => by rw [q, new] at e; cases e) (keep b o e)) hC
  · obtain ⟨e, he⟩ := sortedAll_at s.heap vs (outOf lt vs).toArray
    exact ⟨_, rfl, wpAny_pure ⟨_, rfl, h (sortedAll s.heap vs (outOf lt vs).toArray) e (fun _ _ => sortedAll_old) new he⟩⟩
end
end Mine

-- L24
namespace Mine
open PySem PySem.Spec PySem.Calls PyProof.Rows PySem.W

noncomputable def rowD (r : List Nat) : D := .list (r.map natD)
noncomputable def zz (r : List Nat) : List Int := r.map fun (x : Nat) => (x : Int)
noncomputable def ltN (r s : List Nat) : Bool := ltL (zz r) (zz s)
theorem ltL_trans : ∀ (a b c : List Int), ltL a b = true → ltL b c = true → ltL a c = true
  | [], _, _, h, _ => by simp [ltL] at h
  | _ :: _, [], _, h, _ => by simp [ltL] at h
  | _ :: _, _ :: _, [], _, h => by simp [ltL] at h
  | x :: a, y :: b, z :: c, h, k => by
    unfold ltL at h k ⊢
    by_cases e1 : x = y
    · subst e1
      rw [if_pos (by simp)] at h
      by_cases e2 : x = z
      · subst e2
        rw [if_pos (by simp)] at k
        rw [if_pos (by simp)]
        exact ltL_trans a b c h k
      · rw [if_neg (by simpa using e2)] at k ⊢
        exact k
    · rw [if_neg (by simpa using e1)] at h
      have h := of_decide_eq_true h
      by_cases e2 : y = z
      · subst e2
        rw [if_neg (by simpa using e1)]
        exact decide_eq_true h
      · rw [if_neg (by simpa using e2)] at k
        have k := of_decide_eq_true k
        rw [if_neg (by simp; omega)]
        exact decide_eq_true (by omega)
theorem ltL_irr : ∀ a : List Int, ltL a a = false
  | [] => rfl
  | x :: a => by unfold ltL; rw [if_pos (by simp)]; exact ltL_irr a
theorem ltL_tot : ∀ (a b : List Int), a.length = b.length → a ≠ b → ltL a b = true ∨ ltL b a = true
  | [], [], _, h => absurd rfl h
  | [], _ :: _, h, _ => by simp at h
  | _ :: _, [], h, _ => by simp at h
  | x :: a, y :: b, h, hne => by
    unfold ltL
    by_cases e : x = y
    · subst e
      rw [if_pos (by simp), if_pos (by simp)]
      exact ltL_tot a b (by simpa using h) fun q => hne (by rw [q])
    · rw [if_neg (by simpa using e), if_neg (by simpa using Ne.symm e)]
      rcases Int.lt_or_gt_of_ne e with q | q
      · exact .inl (decide_eq_true q)
      · exact .inr (decide_eq_true q)
theorem zz_inj {a b : List Nat} (h : zz a = zz b) : a = b := by
  unfold zz at h
  exact (List.map_inj_right (fun (x y : Nat) (e : (x : Int) = (y : Int)) => by omega)).mp h

theorem sorted_unique : ∀ {l k : List (List Nat)}, l.Perm k → l.Pairwise (fun a b => ltN a b = true) → k.Pairwise (fun a b => ltN a b = true) → l = k := by
  intro l k h hl hk
  exact List.Perm.eq_of_pairwise (le := fun a b => ltN a b = true) (fun a b _ _ x y => by
    have := ltL_trans _ _ _ x y
    rw [ltL_irr] at this; cases this) hl hk h

section
variable {prog : Program} {w : World} {A : Around} {Γ : Cx} {M W : Forb} {σ : List (Option D)} {ω : Owns}

theorem zz_natD (r : List Nat) : r.map natD = (zz r).map .int := by unfold zz; rw [List.map_map]; rfl
theorem RdL.mapAt {W : Forb} {h : Heap} {rs : List (List Nat)} {vs : List Value} (r : RdL W h (rs.map rowD) vs) : ∀ (is : List Nat), (∀ i ∈ is, i < rs.length) → RdL W h ((is.map fun i => rs.getD i []).map rowD) (is.map fun i => vs.getD i Value.none)
  | [], _ => .nil
  | i :: is, hi => by
    have h1 := hi i (.head _)
    obtain ⟨v, ev, rv⟩ := r.at (i := i) (d := rowD rs[i]) (by simp [h1])
    have e1 : rs.getD i [] = rs[i] := by simp [h1]
    have e2 : vs.getD i Value.none = v := by simp [List.getD, ev]
    rw [List.map_cons, List.map_cons, List.map_cons, e1, e2]
    exact .cons rv (RdL.mapAt r is fun j hj => hi j (.tail _ hj))

theorem EvF.sortedRows {x : Str} {p pos : Pos} {e : Expr} {d : D} {rs L : List (List Nat)} (hf : Ev prog w Γ A M W σ ω (.Name x p) (.val (.builtin "sorted"))) (a : Ev prog w Γ A M W σ ω e d) (ka : DL ω d (rs.map rowD)) (hlen : ∀ r ∈ rs, r.length = 4) (nd : rs.Nodup) (h2 : 2 ≤ rs.length) (h64 : rs.length < 64) (hu : A.units + 2 < cLine)
    (hp : L.Perm rs) (hs : L.Pairwise (fun a b => ltN a b = true)) (he : starEach [e] Γ.env = (false, eval e Γ.env) :: starEach [] Γ.env := by rfl) :
    EvF prog w Γ A M W σ ω (.Call (.Name x p) [e] [] pos) (L.map rowD) := by
  intro s Q E H h
  rw [eval_CallName]
  refine wpAny_bind (hf s _ E H fun v h₁ tk₁ k₁ r₁ => ?_)
  cases r₁
  refine callWith_builtin1 (wpAny_items_cons (a _ _ E (H.stays k₁) fun v h₂ tk₂ k₂ r₂ => wpAny_items_nil ?_) he) he rfl
  have H₂ := (H.stays k₁).stays k₂
  obtain ⟨l, vs, n, rfl, el, rl⟩ := ka.at H₂ r₂
  have hvl : vs.length = rs.length := by rw [rl.length, List.length_map]
  let lt : Nat → Nat → Bool := fun i j => ltN (rs.getD i []) (rs.getD j [])
  have O : Ord lt vs.length := by
    refine ⟨fun a b c => ltL_trans _ _ _, fun a b ha hb hab => ?_, fun a => ltL_irr _⟩
    rw [hvl] at ha hb
    have ea : rs.getD a [] = rs[a] := by simp [ha]
    have eb : rs.getD b [] = rs[b] := by simp [hb]
    show ltN (rs.getD a []) (rs.getD b []) = true ∨ ltN (rs.getD b []) (rs.getD a []) = true
    rw [ea, eb]
    refine ltL_tot _ _ (by unfold zz; rw [List.length_map, List.length_map, hlen _ (List.getElem_mem ha), hlen _ (List.getElem_mem hb)]) fun q => ?_
    have e := zz_inj q
    have := List.pairwise_iff_getElem.mp nd
    rcases Nat.lt_or_gt_of_ne hab with x | x
    · exact this a b ha hb x e
    · exact this b a hb ha x e.symm
  obtain ⟨pm, asc⟩ := sort_ok O (by omega)
  have hsz := pm.size
  have hmem : ∀ i ∈ (ans lt (kas_sort vs.length)).toList, i < rs.length := fun i hi => by
    have := (Array.perm_iff_toList_perm.mp pm).mem_iff.mp hi
    simp at this
    omega
  have hL : (ans lt (kas_sort vs.length)).toList.map (fun i => rs.getD i []) = L := by
    refine sorted_unique (List.Perm.trans ?_ hp.symm) ?_ hs
    · have h1 := (Array.perm_iff_toList_perm.mp pm).map fun i => rs.getD i []
      have h2 : (List.range rs.length).map (fun i => rs.getD i []) = rs := by
        apply List.ext_getElem
        · simp
        · intro i h1 h2
          have : i < rs.length := by simpa using h1
          simp [this]
      simp only [hvl] at h1 ⊢
      rw [h2] at h1
      exact h1
    · rw [List.pairwise_map, List.pairwise_iff_getElem]
      intro i j hi hj hij
      have hi' : i < (ans lt (kas_sort vs.length)).size := by simpa using hi
      have hj' : j < (ans lt (kas_sort vs.length)).size := by simpa using hj
      have := asc i j hij (by omega)
      have ei : (ans lt (kas_sort vs.length)).getD i 0 = (ans lt (kas_sort vs.length)).toList[i] := by simp [hi']
      have ej : (ans lt (kas_sort vs.length)).getD j 0 = (ans lt (kas_sort vs.length)).toList[j] := by simp [hj']
      rw [ei, ej] at this
      exact this
  refine sorted_own (s := { s with heap := h₂, toks := tk₂ }) (lt := lt) el (by omega) (by omega) (fun v hv => ?_) (fun i j s' C hi hj hk hC => ?_) fun h₃ e₃ k₃ n₃ g₃ => ?_
  · obtain ⟨i, hi, rfl⟩ := List.getElem_of_mem hv
    obtain ⟨d, ed, rd⟩ := rl.get (i := i) (v := vs[i]) (by simp [hi])
    rw [List.getElem?_map] at ed
    obtain ⟨r, _, rfl⟩ := Option.map_eq_some_iff.mp ed
    generalize vs[i] = v at rd
    cases rd with
    | list e _ _ => exact ⟨_, _, rfl, e, rfl⟩
  · obtain ⟨v, ev, rv⟩ := rl.at (i := i) (d := rowD rs[i]) (by simp [hvl ▸ hi])
    obtain ⟨u, eu, ru⟩ := rl.at (i := j) (d := rowD rs[j]) (by simp [hvl ▸ hj])
    have e1 : vs.getD i Value.none = v := by simp [List.getD, ev]
    have e2 : vs.getD j Value.none = u := by simp [List.getD, eu]
    rw [e1, e2]
    have rv := rv.stays (h' := s'.heap) hk
    have ru := ru.stays (h' := s'.heap) hk
    have hC' : C (ltN rs[i] rs[j]) s' := by
      have a1 : rs.getD i [] = rs[i] := by simp [hvl ▸ hi]
      have a2 : rs.getD j [] = rs[j] := by simp [hvl ▸ hj]
      have : lt i j = ltN rs[i] rs[j] := by show ltN (rs.getD i []) (rs.getD j []) = _; rw [a1, a2]
      rw [← this]; exact hC
    have l1 := hlen rs[i] (List.getElem_mem _)
    have l2 := hlen rs[j] (List.getElem_mem _)
    generalize rs[i] = ri at rv hC' l1
    generalize rs[j] = rj at ru hC' l2
    unfold rowD at rv ru
    rw [zz_natD] at rv ru
    cases rv with
    | list f1 _ p1 =>
      cases ru with
      | list f2 _ p2 => exact keyLt_list (by show A.units + 1 + 1 < cLine; omega) f1 f2 p1 p2 (by unfold zz; rw [List.length_map, List.length_map, l1, l2]) hC'
  · have k13 : Stays s.heap h₃ := (k₁.trans k₂).trans k₃
    refine h _ (outOf lt vs) e₃ h₃ tk₂ k13 (fresh_back (k₁.trans k₂) n₃) g₃ ?_
    rw [← hL]
    exact (rl.mapAt _ hmem).sub (Sub.grow k₃ n₃)
end
end Mine

-- L25
namespace Mine
open PySem PySem.Spec PySem.Calls PyProof.Rows PySem.W

section
variable {prog : Program} {w : World} {A : Around}

/-- the list under way holds ds -/
noncomputable def CI (W : Forb) (Dd : Addr) (ds : List D) (h : Heap) : Prop := ∃ vs n, h.get? Dd = some (listOf vs.toArray n) ∧ RdL W h ds vs

/-- one more piece of a comprehension's list -/
noncomputable def Emit (prog : Program) (w : World) (A : Around) (Γ : Cx) (M W : Forb) (ω : Owns) (C Dd : Addr) (J : List (Option D) → Prop) (σ : List (Option D)) (m : Sem Unit) (out : List D) : Prop :=
  ∀ (s : Shared) (ds : List D) (Q : Unit → Shared → Prop) (E : Value → Shared → Prop), Hx Γ M W σ ω s.heap → CI W Dd ds s.heap → ds.length + out.length ≤ 1000000 →
    (∀ h' tk' σ', J σ' → Hx Γ M W σ' ω h' → CI W Dd (ds ++ out) h' → (∀ b o, b ≠ C → b ≠ Dd → s.heap.get? b = some o → h'.get? b = some o) → Q () { s with heap := h', toks := tk' }) → wpAny (model prog w) A m Q E s

theorem comp_loop {α : Type} {e : Expr} {dep : Nat} {cenv : Env} {slots : Slots} {hb : Heap} {M W : Forb} {ω : Owns} {I Dd : Addr} {x : Str} {px p : Pos} {emitM : Sem Unit} {R : Result → Shared → Prop} {s : Shared} {ds : List D} {σ : List (Option D)} {fp : List Addr} {P : Nat → Value → Prop} {St : Nat → Heap → Prop}
    (as : List α) (g : α → D) (out : α → List D) (J : List (Option D) → Prop) (O : (⟨cenv, slots, hb⟩ : Cx).Ok) (hh : A.handled = none) (hx : cenv.kindOf x = some .local)
    (hturn : compTurn e dep (.ref I) (.ref Dd) cenv = (do
      standAt p
      match ← pyNext (.ref I) with
      | none => pure (.done .next)
      | some v =>
        letOwnedTupleGo (.Name x px) (.ref I) v
        assign (.Name x px) cenv v
        emitM
        again (.compLoop e dep (.ref I) (.ref Dd) cenv)))
    (hA : A.under (.compLoop e dep (.ref I) (.ref Dd) cenv) = A) (hden : (model prog w).den (.compLoop e dep (.ref I) (.ref Dd) cenv) = (compTurn e dep (.ref I) (.ref Dd) cenv).onRaise (fun x => do noteFrame x cenv; theTreesLotGoes x))
    (X : Itr prog w W I (as.map g) s.heap fp P St) (hnC : I ≠ cenv.locals) (hnD : I ≠ Dd) (hDM : ¬ M Dd) (hIM : ¬ M I) (hIc : ∀ y, (y, some I) ∉ slots) (hIb : hb.get? I = none) (hfC : ∀ b ∈ fp, b ≠ cenv.locals) (hfD : ∀ b ∈ fp, b ≠ Dd) (hWD : W Dd)
    (hJ : J σ) (H : Hx ⟨cenv, slots, hb⟩ M (fun b => b = I ∨ W b) σ ω s.heap) (hD : CI (fun b => b = I ∨ W b) Dd ds s.heap) (hlen : ds.length + (as.map fun a => (out a).length).sum ≤ 1000000)
    (em : ∀ a ∈ as, ∀ σ₁, J σ₁ → ∃ σ₂, VarSet slots σ₁ x none (g a) σ₂ ∧ Emit prog w A ⟨cenv, slots, hb⟩ M (fun b => b = I ∨ W b) ω cenv.locals Dd J σ₂ emitM (out a))
    (hR : ∀ h' tk' σ', J σ' → Hx ⟨cenv, slots, hb⟩ M (fun b => (b = I ∨ W b) ∧ b ≠ I) σ' ω h' → CI (fun b => (b = I ∨ W b) ∧ b ≠ I) Dd (ds ++ (as.map out).flatten) h' → (∀ b o, b ≠ I → b ≠ cenv.locals → b ≠ Dd → s.heap.get? b = some o → h'.get? b = some o) → R (.ok .next) { s with heap := h', toks := tk' }) :
    codeAny (model prog w) A (.compLoop e dep (.ref I) (.ref Dd) cenv) R s := by
  have Wk := X.walks A hh
  have hm : (⟨cenv, slots, hb⟩ : Cx).env.locals = cenv.locals := rfl
  refine codeAny_loop rfl (fun k s' => ∃ i h' tk' σ', s' = { s with heap := h', toks := tk' } ∧ k = as.length + 1 - i ∧ i ≤ as.length ∧ St i h' ∧ J σ' ∧ Hx ⟨cenv, slots, hb⟩ M (fun b => b = I ∨ W b) σ' ω h' ∧ CI (fun b => b = I ∨ W b) Dd (ds ++ ((as.take i).map out).flatten) h' ∧
    (∀ b o, b ≠ I → b ≠ cenv.locals → b ≠ Dd → s.heap.get? b = some o → h'.get? b = some o)) (fun k s' hI => ?_) (as.length + 1) ⟨0, s.heap, s.toks, σ, rfl, rfl, Nat.zero_le _, X.st, hJ, H, by simpa using hD, fun _ _ _ _ _ e => e⟩
  rw [hA, hden]
  refine wpAny_noted ?_
  rw [hturn]
  obtain ⟨i, h', tk', σ', rfl, rfl, hi, st, hJ', H', hD', kp⟩ := hI
  by_cases hlt : i < as.length
  · refine wpAny_bind (wpAny_standAt (wpAny_bind (Wk.item i _ _ _ (by simpa using hlt) st fun v h₂ tk₂ hP st₂ k₂ => ?_)))
    have k₂' : ∀ b o, b ≠ I → h'.get? b = some o → h₂.get? b = some o := fun b o hb => k₂ b o (by simpa using hb)
    have H₂ := H'.step (h' := h₂) (.inl rfl) hIM hIc hIb k₂' (X.live _ _ st₂)
    obtain ⟨d, hd, r⟩ := X.item i v hP
    rw [List.getElem?_map] at hd
    obtain ⟨a, ea, rfl⟩ := Option.map_eq_some_iff.mp hd
    have hma := List.mem_of_getElem? ea
    obtain ⟨σ₂, V, EM⟩ := em a hma σ' hJ'
    have S : Sub (fun b => b = I ∨ W b) s.heap (fun b => b = I ∨ W b) h₂ := fun b o e wb => ⟨wb, k₂' b o (fun q => wb (.inl q)) (kp b o (fun q => wb (.inl q)) (fun q => wb (q ▸ H.MW _ H.locM)) (fun q => wb (.inr (q ▸ hWD))) e)⟩
    obtain ⟨m₂, hm₂, hv₂⟩ := H₂.vars
    refine wpAny_bind (wpAny_of_eq (a := ()) rfl (wpAny_bind (wpAny_assign_Name (wpAny_storeName_local hx hm₂ (fun h₃ hn₃ hs₃ => ?_) (modeOk O)))))
    have hs₃ : Heap.SameBut cenv.locals h₂ h₃ := hs₃
    have H₃ := Hx.store_loc (v := v) O H₂ hm₂ hv₂ V (r.sub S) hn₃ hs₃
    have k₃' : ∀ b o, b ≠ cenv.locals → h₂.get? b = some o → h₃.get? b = some o := fun b o hb e => (hs₃.2 b hb).trans e
    have hDC : Dd ≠ cenv.locals := fun q => hDM (q ▸ H.locM)
    have S23 : Sub (fun b => b = I ∨ W b) h' (fun b => b = I ∨ W b) h₃ := fun b o e wb => ⟨wb, k₃' b o (fun q => wb (q ▸ H.MW _ H.locM)) (k₂' b o (fun q => wb (.inl q)) e)⟩
    have hD₃ : CI (fun b => b = I ∨ W b) Dd (ds ++ ((as.take i).map out).flatten) h₃ := by
      obtain ⟨vs, n, e, rl⟩ := hD'
      exact ⟨vs, n, k₃' _ _ hDC (k₂' _ _ (Ne.symm hnD) e), rl.sub S23⟩
    have tk : (as.take (i + 1)).map out = (as.take i).map out ++ [out a] := by rw [List.take_add_one, ea]; simp
    have hsum : ds.length + ((as.take i).map fun a => (out a).length).sum + (out a).length ≤ 1000000 := by
      have e1 : (as.map fun a => (out a).length).sum = ((as.take i).map fun a => (out a).length).sum + ((as.drop i).map fun a => (out a).length).sum := by
        rw [← List.sum_append, ← List.map_append, List.take_append_drop]
      have e2 : as.drop i = a :: as.drop (i + 1) := by
        rw [List.drop_eq_getElem_cons hlt]
        congr 1
        rw [List.getElem?_eq_getElem hlt] at ea
        exact Option.some.inj ea
      rw [e2, List.map_cons, List.sum_cons] at e1
      omega
    refine wpAny_bind (EM _ _ _ _ H₃ hD₃ (by rw [List.length_append, List.length_flatten, List.map_map]; exact hsum) fun h₄ tk₄ σ₄ hJ₄ H₄ hD₄ k₄ => wpAny_pure ⟨rfl, as.length + 1 - (i + 1), by omega, i + 1, h₄, tk₄, σ₄, rfl, rfl, hlt, ?_, hJ₄, H₄, ?_, fun b o h1 h2 h3 e => k₄ b o h2 h3 (k₃' b o h2 (k₂' b o h1 (kp b o h1 h2 h3 e)))⟩)
    · exact Wk.frame _ _ _ st₂ fun b hb o e => k₄ b o (hfC b hb) (hfD b hb) (k₃' b o (hfC b hb) e)
    · rw [tk, List.flatten_append, ← List.append_assoc]
      simpa using hD₄
  · have hin : i = as.length := by omega
    refine wpAny_bind (wpAny_standAt (wpAny_bind (Wk.done _ _ _ ((by simpa using hin : i = (as.map g).length) ▸ st) fun h₂ tk₂ k₂ => wpAny_pure ?_)))
    have k₂' : ∀ b o, b ≠ I → h'.get? b = some o → h₂.get? b = some o := fun b o hb => k₂ b o (by simpa using hb)
    refine hR h₂ tk₂ σ' hJ' (H'.stepEnd (.inl rfl) hIM hIc hIb k₂') ?_ fun b o h1 h2 h3 e => k₂' b o h1 (kp b o h1 h2 h3 e)
    obtain ⟨vs, n, e, rl⟩ := hD'
    rw [hin, List.take_of_length_le (Nat.le_refl _)] at rl
    exact ⟨vs, n, k₂' _ _ (Ne.symm hnD) e, rl.sub fun b o e wb => ⟨fun x => wb x.1, k₂' b o (fun q => wb (.inl q)) e⟩⟩
end
end Mine

-- L26
namespace Mine
open PySem PySem.Spec PySem.Calls PyProof.Rows PySem.W

section
variable {prog : Program} {w : World} {A : Around} {Γ : Cx} {M W : Forb} {σ σ' : List (Option D)} {ω : Owns}

theorem Emit.append {Γc : Cx} {C Dd : Addr} {J : List (Option D) → Prop} {elt : Expr} {d : D} (a : Ev prog w Γc A M W σ ω elt d) (hJ : J σ) (hW : W Dd) (hM : ¬ M Dd) (hc : ∀ y, (y, some Dd) ∉ Γc.slots) (hb : Γc.hb.get? Dd = none) :
    Emit prog w A Γc M W ω C Dd J σ (do let _ ← call (.builtin "list.append") [.ref Dd, ← eval elt Γc.env]) [d] := by
  intro s ds Q E H hD hlen q
  refine wpAny_bind (a s _ E H fun y h₁ tk₁ k₁ r₁ => ?_)
  obtain ⟨vs, n, e, rl⟩ := hD
  have hvl := rl.length
  refine wpAny_bind (wpAny_list_append_plain (s := { s with heap := h₁, toks := tk₁ }) (hsz := by rw [List.size_toArray, hvl, sizeLine_eq]; simp at hlen; omega) ⟨n, k₁ _ _ e⟩ fun h₂ hl₂ hs₂ => wpAny_pure ?_)
  obtain ⟨n₂, e₂⟩ := hl₂
  have k₂ : ∀ b o, b ≠ Dd → h₁.get? b = some o → h₂.get? b = some o := fun b o hb e => (hs₂.2 b hb).trans e
  have S : Sub W h₁ W h₂ := fun b o e wb => ⟨wb, k₂ b o (fun q => wb (q ▸ hW)) e⟩
  refine q h₂ tk₁ σ hJ ((H.stays k₁).step hW hM hc hb k₂ ⟨_, e₂⟩) ⟨vs ++ [y], n₂, by rw [e₂]; simp, ((rl.stays k₁).sub S).append (RdL.one (r₁.sub S))⟩ fun b o _ h2 e => k₂ b o h2 (k₁ b o e)

theorem sum_ones {α : Type} : ∀ l : List α, (l.map fun _ => 1).sum = l.length
  | [] => rfl
  | _ :: l => by rw [List.map_cons, List.sum_cons, sum_ones l, List.length_cons]; omega

theorem codeAny_compStart2 {R : Result → Shared → Prop} {s : Shared} {elt t0 i0 t1 i1 : Expr} {scope : Scope} {pos : Pos} {it acc : Value} {env : Env}
    (h0 : codeAny (model prog w) A (.compLoop (.ListComp elt [⟨t0, i0, [], 0⟩, ⟨t1, i1, [], 0⟩] scope pos) 1 it acc env) R s)
    (h : wpAny (model prog w) A (pyIter it) (fun it' s' => codeAny (model prog w) A (.compLoop (.ListComp elt [⟨t0, i0, [], 0⟩, ⟨t1, i1, [], 0⟩] scope pos) 1 it' acc env) R s') (notedBy (model prog w) A env fun x s' => R (.error x) s') s) :
    codeAny (model prog w) A (.compStart (.ListComp elt [⟨t0, i0, [], 0⟩, ⟨t1, i1, [], 0⟩] scope pos) 1 it acc env) R s := by
  refine codeAny_of_tree ?_
  show wpAny _ _ ((compStart (.ListComp elt [⟨t0, i0, [], 0⟩, ⟨t1, i1, [], 0⟩] scope pos) 1 it acc env).onRaise (fun x => do noteFrame x env; standAt theWindowsPlace)) _ _ s
  refine wpAny_notedAt ?_
  unfold compStart
  show wpAny _ _ (ask >>= _) _ _ s
  refine wpAny_bind (wpAny_askSetting (wpAny_ite ?_))
  split
  · first
      | exact wpAny_bind (wpAny_pure (wpAny_pure (And.intro rfl h0)))
      | exact wpAny_pure (And.intro rfl h0)
  · refine wpAny_bind (wpAny_rule ?_)
    show wpAny _ _ (standAt i1.pos >>= _) _ _ s
    exact wpAny_bind (wpAny_standAt (wpAny_bind (wpAny_mono h (fun it' s' h' => wpAny_pure (And.intro rfl h')) fun _ _ x => x)))

theorem Emit.inner {β : Type} {cenv : Env} {slots : Slots} {hb : Heap} {Dd : Addr} {elt i0 i1 : Expr} {x y : Str} {px py pos : Pos} {scope : Scope} {J : List (Option D) → Prop} (bs : List β) (g f : β → D) (O : (⟨cenv, slots, hb⟩ : Cx).Ok) (hh : A.handled = none) (hy : cenv.kindOf y = some .local)
    (it : It prog w ⟨cenv, slots, hb⟩ A M W σ ω i1 (bs.map g)) (hJ : J σ) (hWD : W Dd) (hDM : ¬ M Dd) (hDc : ∀ z, (z, some Dd) ∉ slots) (hDb : hb.get? Dd = none)
    (el : ∀ b ∈ bs, ∀ I σ₁, J σ₁ → ∃ σ₂, J σ₂ ∧ VarSet slots σ₁ y none (g b) σ₂ ∧ Ev prog w ⟨cenv, slots, hb⟩ A M (fun c => c = I ∨ W c) σ₂ ω elt (f b))
    (hs : ∀ v, foldedSetIterable i1 cenv v = pure v) :
    Emit prog w A ⟨cenv, slots, hb⟩ M W ω cenv.locals Dd J σ (do
      let v ← eval i1 cenv
      standAt i1.pos
      let v ← foldedSetIterable i1 cenv v
      let _ ← runOwn (.compStart (.ListComp elt [⟨.Name x px, i0, [], 0⟩, ⟨.Name y py, i1, [], 0⟩] scope pos) 1 (← holding [v] (pyIter v)) (.ref Dd) cenv) cenv) (bs.map f) := by
  intro s ds Q E H hD hlen q
  refine wpAny_bind (wpAny_mono (it s (fun itv s₁ => wpAny (model prog w) A (runOwn (.compStart (.ListComp elt [⟨.Name x px, i0, [], 0⟩, ⟨.Name y py, i1, [], 0⟩] scope pos) 1 itv (.ref Dd) cenv) cenv) (fun _ => Q ()) E s₁) E H fun I h₁ tk₁ fp P St k₁ hI X => ?_) (fun v s₁ hv => ?_) fun _ _ e => e)
  · have hIl := X.live 0 _ X.st
    obtain ⟨vs, n, eD, rl⟩ := hD
    have lv : ∀ b, W b → b ≠ I := fun b hb q => H.fresh hI (q ▸ hb)
    have hIM : ¬ M I := fun m => H.fresh hI (H.MW _ m)
    have hIc : ∀ z, (z, some I) ∉ slots := fun z hz => by obtain ⟨v, o, e, _⟩ := H.cells z I hz; rw [hI] at e; cases e
    have loop : codeAny (model prog w) A (.compLoop (.ListComp elt [⟨.Name x px, i0, [], 0⟩, ⟨.Name y py, i1, [], 0⟩] scope pos) 1 (.ref I) (.ref Dd) cenv) (fun r s' => match r with | .ok _ => Q () s' | .error e => cameBackBy (model prog w) A cenv E e s') { s with heap := h₁, toks := tk₁ } := by
      refine comp_loop (prog := prog) (w := w) (A := A) (slots := slots) (hb := hb) (M := M) (W := W) (ω := ω) (σ := σ) (ds := ds) (p := i1.pos) (px := py) (x := y) (emitM := do let _ ← call (.builtin "list.append") [.ref Dd, ← eval elt cenv]) bs g (fun b => [f b]) J O hh hy rfl rfl rfl X (fun q => lv _ (H.MW _ H.locM) q.symm) (fun q => lv _ hWD q.symm) hDM hIM hIc (fresh_back H.base hI)
        (fun b hb q => ?_) (fun b hb q => ?_) hWD hJ (H.wide k₁ hI hIl) ⟨vs, n, k₁ _ _ eD, rl.sub (Sub.grow k₁ hI)⟩ ?_ (fun b hmb σ₁ hJ₁ => ?_) (fun h' tk' σ' hJ' H' hD' kk => ?_)
      · rcases X.fpo b hb with h | ⟨_, h⟩
        · exact lv _ (H.MW _ H.locM) (q.symm.trans h)
        · exact h (q ▸ H.MW _ H.locM)
      · rcases X.fpo b hb with h | ⟨_, h⟩
        · exact lv _ hWD (q.symm.trans h)
        · exact h (q ▸ hWD)
      · rw [List.length_map] at hlen
        have : (bs.map fun b => ([f b] : List D).length).sum = bs.length := sum_ones bs
        rw [this]; exact hlen
      · obtain ⟨σ₂, hJ₂, V, ev⟩ := el b hmb I σ₁ hJ₁
        exact ⟨σ₂, V, Emit.append (Γc := ⟨cenv, slots, hb⟩) ev hJ₂ (.inr hWD) hDM hDc hDb⟩
      · have H₂ := H'.weak (W := W) (fun b hb => ⟨.inr hb, lv b hb⟩) H.MW H.celW
        obtain ⟨us, n', e', rl'⟩ := hD'
        refine q h' tk' σ' hJ' H₂ ⟨us, n', e', ?_⟩ fun b o h1 h2 e => kk b o (fun q => by rw [q, hI] at e; cases e) h1 h2 (k₁ b o e)
        have e1 : (bs.map fun b => [f b]).flatten = bs.map f := by
          clear el hlen X q it kk rl'
          induction bs with
          | nil => rfl
          | cons b bs ih => rw [List.map_cons, List.flatten_cons, ih]; rfl
        rw [e1] at rl'
        exact rl'.sub fun b o e wb => ⟨fun x => wb ⟨.inr x, lv b x⟩, e⟩
    exact wpAny_runOwn (codeAny_compStart2 loop (X.walks A hh |>.self 0 _ _ _ X.st loop))
  · refine wpAny_bind (wpAny_standAt (wpAny_bind (wpAny_of_eq (hs v) (wpAny_bind (wpAny_holding (wpAny_mono hv (fun itv s₂ h₂ => wpAny_bind (wpAny_mono h₂ (fun _ _ z => wpAny_pure z) fun _ _ e => e)) fun _ _ e => e))))))
end
end Mine

-- L27
namespace Mine
open PySem PySem.Spec PySem.Calls PyProof.Rows PySem.W

/-- the context of a comprehension with two clauses -/
noncomputable abbrev comp2Cx (Γ : Cx) (scope : Scope) (cl : List (Str × Addr)) (x y : Str) (slots : Slots) (C : Addr) : Cx := ⟨compEnvC scope cl C Γ.env, (x, none) :: (y, none) :: slots, Γ.hb⟩

theorem comp2Cx_ok {Γ : Cx} {scope : Scope} {cl : List (Str × Addr)} {x y : Str} {slots : Slots} {C : Addr} (O : (compCx Γ scope cl y slots C).Ok) (hx : scope.names.lookup x = some .local) (hdx : (x == ("__debug__" : Str)) = false) (hxn : x ∉ y :: slots.map (·.1)) :
    (comp2Cx Γ scope cl x y slots C).Ok := by
  refine ⟨O.kind, O.glob, O.bi, fun z hz => ?_, fun z a hz => ?_, ?_, fun p hp => ?_, ?_, fun z a hz => ?_⟩
  · cases hz with
    | head => exact lookup_relabel_local hx
    | tail _ hz => exact O.loc z hz
  · cases hz with
    | tail _ hz => exact O.cel z a hz
  · exact List.nodup_cons.mpr ⟨hxn, O.nd⟩
  · cases hp with
    | head => exact hdx
    | tail _ hp => exact O.dbg p hp
  · exact List.pairwise_cons.mpr ⟨fun _ _ a e => (nomatch e), O.apart⟩
  · cases hz with
    | tail _ hz => exact O.off z a hz

theorem comp2_turn (elt i0 i1 : Expr) (x y : Str) (px py pos : Pos) (scope : Scope) (I Dd : Addr) (cenv : Env) : compTurn (.ListComp elt [⟨.Name x px, i0, [], 0⟩, ⟨.Name y py, i1, [], 0⟩] scope pos) 0 (.ref I) (.ref Dd) cenv = (do
      standAt i0.pos
      match ← pyNext (.ref I) with
      | none => pure (.done .next)
      | some v =>
        letOwnedTupleGo (.Name x px) (.ref I) v
        assign (.Name x px) cenv v
        (do
          let v ← eval i1 cenv
          standAt i1.pos
          let v ← foldedSetIterable i1 cenv v
          let _ ← runOwn (.compStart (.ListComp elt [⟨.Name x px, i0, [], 0⟩, ⟨.Name y py, i1, [], 0⟩] scope pos) 1 (← holding [v] (pyIter v)) (.ref Dd) cenv) cenv)
        again (.compLoop (.ListComp elt [⟨.Name x px, i0, [], 0⟩, ⟨.Name y py, i1, [], 0⟩] scope pos) 0 (.ref I) (.ref Dd) cenv)) := by
  simp only [bind_assoc, pure_bind]
  rfl

section
variable {prog : Program} {w : World} {A : Around} {Γ : Cx} {M W : Forb} {σ σ' : List (Option D)} {ω ω' : Owns}

theorem Hx.enter2 {C : Addr} {scope : Scope} {cl : List (Str × Addr)} {x y : Str} {slots : Slots} {W' : Forb} {h : Heap} (H : Hx (compCx Γ scope cl y slots C) M W' (none :: σ') ω h) : Hx (comp2Cx Γ scope cl x y slots C) M W' (none :: none :: σ') ω h := by
  obtain ⟨m, hm, hv⟩ := H.vars
  refine ⟨H.base, H.new, ⟨m, hm, hv⟩, fun z a hz => ?_, H.own, H.ownM, H.ownL, fun p hp z hz => ?_, H.ownN, H.locM, fun z a hz => ?_, H.MW, H.live⟩
  · cases hz with
    | tail _ hz => exact H.cells z a hz
  · cases hz with
    | tail _ hz => exact H.ownC p hp z hz
  · cases hz with
    | tail _ hz => exact H.celW z a hz

theorem comp2_any {α β : Type} {elt i0 i1 : Expr} {x y : Str} {px py : Pos} {scope : Scope} {pos pos' : Pos} {cl : List (Str × Addr)} {slots : Slots} (as : List α) (g : α → D) (bs : α → List β) (g' f : α → β → D) (use : Option (Value → Sem Unit))
    (O : Γ.Ok) (hh : A.handled = none) (it : It prog w Γ A M W σ ω i0 (as.map g)) (c : Caps Γ.slots σ slots σ')
    (hclos : closureFor scope Γ.env = pure cl) (hcell : ∀ y ∈ scope.names, y.2 ≠ .cell) (hkind : scope.kind = .function) (hnames : ∀ y ∈ scope.names, y.2 = .local → scope.names.lookup y.1 = some .local) (hx : scope.names.lookup x = some .local) (hy : scope.names.lookup y = some .local)
    (hdx : (x == ("__debug__" : Str)) = false) (hdy : (y == ("__debug__" : Str)) = false) (hcel : ∀ y a, (y, some a) ∈ slots → (relabel scope Γ.env).names.lookup y = some .cell ∧ cl.lookup y = some a) (hyn : y ∉ slots.map (·.1)) (hxn : x ∉ y :: slots.map (·.1)) (hlen : (as.map fun a => (bs a).length).sum ≤ 1000000)
    (it1 : ∀ C W', (∀ b, W b → W' b) → (comp2Cx Γ scope cl x y slots C).Ok → ∀ a ∈ as, ∀ e, It prog w (comp2Cx Γ scope cl x y slots C) A (fun b => b = C ∨ M b) W' (some (g a) :: e :: σ') ω i1 ((bs a).map (g' a)))
    (elt_ : ∀ C W', (∀ b, W b → W' b) → (comp2Cx Γ scope cl x y slots C).Ok → ∀ a ∈ as, ∀ b ∈ bs a, Ev prog w (comp2Cx Γ scope cl x y slots C) A (fun b => b = C ∨ M b) W' (some (g a) :: some (g' a b) :: σ') ω elt (f a b))
    (s : Shared) (Q : Value → Shared → Prop) (E : Value → Shared → Prop) (H : Hx Γ M W σ ω s.heap)
    (hQ : ∀ D C vs n h' tk' m, Stays s.heap h' → s.heap.get? D = none → s.heap.get? C = none → D ≠ C → h'.get? D = some (listOf vs.toArray n) → h'.Ns C m → RdL (fun b => b = C ∨ b = D ∨ W b) h' ((as.map fun a => (bs a).map (f a)).flatten) vs →
      compPost (model prog w) A E use Q (.ref D) C (.ok .next) { s with heap := h', toks := tk' })
    (hs : ∀ x, foldedSetIterable i0 Γ.env x = pure x := by intro _; rfl) (hs1 : ∀ cenv x, foldedSetIterable i1 cenv x = pure x := by intro _ _; rfl) :
    wpAny (model prog w) A (comprehension (.ListComp elt [⟨.Name x px, i0, [], 0⟩, ⟨.Name y py, i1, [], 0⟩] scope pos) scope Γ.env pos' (newList []) false (eval i0 Γ.env) use) Q E s := by
  refine wpAny_comprehension_free rfl hs hclos hkind hnames (it s _ E H fun I h₁ tk₁ fp P St k₁ hI X => ?_)
  refine wpAny_newObj_type (wpAny_newFunctionEnv hcell (by intro y hy; simp at hy) (fun h₃ hns hsb => ?_) hkind)
  dsimp only at hns hsb ⊢
  generalize hH2 : h₁.push { cls := .type "list", dict := none, data := .seq ([] : List Value).toArray } = H2 at hns hsb ⊢
  have hCs : H2.objs.size = h₁.objs.size + 1 := by rw [← hH2, Heap.size_push]
  have hDC : h₁.objs.size ≠ H2.objs.size := by rw [hCs]; exact Nat.ne_of_lt (Nat.lt_succ_self _)
  have hD₁ : h₁.get? h₁.objs.size = none := get?_size _
  have hC₁ : h₁.get? H2.objs.size = none := by
    cases e : h₁.get? H2.objs.size with
    | none => rfl
    | some o => exact absurd (hCs ▸ Heap.lt_size e) (Nat.not_lt.mpr (Nat.le_succ _))
  have k₃ : Stays h₁ h₃ := fun b o e => hsb.extBut b o (fun q => by rw [q, hC₁] at e; cases e) (Heap.get?_push_of_some _ (hH2 ▸ Heap.get?_push_of_some _ e))
  have hacc : h₃.get? h₁.objs.size = some (listOf ([] : List Value).toArray 0) := hsb.extBut _ _ hDC (Heap.get?_push_of_some _ (hH2 ▸ Heap.get?_push_size _ rfl))
  generalize hDe : h₁.objs.size = Dd at hDC hD₁ hacc
  generalize hCe : H2.objs.size = C at hns hDC hC₁
  have hIl := X.live 0 _ X.st
  have hDs : s.heap.get? Dd = none := fresh_back k₁ hD₁
  have hCn : s.heap.get? C = none := fresh_back k₁ hC₁
  have hID : I ≠ Dd := fun q => by obtain ⟨o, e⟩ := hIl; rw [q, hD₁] at e; cases e
  have hIC : I ≠ C := fun q => by obtain ⟨o, e⟩ := hIl; rw [q, hC₁] at e; cases e
  have K₀ : Stays s.heap h₃ := k₁.trans k₃
  have Ok₁ : (compCx Γ scope cl y slots C).Ok := compCx_ok O hkind hy hdy c.sub c.cell hcel hyn fun y a hy q => by
    obtain ⟨v, o, e, _⟩ := H.cells y a (c.sub.subset hy); rw [q, hCn] at e; cases e
  have Ok' := comp2Cx_ok Ok₁ hx hdx hxn
  have H₁ : Hx (compCx Γ scope cl y slots C) (fun b => b = C ∨ M b) (fun b => b = I ∨ (b = C ∨ b = Dd ∨ W b)) (none :: σ') ω h₃ := by
    refine H.enter K₀ c hCn hns (fun b hb => .inr (.inr (.inr hb))) (.inr (.inl rfl)) (fun b hb => ?_) fun b hb => ?_
    · rcases hb with rfl | rfl | rfl | hb
      · exact .inr hI
      · exact .inr hCn
      · exact .inr hDs
      · exact .inl hb
    · rcases hb with rfl | rfl | rfl | hb
      · obtain ⟨o, e⟩ := hIl; exact ⟨o, k₃ _ _ e⟩
      · obtain ⟨o, _, _, e, _⟩ := hns; exact ⟨o, e⟩
      · exact ⟨_, hacc⟩
      · obtain ⟨o, e⟩ := H.live b hb; exact ⟨o, K₀ _ _ e⟩
  have H₀ : Hx (comp2Cx Γ scope cl x y slots C) (fun b => b = C ∨ M b) (fun b => b = I ∨ (b = C ∨ b = Dd ∨ W b)) (none :: none :: σ') ω h₃ := H₁.enter2
  have nM : ∀ b, s.heap.get? b = none → ¬ M b := fun b e x => H.fresh e (H.MW _ x)
  have nC : ∀ b, s.heap.get? b = none → ∀ z, (z, some b) ∉ ((x, none) :: (y, none) :: slots : Slots) := fun b e z hz => by
    cases hz with
    | tail _ hz =>
      cases hz with
      | tail _ hz => obtain ⟨v, o, e', _⟩ := H.cells z b (c.sub.subset hz); rw [e] at e'; cases e'
  have nB : ∀ b, s.heap.get? b = none → Γ.hb.get? b = none := fun b e => fresh_back H.base e
  have X' : Itr prog w (fun b => b = C ∨ b = Dd ∨ W b) I (as.map g) h₃ fp P St := by
    refine ⟨X.walks, (X.walks A hh).frame _ _ _ X.st fun b _ o e => k₃ b o e, X.live, fun b hb => ?_, fun i v hP => ?_, X.quiet⟩
    · rcases X.fpo b hb with h | ⟨⟨o, h⟩, hw⟩
      · exact .inl h
      · exact .inr ⟨⟨o, k₃ _ _ h⟩, fun x => x.elim (fun x => by rw [x, hC₁] at h; cases h) fun x => x.elim (fun x => by rw [x, hD₁] at h; cases h) hw⟩
    · obtain ⟨d, e, r⟩ := X.item i v hP
      exact ⟨d, e, r.sub fun b o e wb => ⟨fun x => x.elim (fun x => wb (.inl x)) fun x => x.elim (fun x => by rw [x, hC₁] at e; cases e) fun x => x.elim (fun x => by rw [x, hD₁] at e; cases e) fun x => wb (.inr x), k₃ b o e⟩⟩
  have loop : codeAny (model prog w) A (.compLoop (.ListComp elt [⟨.Name x px, i0, [], 0⟩, ⟨.Name y py, i1, [], 0⟩] scope pos) 0 (.ref I) (.ref Dd) (compEnvC scope cl C Γ.env)) (compPost (model prog w) A E use Q (.ref Dd) C)
      { s with heap := h₃, toks := tk₁ + ([] : List (Str × Value)).length } := by
    refine comp_loop (prog := prog) (w := w) (A := A) (slots := (x, none) :: (y, none) :: slots) (hb := Γ.hb) (M := fun b => b = C ∨ M b) (W := fun b => b = C ∨ b = Dd ∨ W b) (ω := ω) (σ := none :: none :: σ') (ds := []) (p := i0.pos) (px := px) (x := x)
      (emitM := do
        let v ← eval i1 (compEnvC scope cl C Γ.env)
        standAt i1.pos
        let v ← foldedSetIterable i1 (compEnvC scope cl C Γ.env) v
        let _ ← runOwn (.compStart (.ListComp elt [⟨.Name x px, i0, [], 0⟩, ⟨.Name y py, i1, [], 0⟩] scope pos) 1 (← holding [v] (pyIter v)) (.ref Dd) (compEnvC scope cl C Γ.env)) (compEnvC scope cl C Γ.env))
      as g (fun a => (bs a).map (f a)) (fun σ => ∃ e0 e1, σ = e0 :: e1 :: σ') Ok' hh (Ok'.loc x (.head _)) (comp2_turn ..) rfl rfl X' hIC hID (fun q => q.elim hDC (nM Dd hDs)) (fun q => q.elim hIC (nM I hI)) (nC I hI) (nB I hI) (fun b hb q => ?_) (fun b hb q => ?_) (.inr (.inl rfl)) ⟨_, _, rfl⟩ H₀ ⟨[], 0, hacc, .nil⟩ ?_ (fun a ha σ₁ hJ => ?_) (fun h' tk' σ₁ hJ H' hD' kk => ?_)
    · rcases X.fpo b hb with h | ⟨⟨o, h⟩, _⟩
      · exact hIC (h.symm.trans q)
      · have q : b = C := q
        rw [q, hC₁] at h; cases h
    · rcases X.fpo b hb with h | ⟨⟨o, h⟩, _⟩
      · exact hID (h.symm.trans q)
      · rw [q, hD₁] at h; cases h
    · have : (as.map fun a => ((bs a).map (f a)).length) = as.map fun a => (bs a).length := by
        apply List.map_congr_left; intro a _; rw [List.length_map]
      rw [this]; simpa using hlen
    · obtain ⟨e0, e1, rfl⟩ := hJ
      refine ⟨_, .head, ?_⟩
      have EI := Emit.inner (prog := prog) (w := w) (A := A) (cenv := compEnvC scope cl C Γ.env) (slots := (x, none) :: (y, none) :: slots) (hb := Γ.hb) (M := fun b => b = C ∨ M b) (W := fun b => b = I ∨ (b = C ∨ b = Dd ∨ W b)) (ω := ω) (σ := some (g a) :: e1 :: σ') (Dd := Dd) (elt := elt) (i0 := i0) (i1 := i1) (x := x) (y := y) (px := px) (py := py) (pos := pos) (scope := scope) (J := fun σ => ∃ e, σ = some (g a) :: e :: σ')
        (bs a) (g' a) (f a) Ok' hh (Ok'.loc y (.tail _ (.head _))) (it1 C _ (fun b hb => .inr (.inr (.inr hb))) Ok' a ha e1) ⟨_, rfl⟩ (.inr (.inr (.inl rfl))) (fun q => q.elim hDC (nM Dd hDs)) (nC Dd hDs) (nB Dd hDs)
        (fun b hb I' σ₁ hJ₁ => by
          obtain ⟨e, rfl⟩ := hJ₁
          exact ⟨_, ⟨_, rfl⟩, .tail .head, elt_ C _ (fun b hb => .inr (.inr (.inr (.inr hb)))) Ok' a ha b hb⟩) (hs1 _)
      exact fun s ds Q E H hD hl q => EI s ds Q E H hD hl fun h' tk' σ' hJ => q h' tk' σ' (let ⟨e, h⟩ := hJ; ⟨_, e, h⟩)
    · obtain ⟨vs, n, e, rl⟩ := hD'
      obtain ⟨m, hm, _⟩ := H'.vars
      refine hQ Dd C vs n h' tk' m (fun b o e => ?_) hDs hCn hDC e hm ?_
      · have nI : b ≠ I := fun q => by rw [q, hI] at e; cases e
        have nC' : b ≠ C := fun q => by rw [q, hCn] at e; cases e
        have nD : b ≠ Dd := fun q => by rw [q, hDs] at e; cases e
        exact kk b o nI nC' nD (K₀ b o e)
      · refine rl.sub fun b o e wb => ⟨fun x => wb ⟨.inr x, fun q => ?_⟩, e⟩
        subst q
        exact x.elim hIC fun x => x.elim hID fun x => H.fresh hI x
  subst hDe
  subst hCe
  exact codeAny_compStart_list loop ((X'.walks A hh).self 0 _ _ _ X'.st loop)
end
end Mine

-- F11
namespace Mine
open PySem PySem.Spec PySem.Calls PyProof.Rows PySem.W

section
variable {prog : Program} {w : World} {A : Around} {Γ : Cx} {M W : Forb} {σ σ' σ₂ : List (Option D)} {ω : Owns} {R : Flow → Heap → Prop}

theorem Xs.assignComp2 {α β : Type} {z : Str} {pz spos : Pos} {l : Option Addr} {elt i0 i1 : Expr} {x y : Str} {px py : Pos} {scope : Scope} {pos : Pos} {cl : List (Str × Addr)} {slots : Slots} {rest : List Stmt} (as : List α) (g : α → D) (bs : α → List β) (g' f : α → β → D)
    (O : Γ.Ok) (hh : A.handled = none) (it : It prog w Γ A M W σ ω i0 (as.map g)) (c : Caps Γ.slots σ slots σ') (V : VarSet Γ.slots σ z l (.list ((as.map fun a => (bs a).map (f a)).flatten)) σ₂) (hM : ∀ a, l = some a → M a)
    (hlen : (as.map fun a => (bs a).length).sum ≤ 1000000)
    (it1 : ∀ C W', (∀ b, W b → W' b) → (comp2Cx Γ scope cl x y slots C).Ok → ∀ a ∈ as, ∀ e, It prog w (comp2Cx Γ scope cl x y slots C) A (fun b => b = C ∨ M b) W' (some (g a) :: e :: σ') ω i1 ((bs a).map (g' a)))
    (elt_ : ∀ C W', (∀ b, W b → W' b) → (comp2Cx Γ scope cl x y slots C).Ok → ∀ a ∈ as, ∀ b ∈ bs a, Ev prog w (comp2Cx Γ scope cl x y slots C) A (fun b => b = C ∨ M b) W' (some (g a) :: some (g' a b) :: σ') ω elt (f a b))
    (k : Xs prog w Γ A (Hx Γ M W σ₂ ω) M rest R)
    (hsw : swapsWith (.ListComp elt [⟨.Name x px, i0, [], 0⟩, ⟨.Name y py, i1, [], 0⟩] scope pos) (some (.Name z pz)) spos.line Γ.env = pure true)
    (hclos : closureFor scope Γ.env = pure cl) (hcell : ∀ y ∈ scope.names, y.2 ≠ .cell) (hkind : scope.kind = .function) (hnames : ∀ y ∈ scope.names, y.2 = .local → scope.names.lookup y.1 = some .local) (hx : scope.names.lookup x = some .local) (hy : scope.names.lookup y = some .local)
    (hdx : (x == ("__debug__" : Str)) = false) (hdy : (y == ("__debug__" : Str)) = false) (hcel : ∀ y a, (y, some a) ∈ slots → (relabel scope Γ.env).names.lookup y = some .cell ∧ cl.lookup y = some a) (hyn : y ∉ slots.map (·.1)) (hxn : x ∉ y :: slots.map (·.1))
    (hs : ∀ x, foldedSetIterable i0 Γ.env x = pure x := by intro _; rfl) (hs1 : ∀ cenv x, foldedSetIterable i1 cenv x = pure x := by intro _ _; rfl) :
    Xs prog w Γ A (Hx Γ M W σ ω) M (.Assign [.Name z pz] (.ListComp elt [⟨.Name x px, i0, [], 0⟩, ⟨.Name y py, i1, [], 0⟩] scope pos) spos :: rest) R := by
  refine Xs.cons (P₁ := Hx Γ M W σ₂ ω) (fun s Q E H q => ?_) k
  rw [exec_Assign_Name_used _ _ _ _ hsw]
  refine wpAny_bind (wpAny_standAt (wpAny_bind ?_))
  show wpAny _ A (do let _ ← comprehension (.ListComp elt [⟨.Name x px, i0, [], 0⟩, ⟨.Name y py, i1, [], 0⟩] scope pos) scope Γ.env _ (newList []) false (eval i0 Γ.env) (some (PySem.assign (.Name z pz) Γ.env))) _ _ s
  refine wpAny_bind (comp2_any as g bs g' f (some _) O hh it c hclos hcell hkind hnames hx hy hdx hdy hcel hyn hxn hlen it1 elt_ s (fun _ s' => wpAny (model prog w) A _ _ E s') E H (fun Dd C vs n h' tk' m k hD hC hDC e hn rl => ?_) hs hs1)
  have hn' := hn
  obtain ⟨o, _, _, eC, _⟩ := hn'
  have H' := H.wide k hC ⟨o, eC⟩
  have hCM : ¬ M C := fun x => H.fresh hC (H.MW _ x)
  have hCc : ∀ x, (x, some C) ∉ Γ.slots := fun x hx => by obtain ⟨v, o, e, _⟩ := H.cells x C hx; rw [hC] at e; cases e
  have r : Rd (fun b => b = C ∨ W b) h' (.list ((as.map fun a => (bs a).map (f a)).flatten)) (.ref Dd) := .list e (fun x => x.elim hDC (H.fresh hD)) (rl.sub fun b o e wb => ⟨fun x => wb (x.elim .inl fun x => .inr (.inr x)), e⟩)
  refine wpAny_assign_Name (store_name O H' hM V r fun h₂ tk₂ k₂ H₂ => ?_)
  refine ⟨m, hn.at' fun o e => k₂ _ o e hCM, fun h₃ hs₃ => wpAny_pure (wpAny_pure (q _ h₃ _ ?_ ?_))⟩
  · intro b o e hm
    have e₂ := k₂ b o (k b o e) hm
    exact (hs₃.2 b fun q => by rw [q, hC] at e; cases e).trans e₂
  · have H₃ := H₂.stepEnd (h' := h₃) (.inl rfl) hCM hCc (fresh_back H.base hC) fun b o hb e => (hs₃.2 b hb).trans e
    exact H₃.weak (fun b hb => ⟨.inr hb, fun q => H.fresh hC (q ▸ hb)⟩) H.MW H.celW
end

section
variable {prog : Program} {w : World} {A : Around} {Γ : Cx} {M W : Forb} {σ : List (Option D)} {ω : Owns}
theorem EvF.upto {x hi : Expr} {pos spos : Pos} {d : D} {ds : List D} {k : Nat} (e : Ev prog w Γ A M W σ ω x d) (q : DL ω d ds) (pb : Ev prog w Γ A M W σ ω hi (natD k)) (hz : ds.length ≤ 1000000) : EvF prog w Γ A M W σ ω (.Subscript x (.Slice Option.none (some hi) Option.none spos) pos) (ds.take k) :=
  EvF.cut (a := Option.none) (b := some k) e q trivial pb (by intro x y e; cases e) hz
theorem EvF.since {x lo : Expr} {pos spos : Pos} {d : D} {ds : List D} {k : Nat} (e : Ev prog w Γ A M W σ ω x d) (q : DL ω d ds) (pb : Ev prog w Γ A M W σ ω lo (natD k)) (hz : ds.length ≤ 1000000) : EvF prog w Γ A M W σ ω (.Subscript x (.Slice (some lo) Option.none Option.none spos) pos) (ds.drop k) :=
  EvF.cut (a := some k) (b := Option.none) e q pb trivial (by intro x y _ e; cases e) hz
end

noncomputable def putAt (j : Nat) (row : List Nat) (k : Nat) : List Nat := row.take k ++ [j] ++ row.drop k
noncomputable def rowsAt : Nat → List (List Nat)
  | 0 => [[]]
  | j + 1 => ((rowsAt j).map fun row => (List.range (row.length + 1)).map (putAt j row)).flatten

theorem zspan_nat (n : Nat) : (zspan 0 (n : Int)).map D.int = (List.range n).map natD := by
  unfold zspan
  rw [List.map_map]
  have : ((n : Int) - 0).toNat = n := by omega
  rw [this]
  apply List.map_congr_left
  intro i _
  show D.int (0 + (i : Int)) = .int i
  congr 1; omega

section
variable {prog : Program} {w : World}
theorem fn_orders : Fn prog w 175 3 [] (.list (perms4.map rowD)) := by
  refine Fn.cell (k := 2) (ns := []) (rest := ["rows"]) (cx := "x") rfl rfl rfl (fun vs hv => ?_) (by decide) (by decide) (by decide) (fun n => rfl) rfl (by decide) rfl rfl rfl rfl fun A hb L W R G O => ?_
  · match vs, hv with
    | [], _ => rfl
  refine Xs.assign (d := .list ((rowsAt 0).map rowD)) O (Ev.list (Es.cons (Ev.list Es.nil) Es.nil)) .i0 ?_
  refine Xs.forIn R.hand (It.range1 (b := 4) (Ev.built G O rfl rfl) Ev.int (by decide) (by decide)) (fun j σ ω => ω = [] ∧ ∃ e, σ = [some (.list ((rowsAt j).map rowD)), e]) ⟨rfl, _, rfl⟩ (fun W' hW j d σ ω hd hJ => ?_) (fun σ ω hJ => ?_)
  · obtain ⟨rfl, e, rfl⟩ := hJ
    obtain ⟨hj, rfl⟩ := zspan_get hd
    have hj : j < 4 := hj
    have ej : (.int (0 + (j : Int)) : D) = natD j := by unfold natD; congr 1; omega
    rw [ej]
    have hlen : ∀ j, j < 4 → (∀ r ∈ rowsAt j, r.length = j) ∧ ((rowsAt j).map fun a => (List.range (a.length + 1)).length).sum ≤ 1000000 := by decide +kernel
    obtain ⟨hl1, hl2⟩ := hlen j hj
    refine ⟨_, Tg.name O .i1 (fun a e => by cases e; exact .inr rfl), ?_⟩
    refine Xs.assignComp2 (as := rowsAt j) (g := rowD) (bs := fun a => List.range (a.length + 1)) (g' := fun _ k => natD k) (f := fun a k => rowD (putAt j a k)) (slots := [("x", some (L + 1))]) (cl := [("x", L + 1)]) O R.hand (It.list (Ev.name O .i0)) (.skip (.keep .done)) .i0 (fun _ e => nomatch e) hl2
      (fun C W'' hW'' O' a ha e => ?_) (fun C W'' hW'' O' a ha k hk => ?_) (Xs.turn ?_) rfl rfl (by decide) rfl (by decide) rfl rfl (by decide) (by decide) (fun y a hy => ?_) (show Str.ofString "k" ∉ [Str.ofString "x"] from by decide) (show Str.ofString "row" ∉ [Str.ofString "k", Str.ofString "x"] from by decide)
    · have hla := hl1 a ha
      show It _ _ _ _ _ _ _ _ _ ((List.range (a.length + 1)).map natD)
      rw [← zspan_nat]
      have e1 : (((a.length + 1 : Nat) : Int)) = ((a.map natD).length : Int) + 1 := by rw [List.length_map]; push_cast; rfl
      rw [e1]
      exact It.range1 (Ev.built G O' rfl rfl) (Ev.bin (Ev.len (Ev.built G O' rfl rfl) (Ev.name O' .i0) (.inl rfl) (by rw [List.length_map]; omega)) Ev.int Bin.add) (by rw [List.length_map]; omega) (by rw [List.length_map]; omega)
    · have hla := hl1 a ha
      have hka := List.mem_range.mp hk
      have e1 : rowD (putAt j a k) = .list ((a.map natD).take k ++ [natD j] ++ (a.map natD).drop k) := by
        unfold rowD putAt
        rw [List.map_append, List.map_append, List.map_take, List.map_drop]; rfl
      rw [e1]
      have hml : (a.map natD).length = j := by rw [List.length_map, hla]
      refine EvF.ev (EvF.addL (EvF.ev (EvF.addL (EvF.ev (EvF.upto (Ev.name O' .i0) (.inl rfl) (Ev.name O' .i1) (by omega))) (.inl rfl) (Ev.list (Es.cons (Ev.name O' .i2) Es.nil)) (.inl rfl) ?_)) (.inl rfl) (EvF.ev (EvF.since (Ev.name O' .i0) (.inl rfl) (Ev.name O' .i1) (by omega))) (.inl rfl) ?_)
      · simp; omega
      · simp; omega
    · refine ⟨rfl, some (natD j), ?_⟩
      have : ((rowsAt j).map fun a => (List.range (a.length + 1)).map fun k => rowD (putAt j a k)).flatten = (rowsAt (j + 1)).map rowD := by
        show _ = (((rowsAt j).map fun row => (List.range (row.length + 1)).map (putAt j row)).flatten).map rowD
        rw [List.map_flatten, List.map_map]
        congr 1
        apply List.map_congr_left
        intro a _
        show _ = ((List.range (a.length + 1)).map (putAt j a)).map rowD
        rw [List.map_map]; rfl
      rw [this]
    · cases hy with
      | head => exact ⟨rfl, rfl⟩
      | tail _ h => cases h
  · obtain ⟨rfl, e, rfl⟩ := hJ
    have e4 : (List.map D.int (zspan 0 4)).length = 4 := rfl
    rw [e4]
    refine Xs.ret ?_ fun b => .inr
    exact EvF.ev (EvF.sortedRows (rs := rowsAt 4) (Ev.built G O rfl rfl) (Ev.name O .i0) (.inl rfl) (by decide +kernel) (by decide +kernel) (by decide +kernel) (by decide +kernel) (by have := R.uni; omega) (by decide +kernel) (by decide +kernel))
end
end Mine

-- F12
namespace Mine
open PySem PySem.Spec PySem.Calls PyProof.Rows PySem.W

section
variable {prog : Program} {w : World} {A : Around} {Γ : Cx} {M W : Forb} {σ σ' : List (Option D)} {ω ω' : Owns} {R : Flow → Heap → Prop}

theorem EvF.listOf {x : Str} {p pos : Pos} {e : Expr} {d : D} {ds : List D} (hf : Ev prog w Γ A M W σ ω (.Name x p) (.val (.type "list"))) (a : Ev prog w Γ A M W σ ω e d) (ka : DL ω d ds) (hz : ds.length ≤ 1000000)
    (he : starEach [e] Γ.env = (false, eval e Γ.env) :: starEach [] Γ.env := by rfl) : EvF prog w Γ A M W σ ω (.Call (.Name x p) [e] [] pos) ds := by
  intro s Q E H h
  rw [eval_CallName]
  refine wpAny_bind (hf s _ E H fun v h₁ tk₁ k₁ r₁ => ?_)
  cases r₁
  refine PyProof.Rows.callWith_type1 (wpAny_items_cons (a _ _ E (H.stays k₁) fun v h₂ tk₂ k₂ r₂ => wpAny_items_nil ?_) he) he rfl
  obtain ⟨l, vs, n, rfl, el, rl⟩ := ka.at ((H.stays k₁).stays k₂) r₂
  refine call_list_seq (s := { s with heap := h₂, toks := tk₂ }) l (.inl rfl) el rfl rfl (fun h₃ c k₃ e₃ => ?_) (by rw [List.size_toArray, rl.length, sizeLine_eq]; omega)
  have hf := get?_size h₂
  exact h _ vs c h₃ tk₂ ((k₁.trans k₂).trans k₃) (fresh_back (k₁.trans k₂) hf) e₃ (rl.sub (Sub.grow k₃ hf))

theorem Ts.borrow {x : Str} {l : Option Addr} {a : Addr} {ds : List D} {e : Expr} {b : Bool} (O : Γ.Ok) (hm : (a, .list ds) ∈ ω) (V : VarAt Γ.slots σ x l (.val (.ref a))) (V' : VarSet Γ.slots σ x l (.list ds) σ') (S : List.Sublist ω' ω) (hne : ∀ p ∈ ω', p.1 ≠ a)
    (k : Ts prog w Γ A (fun b => M b ∧ b ≠ a) (fun b => W b ∧ b ≠ a) σ' ω' e b) : Ts prog w Γ A M W σ ω e b :=
  fun s Q E H q => k s Q E (H.lend O hm V V' S hne) q

theorem Xs.append {o : Str} {op ap cp pos : Pos} {e : Expr} {a : Addr} {d : D} {ds : List D} {rest : List Stmt} (x : Ev prog w Γ A M W σ ω (.Name o op) (.val (.ref a))) (y : Ev prog w Γ A M W σ ω e d) (hz : ds.length ≤ 1000000)
    (S : OwnSet ω a (.list ds) (.list (ds ++ [d])) ω') (k : Xs prog w Γ A (Hx Γ M W σ ω') M rest R) (he : starEach [e] Γ.env = (false, eval e Γ.env) :: starEach [] Γ.env := by rfl) (hi : interactive Γ.env = false := by rfl) (hs : swapsWith (.Call (.Attribute (.Name o op) "append" ap) [e] [] cp) none pos.line Γ.env = pure false := by rfl)
    {pl : Sem Bool} (hpl : eval (.Call (.Attribute (.Name o op) "append" ap) [e] [] cp) Γ.env = (do
      let ov ← eval (.Name o op) Γ.env
      standAt ap.atName
      let (f, first) ← holding [ov] (getMethod ov "append" pl)
      callWith cp f first (backTo cp (starEach [e] Γ.env)) []) := by rfl) :
    Xs prog w Γ A (Hx Γ M W σ ω) M (.Expr (.Call (.Attribute (.Name o op) "append" ap) [e] [] cp) pos :: rest) R := by
  refine Xs.cons (P₁ := Hx Γ M W σ ω') (fun s Q E H q => ?_) k
  refine wpAny_Expr_any (MethodCall_ (x s _ E H fun v h₁ tk₁ k₁ r₁ => ?_) hpl) hi hs
  cases r₁
  have H₁ := H.stays k₁
  obtain ⟨vs, n, el, rl⟩ := H₁.own _ S.mem
  refine getMethod_list_append (s := { s with heap := h₁, toks := tk₁ }) el rfl rfl (callWith_method1 (wpAny_items_cons (y _ _ E H₁ fun u h₂ tk₂ k₂ r₂ => wpAny_items_nil ?_) he) he rfl)
  have H₂ := H₁.stays k₂
  refine wpAny_list_append_plain (s := { s with heap := h₂, toks := tk₂ }) (hsz := by rw [List.size_toArray, rl.length, sizeLine_eq]; omega) ⟨n, k₂ _ _ el⟩ fun h₃ hl₃ hs₃ => ?_
  obtain ⟨n₃, e₃⟩ := hl₃
  have hM := H₂.ownM _ S.mem
  have U : Sub W h₂ W h₃ := Sub.sameBut hs₃ (H₂.MW _ hM)
  exact q _ h₃ tk₂ ((Kp.of_stays (k₁.trans k₂)).trans (Kp.sameBut hs₃ hM)) (H₂.store_own S hs₃ ⟨vs ++ [u], n₃, by rw [e₃]; simp, ((rl.stays k₂).sub U).append (RdL.one (r₂.sub U))⟩)
end

noncomputable def turned (l x : Nat) : Nat := if x + 3 = l then l - 2 else if x + 2 = l then l - 3 else x
noncomputable def swapAt (l : Nat) (row : List Nat) : List Nat := if l < 3 then row.take l ++ [row.getD (l + 1) 0, row.getD l 0] ++ row.drop (l + 2) else row.map (turned l)
noncomputable def addRow (rows : List (List Nat)) (o : List Nat) : List (List Nat) := if o ∈ rows then rows else rows ++ [o]
noncomputable def grow1 (rows : List (List Nat)) (l : Nat) : List (List Nat) := rows.foldl (fun acc row => addRow acc (swapAt l row)) rows
noncomputable def someR (begin : List Nat) (letters : List Nat) : List (List Nat) := letters.foldl grow1 [begin]
/-- distinct rows of the four -/
noncomputable def Rows4 (rows : List (List Nat)) : Prop := rows.Nodup ∧ ∀ r ∈ rows, r ∈ perms4
theorem swapAt_perm : ∀ l : Nat, l < 6 → ∀ r ∈ perms4, swapAt l r ∈ perms4 ∧ swapAt l r ≠ r := by decide +kernel
theorem addRow_ok {rows : List (List Nat)} {o : List Nat} (h : Rows4 rows) (ho : o ∈ perms4) : Rows4 (addRow rows o) := by
  unfold addRow
  split
  · exact h
  · rename_i hn
    refine ⟨?_, fun r hr => (List.mem_append.mp hr).elim (h.2 r) fun e => by rw [List.mem_singleton.mp e]; exact ho⟩
    exact List.nodup_append.mpr ⟨h.1, by simp, fun a ha b hb e => hn (by rw [List.mem_singleton.mp hb] at e; exact e ▸ ha)⟩
theorem addRow_mem {rows : List (List Nat)} {o x : List Nat} : x ∈ addRow rows o ↔ x ∈ rows ∨ x = o := by
  unfold addRow
  split
  · rename_i h
    exact ⟨.inl, fun e => e.elim id fun e => e ▸ h⟩
  · simp
theorem Rows4.len {rows : List (List Nat)} (h : Rows4 rows) : rows.length ≤ 24 := List.Nodup.length_le_of_subset (l₂ := perms4) h.1 h.2
theorem fold_ok {l : Nat} (hl : l < 6) : ∀ (rs acc : List (List Nat)), (∀ r ∈ rs, r ∈ perms4) → Rows4 acc → Rows4 (rs.foldl (fun acc row => addRow acc (swapAt l row)) acc)
  | [], acc, _, h => h
  | r :: rs, acc, hr, h => fold_ok hl rs _ (fun x hx => hr x (.tail _ hx)) (addRow_ok h (swapAt_perm l hl r (hr r (.head _))).1)
theorem fold_mem {l : Nat} : ∀ (rs acc : List (List Nat)) (x : List Nat), x ∈ rs.foldl (fun acc row => addRow acc (swapAt l row)) acc ↔ x ∈ acc ∨ ∃ r ∈ rs, x = swapAt l r
  | [], acc, x => by simp
  | r :: rs, acc, x => by
    rw [List.foldl_cons, fold_mem rs, addRow_mem]
    constructor
    · rintro ((h | h) | ⟨y, hy, h⟩)
      · exact .inl h
      · exact .inr ⟨r, .head _, h⟩
      · exact .inr ⟨y, .tail _ hy, h⟩
    · rintro (h | ⟨y, hy, h⟩)
      · exact .inl (.inl h)
      · cases hy with
        | head => exact .inl (.inr h)
        | tail _ hy => exact .inr ⟨y, hy, h⟩
theorem grow1_ok {rows : List (List Nat)} {l : Nat} (hl : l < 6) (h : Rows4 rows) : Rows4 (grow1 rows l) := fold_ok hl rows rows h.2 h
theorem grow1_mem {rows : List (List Nat)} {l : Nat} {x : List Nat} : x ∈ grow1 rows l ↔ x ∈ rows ∨ ∃ r ∈ rows, x = swapAt l r := fold_mem rows rows x
theorem some_ok : ∀ (letters : List Nat) (rows : List (List Nat)), (∀ l ∈ letters, l < 6) → Rows4 rows → Rows4 (letters.foldl grow1 rows)
  | [], _, _, h => h
  | l :: ls, _, hl, h => some_ok ls _ (fun x hx => hl x (.tail _ hx)) (grow1_ok (hl l (.head _)) h)
theorem some_mono : ∀ (letters : List Nat) (rows : List (List Nat)) (x : List Nat), x ∈ rows → x ∈ letters.foldl grow1 rows
  | [], _, _, h => h
  | _ :: ls, _, x, h => some_mono ls _ x (grow1_mem.mpr (.inl h))
/-- the rows that _law_some gives -/
noncomputable def someL (begin : List Nat) (letters : List Nat) : List (List Nat) := perms4.filter fun r => decide (r ∈ someR begin letters)
theorem some_two {begin : List Nat} {l : Nat} {ls : List Nat} (hb : begin ∈ perms4) (hl : l < 6) : 2 ≤ (someR begin (l :: ls)).length := by
  have h1 : begin ∈ someR begin (l :: ls) := some_mono ls _ _ (grow1_mem.mpr (.inl (.head _)))
  have h2 : swapAt l begin ∈ someR begin (l :: ls) := some_mono ls _ _ (grow1_mem.mpr (.inr ⟨begin, .head _, rfl⟩))
  have hne := (swapAt_perm l hl begin hb).2
  have := List.Nodup.length_le_of_subset (l₁ := [swapAt l begin, begin]) (l₂ := someR begin (l :: ls)) (by simp [hne]) (fun x hx => by
    rcases List.mem_cons.mp hx with rfl | hx
    · exact h2
    · rw [List.mem_singleton.mp hx]; exact h1)
  simpa using this
end Mine

-- F13
namespace Mine
open PySem PySem.Spec PySem.Calls PyProof.Rows PySem.W

noncomputable def rowP (r : List Nat) : PyData := .list (r.map fun (x : Nat) => PyData.int (x : Int))
theorem rowP_py (r : List Nat) : Py (rowD r) (rowP r) := .list (PyL.map fun x _ => .int _)
theorem rowP_eqv (r s : List Nat) : PyData.eqv (rowP r) (rowP s) = decide (r = s) := by
  show PyData.eqvAll _ _ = _
  refine eqv_mapEq (fun x y => ?_) r s
  show ((x : Int) == (y : Int)) = _
  by_cases h : x = y
  · subst h; simp
  · have : ¬ (x : Int) = (y : Int) := by omega
    rw [decide_eq_false h]; simpa using this
theorem rowP_lay (r : List Nat) : (rowP r).canLay0 = true := canLay_map fun _ _ => rfl
theorem rowP_depth (r : List Nat) : (rowP r).depth ≤ 1 := Nat.succ_le_succ (depth_map fun _ _ => Nat.le_refl 0)
theorem rowP_any (rows : List (List Nat)) (o : List Nat) : (rows.map rowP).any (fun y => PyData.eqv y (rowP o)) = decide (o ∈ rows) := by
  induction rows with
  | nil => simp
  | cons r rows ih =>
    rw [List.map_cons, List.any_cons, ih, rowP_eqv]
    by_cases h : r = o
    · subst h; simp
    · have : ¬ o = r := fun e => h e.symm
      simp [h, this]

theorem perms_one : ∀ b ∈ perms4, Rows4 [b] := fun b hb => ⟨by simp, fun r hr => by rw [List.mem_singleton.mp hr]; exact hb⟩
theorem perms_sorted : perms4.Pairwise (fun a b => ltN a b = true) := by decide +kernel
theorem perms_nodup : perms4.Nodup := by decide +kernel

section
variable {prog : Program} {w : World}
noncomputable abbrev stS (begin ls : List Nat) (a : Addr) (r : List (Option D)) : List (Option D) := some (rowD begin) :: some (.list (ls.map natD)) :: some (.val (.ref a)) :: r

theorem fn_some {begin ls : List Nat} (hb : begin ∈ perms4) (hl : ∀ l ∈ ls, l < 6) (h1 : 1 ≤ ls.length) (hz : ls.length ≤ 1000) : Fn prog w 170 3 [rowD begin, .list (ls.map natD)] (.list ((someL begin ls).map rowD)) := by
  refine Fn.cell (k := 4) (ns := ["begin", "letters"]) (rest := ["rows", "row", "other"]) (cx := "letter") rfl rfl rfl (fun vs hv => ?_) (by decide) (by decide) (by decide) (fun n => rfl) rfl (by decide) rfl rfl rfl rfl fun A hb₀ L W R G O => ?_
  · match vs, hv with
    | [_, _], _ => rfl
  have hu : A.units + 64 < cLine := by have := R.uni; omega
  refine Xs.own O (EvF.list (Es.cons (Ev.name O .i0) Es.nil)) (fun b => .i2) fun a => ?_
  refine Xs.forIn R.hand (It.list (Ev.name O .i1)) (fun i σ ω => (∃ e3 e4 e5, σ = stS begin ls a [e3, e4, e5]) ∧ ω = [(a, .list (((ls.take i).foldl grow1 [begin]).map rowD))]) ⟨⟨_, _, _, rfl⟩, rfl⟩ (fun W' hW i d σ ω hd hJ => ?_) (fun σ ω hJ => ?_)
  · obtain ⟨⟨e3, e4, e5, rfl⟩, rfl⟩ := hJ
    rw [List.getElem?_map] at hd
    obtain ⟨l, el, rfl⟩ := Option.map_eq_some_iff.mp hd
    have hl6 := hl l (List.mem_of_getElem? el)
    have hR := some_ok (ls.take i) [begin] (fun y hy => hl y (List.mem_of_mem_take hy)) (perms_one begin hb)
    have et : (ls.take (i + 1)).foldl grow1 [begin] = grow1 ((ls.take i).foldl grow1 [begin]) l := by rw [List.take_add_one, el, List.foldl_append]; rfl
    generalize (ls.take i).foldl grow1 [begin] = rows at hR et
    have hlen := hR.len
    refine ⟨_, Tg.name O .i5 (fun a e => by cases e; exact .inr (.inr rfl)), ?_⟩
    refine Xs.forIn R.hand (It.list (EvF.ev (EvF.listOf (ds := rows.map rowD) (Ev.built G O rfl rfl) (Ev.name O .i2) (.inr ⟨a, rfl, .head _⟩) (by rw [List.length_map]; omega))))
      (fun j σ ω => (∃ e3 e4, σ = stS begin ls a [e3, e4, some (natD l)]) ∧ ω = [(a, .list (((rows.take j).foldl (fun acc row => addRow acc (swapAt l row)) rows).map rowD))]) ⟨⟨_, _, rfl⟩, rfl⟩ (fun W'' hW' j d σ ω hd hJ => ?_) (fun σ ω hJ => ?_)
    · obtain ⟨⟨e3, e4, rfl⟩, rfl⟩ := hJ
      rw [List.getElem?_map] at hd
      obtain ⟨r, er, rfl⟩ := Option.map_eq_some_iff.mp hd
      have hr := hR.2 r (List.mem_of_getElem? er)
      have hr4 := perm_len r hr
      obtain ⟨hsp, _⟩ := swapAt_perm l hl6 r hr
      have hacc := fold_ok hl6 (rows.take j) rows (fun x hx => hR.2 x (List.mem_of_mem_take hx)) hR
      have et' : (rows.take (j + 1)).foldl (fun acc row => addRow acc (swapAt l row)) rows = addRow ((rows.take j).foldl (fun acc row => addRow acc (swapAt l row)) rows) (swapAt l r) := by
        rw [List.take_add_one, er, List.foldl_append]; rfl
      generalize (rows.take j).foldl (fun acc row => addRow acc (swapAt l row)) rows = acc at hacc et'
      refine ⟨_, Tg.name O .i3 (fun _ e => nomatch e), ?_⟩
      have hml : (r.map natD).length = 4 := by rw [List.length_map, hr4]
      have hat : ∀ k, k < 4 → (r.map natD)[((k : Nat) : Int).toNat]? = some (natD (r.getD k 0)) := fun k hk => by
        rw [Int.toNat_natCast, List.getElem?_map]
        have : k < r.length := by omega
        simp [this]
      refine Xs.iteE (α := Unit) (b := decide ((l : Int) < 3)) (fun _ => stS begin ls a [some (rowD r), some (rowD (swapAt l r)), some (natD l)]) (fun _ => [(a, .list (acc.map rowD))]) (Ts.cmp (Ev.name O .i5) Ev.int Cmp.lt) (fun h3 => ?_) (fun h3 => ?_) (fun _ => ?_)
      · have h3 : l < 3 := by have := of_decide_eq_true h3; omega
        have e1 : rowD (swapAt l r) = .list ((r.map natD).take l ++ [natD (r.getD (l + 1) 0), natD (r.getD l 0)] ++ (r.map natD).drop (l + 2)) := by
          unfold rowD swapAt
          rw [if_pos h3, List.map_append, List.map_append, List.map_take, List.map_drop]; rfl
        refine Xs.assign (d := rowD (swapAt l r)) O ?_ .i4 (Xs.nil fun hp H => ⟨(), H⟩)
        rw [e1]
        refine EvF.ev (EvF.addL (EvF.ev (EvF.addL (EvF.ev (EvF.upto (Ev.name O .i3) (.inl rfl) (Ev.name O .i5) (by omega))) (.inl rfl) (Ev.list (Es.cons (Ev.item (k := ((l + 1 : Nat) : Int)) (Ev.name O .i3) (.inl rfl) (Ev.bin (Ev.name O .i5) Ev.int Bin.add) (by omega) (hat (l + 1) (by omega)) (hz := by omega)) (Es.cons (Ev.item (k := ((l : Nat) : Int)) (Ev.name O .i3) (.inl rfl) (Ev.name O .i5) (by omega) (hat l (by omega)) (hz := by omega)) Es.nil))) (.inl rfl) ?_)) (.inl rfl) (EvF.ev (EvF.since (k := l + 2) (Ev.name O .i3) (.inl rfl) (Ev.bin (Ev.name O .i5) Ev.int Bin.add) (by omega))) (.inl rfl) ?_)
        · simp; omega
        · simp; omega
      · have h3 : ¬ l < 3 := by have := of_decide_eq_false h3; omega
        have e1 : ((r.filter fun _ => true).map fun x => natD (turned l x)) = (swapAt l r).map natD := by
          rw [List.filter_eq_self.mpr fun _ _ => rfl]
          unfold swapAt
          rw [if_neg h3, List.map_map]; rfl
        refine Xs.assignComp (slots := [("letter", some (L + 1))]) (cl := [("letter", L + 1)]) r natD (fun x => natD (turned l x)) (fun _ => true) O R.hand (It.list (Ev.name O .i3)) (.skip (.skip (.skip (.skip (.skip (.keep .done)))))) .i4 (fun C W₃ hW₃ O' x hx => ⟨Tss.nil, fun _ => ?_⟩) (by omega) ?_ (hcel := fun y b hy => by
          cases hy with
          | head => exact ⟨rfl, rfl⟩
          | tail _ h => cases h) (hxn := show Str.ofString "x" ∉ [Str.ofString "letter"] from by decide)
        · have hx4 := perm_lt r hr x hx
          have c1 : ((x : Int) == (l : Int) - 3) = decide (x + 3 = l) := by
            by_cases q : x + 3 = l
            · rw [decide_eq_true q]; simp; omega
            · rw [decide_eq_false q]; simp; omega
          have c2 : ((x : Int) == (l : Int) - 2) = decide (x + 2 = l) := by
            by_cases q : x + 2 = l
            · rw [decide_eq_true q]; simp; omega
            · rw [decide_eq_false q]; simp; omega
          have d2 : (.int ((l : Int) - 2) : D) = natD (l - 2) := by unfold natD; congr 1; omega
          have d3 : (.int ((l : Int) - 3) : D) = natD (l - 3) := by unfold natD; congr 1; omega
          refine Ev.ite (b := decide (x + 3 = l)) (Ts.cmp (Ev.name O' .i0) (Ev.bin (Ev.name O' .i1) Ev.int Bin.sub) (c1 ▸ Cmp.eq)) (fun h => ?_) (fun h => ?_)
          · have : turned l x = l - 2 := by unfold turned; rw [if_pos (of_decide_eq_true h)]
            rw [this, ← d2]
            exact Ev.bin (Ev.name O' .i1) Ev.int Bin.sub
          · refine Ev.ite (b := decide (x + 2 = l)) (Ts.cmp (Ev.name O' .i0) (Ev.bin (Ev.name O' .i1) Ev.int Bin.sub) (c2 ▸ Cmp.eq)) (fun h' => ?_) (fun h' => ?_)
            · have : turned l x = l - 3 := by unfold turned; rw [if_neg (of_decide_eq_false h), if_pos (of_decide_eq_true h')]
              rw [this, ← d3]
              exact Ev.bin (Ev.name O' .i1) Ev.int Bin.sub
            · have : turned l x = x := by unfold turned; rw [if_neg (of_decide_eq_false h), if_neg (of_decide_eq_false h')]
              rw [this]
              exact Ev.name O' .i0
        · rw [e1]; exact Xs.nil fun hp H => ⟨(), H⟩
      · have hal := hacc.len
        refine Xs.one (X1.ite (b := !(acc.map rowP).any fun y => PyData.eqv y (rowP (swapAt l r))) (Ts.borrow (ω' := []) O (.head _) .i2 .i2 (List.nil_sublist _) (fun p hp => nomatch hp) (Ts.cmp (Ev.name O .i4) (Ev.name O .i2) (Cmp.notInD (rowP_py _) (PyL.map fun x _ => rowP_py x) (rowP_lay _) (canLay_map fun x _ => rowP_lay x) (by have := rowP_depth (swapAt l r); omega) hu))) (fun hc => ?_) (fun hc => ?_))
        · rw [rowP_any] at hc
          have hn : swapAt l r ∉ acc := by simpa using hc
          have ha : addRow acc (swapAt l r) = acc ++ [swapAt l r] := by unfold addRow; rw [if_neg hn]
          refine Xs.append (Ev.name O .i2) (Ev.name O .i4) (by rw [List.length_map]; omega) .head (Xs.nil fun hp H => ⟨_, _, ⟨⟨_, _, rfl⟩, ?_⟩, H⟩)
          rw [et', ha, List.map_append]; rfl
        · rw [rowP_any] at hc
          have hn : swapAt l r ∈ acc := by simpa using hc
          have ha : addRow acc (swapAt l r) = acc := by unfold addRow; rw [if_pos hn]
          exact Xs.nil fun hp H => ⟨_, _, ⟨⟨_, _, rfl⟩, by rw [et', ha]⟩, H⟩
    · obtain ⟨⟨e3, e4, rfl⟩, rfl⟩ := hJ
      refine Xs.nil fun hp H => ⟨_, _, ⟨⟨_, _, _, rfl⟩, ?_⟩, H⟩
      rw [List.length_map, List.take_length, et]; rfl
  · obtain ⟨⟨e3, e4, e5, rfl⟩, rfl⟩ := hJ
    rw [List.length_map, List.take_length]
    have hR : Rows4 (someR begin ls) := some_ok ls [begin] hl (perms_one begin hb)
    have h2 : 2 ≤ (someR begin ls).length := by
      match ls, h1, hl with
      | l :: ls, _, hl => exact some_two hb (hl l (.head _))
    have hlen := hR.len
    refine Xs.ret ?_ fun b x => .inr (.inr x)
    refine EvF.ev (EvF.sortedRows (rs := someR begin ls) (L := someL begin ls) (Ev.built G O rfl rfl) (Ev.name O .i2) (.inr ⟨a, rfl, .head _⟩) (fun r hr => perm_len r (hR.2 r hr)) hR.1 h2 (by omega) (by omega) ?_ ?_)
    · refine (List.perm_ext_iff_of_nodup (perms_nodup.sublist List.filter_sublist) hR.1).mpr fun r => ?_
      rw [List.mem_filter]
      exact ⟨fun h => of_decide_eq_true h.2, fun h => ⟨hR.2 r h, decide_eq_true h⟩⟩
    · exact perms_sorted.sublist List.filter_sublist
end
end Mine

-- L28
namespace Mine
open PySem PySem.Spec PySem.Calls PyProof.Rows PySem.W

section
variable {prog : Program} {w : World} {A : Around} {Γ : Cx} {M W : Forb} {σ σ' : List (Option D)} {ω ω' : Owns} {R : Flow → Heap → Prop}

/-- the script: a list of the caller's -/
structure Scr (h : Heap) (l : Addr) (ns : List Int) : Prop where
  ls : ∃ vs : List Value, h.IsList l vs.toArray ∧ IntsAre vs ns
theorem ints_rd {W : Forb} {h : Heap} : ∀ {vs : List Value} {ns : List Int}, IntsAre vs ns → RdL W h (ns.map .int) vs
  | _, _, .nil => .nil
  | _, _, .cons n t r => .cons (.int n t) (ints_rd r)

theorem It.script {e : Expr} {l : Addr} {ns : List Int} (S : Scr Γ.hb l ns) (hM : ¬ W l) (a : Ev prog w Γ A M W σ ω e (.val (.ref l))) : It prog w Γ A M W σ ω e (ns.map .int) := by
  intro s Q E H h
  refine a s _ E H fun v h₁ tk₁ k₁ r₁ => ?_
  cases r₁
  obtain ⟨vs, hl, hi⟩ := S.ls
  have hl₁ : h₁.IsList l vs.toArray := hl.at fun o e => k₁ _ _ (H.base _ _ e)
  have p : RdL W h₁ (ns.map .int) vs := ints_rd hi
  obtain ⟨o, q, _⟩ := id hl₁
  have hne : l ≠ h₁.objs.size := fun x => by rw [x, get?_size] at q; cases q
  have hln : (ns.map D.int).length = vs.toArray.size := by rw [List.size_toArray, p.length]
  refine wpAny_pyIter_list (s := { s with heap := h₁, toks := tk₁ }) hl₁ (h h₁.objs.size _ tk₁ [h₁.objs.size, l] (fun i v => vs.toArray[i]? = some v) (fun i h => h.IsListIter h₁.objs.size l i ∧ h.IsList l vs.toArray) (k₁.trans (Stays.push _ _)) (fresh_back k₁ (get?_size h₁)) ?_)
  refine ⟨fun A' hh => hln ▸ Walks.list hh _ l hne vs.toArray, ⟨⟨_, Heap.get?_push_size _ rfl, rfl, rfl⟩, hl₁.push _⟩, fun i h st => let ⟨o, e, _⟩ := st.1; ⟨o, e⟩, fun b hb => ?_, fun i v e => ?_, fun i target v A' s Q E _ st hq => letGo_listiter st.1 hq⟩
  · rcases List.mem_cons.mp hb with rfl | hb
    · exact .inl rfl
    · rw [List.mem_singleton.mp hb]
      exact .inr ⟨⟨_, Stays.push _ _ _ _ q⟩, hM⟩
  · obtain ⟨d, e', r⟩ := p.get (by simpa using e)
    exact ⟨d, e', r.sub (Sub.grow (Stays.push _ _) (get?_size _))⟩

theorem EvF.scriptUpto {x hi : Expr} {pos spos : Pos} {l : Addr} {ns : List Int} {k : Nat} (S : Scr Γ.hb l ns) (e : Ev prog w Γ A M W σ ω x (.val (.ref l))) (pb : Ev prog w Γ A M W σ ω hi (natD k)) (hz : ns.length ≤ 1000000) :
    EvF prog w Γ A M W σ ω (.Subscript x (.Slice Option.none (some hi) Option.none spos) pos) ((ns.take k).map .int) := by
  intro s Q E H h
  refine Subscript_ (e s _ E H fun v h₁ tk₁ k₁ r₁ => ?_)
  have H₁ := H.stays k₁
  cases r₁
  rw [eval_Slice2]
  have p0 : Pt prog w Γ A M W σ ω Option.none Option.none := trivial
  have pk : Pt prog w Γ A M W σ ω (some hi) (some k) := pb
  refine wpAny_bind (part_ev p0 _ _ E H₁ fun l₀ h₂ tk₂ k₂ p₂ => wpAny_bind (wpAny_holding (part_ev pk _ _ E (H₁.stays k₂) fun u h₃ tk₃ k₃ p₃ => ?_)))
  have H₃ := (H₁.stays k₂).stays k₃
  obtain ⟨vs, hl, hn⟩ := S.ls
  have hl₃ : h₃.IsList l vs.toArray := hl.at fun o e => H₃.base _ _ e
  have rl : RdL W h₃ (ns.map .int) vs := ints_rd hn
  have hvl := rl.length
  rw [List.length_map] at hvl
  refine wpAny_bind (wpAny_holding (wpAny_pure (wpAny_newObj_type ?_)))
  refine tail_any (T := "list") (Heap.IsList.typeIs (s := { s with heap := h₃.push { cls := .type "slice", data := .fields #[l₀, u, .none] }, toks := tk₃ }) (hl₃.push _)) list_getitem_lookup
    (wpAny_getItem_list_slice (s := { s with heap := h₃.push { cls := .type "slice", data := .fields #[l₀, u, .none] }, toks := tk₃ }) (hl₃.push _) (Heap.IsSliceOf.new ..) p₂ p₃ .none (by simp) ?_ (by rw [List.size_toArray, hvl, sizeLine_eq]; omega)) (by with_unfolding_all rfl)
  have hf := get?_size (h₃.push { cls := .type "slice", data := .fields #[l₀, u, .none] })
  have st : Stays s.heap (h₃.push { cls := .type "slice", data := .fields #[l₀, u, .none] }) := ((k₁.trans k₂).trans k₃).trans (Stays.push _ _)
  rw [pick_cut vs Option.none (some k) fun x y e₁ e₂ => by cases e₁]
  have rk := rl.take k
  rw [← List.map_take] at rk
  exact h _ (lcut vs Option.none (some k)) 0 _ _ (st.trans (Stays.push _ _)) (fresh_back st hf) (Heap.get?_push_size _ rfl) ((rk.stays (Stays.push _ _)).sub (Sub.grow (Stays.push _ _) hf))

theorem ints_items {W : Forb} {h : Heap} : ∀ {is : List Int} {vs : List Value}, RdL W h (is.map .int) vs → ∃ xs : List (Int × Tok), vs = xs.map (fun p => .int p.1 p.2) ∧ xs.map (·.1) = is
  | [], _, r => by cases r; exact ⟨[], rfl, rfl⟩
  | i :: is, _, r => by
    cases r with
    | cons a b =>
      cases a with
      | int _ t =>
        obtain ⟨xs, e1, e2⟩ := ints_items b
        exact ⟨(i, t) :: xs, by rw [e1]; rfl, by rw [List.map_cons, e2]⟩

theorem Bf.sum {is : List Int} (hh : A.handled = Option.none) : Bf prog w A (.builtin "sum") [.list (is.map .int)] (.int is.sum) := by
  intro W s vs Q E hW r h
  obtain ⟨_, rfl, rv⟩ := r.one_inv
  obtain ⟨_, us, _, rfl, e, hw, p⟩ := rv.list_inv
  ·
    obtain ⟨xs, rfl, e2⟩ := ints_items p
    refine sum_intListG (xs := xs.toArray) hh ⟨_, e, rfl, _, show Data.seq (List.map (fun p : Int × Tok => Value.int p.1 p.2) xs).toArray _ = Data.seq (intItems xs.toArray) _ from by simp [intItems]; rfl⟩ fun h' tk t' k => ?_
    rw [preSum_eq, List.take_of_length_le (by simp)]
    rw [show xs.toArray.toList.map (·.1) = is from by simpa using e2]
    exact h _ h' tk k (.int _ _)

/-- a method of a Whitespace, of any expression -/
theorem Ev.methE {o : Expr} {nm : Str} {apos pos : Pos} {f : Addr} {e : Expr} {es : List Expr} {c : WS} {ds : List D} {d : D} {n : Nat} (G : Gl w Γ.hb) (R : Rm A n) (a : Ev prog w Γ A M W σ ω o (.ws c))
    (hf : findIn (Kf w.params) (.ref 83) nm = some (some (.ref f))) (ht : typeIn (Kf w.params) (.ref f) = some (.type "function")) (hsh : ∀ es k, (∃ h1 h2 h3 h4 h5 t1 t2 t3 t4 t5 v1 v2 v3 v4 v5, es = ([⟨h1, .str "raw" t1, v1⟩, ⟨h2, .str "n" t2, v2⟩, ⟨h3, .str "nt" t3, v3⟩, ⟨h4, .str "norm" t4, v4⟩, ⟨h5, .str "is_simple" t5, v5⟩] : List DictEntry)) → shadowIn (some (dictOf es k)) nm = some false)
    (hke : keepIn (Kf w.params) (.ref f) = true) (b : Es prog w Γ A M W σ ω (e :: es) ds) (cc : Fn prog w f n (.ws c :: ds) d)
    (he : starEach (e :: es) Γ.env = (false, eval e Γ.env) :: starEach es Γ.env := by rfl) (hst : (backTo pos (starEach es Γ.env)).any (·.1) = false := by rfl)
    {pl : Sem Bool} (hpl : eval (.Call (.Attribute o nm apos) (e :: es) [] pos) Γ.env = (do
      let ov ← eval o Γ.env
      standAt apos.atName
      let (f, first) ← holding [ov] (getMethod ov nm pl)
      callWith pos f first (backTo pos (starEach (e :: es) Γ.env)) []) := by rfl) :
    Ev prog w Γ A M W σ ω (.Call (.Attribute o nm apos) (e :: es) [] pos) d := by
  intro s Q E H h
  refine MethodCall_ (a s _ E H fun v h₁ tk₁ k₁ r₁ => ?_) hpl
  have H₁ := H.stays k₁
  have G₁ := G.stays H₁.base
  have r₁' := r₁
  cases r₁' with
  | @ws a dx k h1 h2 h3 h4 h5 t1 t2 t3 t4 t5 u1 u2 u3 nv _ cs e1 w1 e2 w2 q r =>
    refine method_fn (s := { s with heap := h₁, toks := tk₁ }) (C := 83) (ox := instObj cWS dx) (od := some (dictOf _ k)) G₁.K ⟨e1, rfl, rfl, e2⟩ (k_ga _) (k_gat _) hf ht (hsh _ k ⟨_, _, _, _, _, _, _, _, _, _, _, _, _, _, _, rfl⟩) ?_
    refine callWith_K (h₀ := Γ.hb) G.K hke (b pos _ _ E H₁ fun vs h₂ tk₂ k₂ r₂ => ⟨(G₁.stays k₂).K, ?_⟩) he hst
    have H₂ := H₁.stays k₂
    exact cc A W _ _ Q E R (G.stays H₂.base) H₂.live (.cons (r₁.stays k₂) r₂) fun v h₃ tk₃ k₃ r₃ => h v h₃ tk₃ ((k₁.trans k₂).trans k₃) r₃
end
end Mine

-- L29
namespace Mine
open PySem PySem.Spec PySem.Calls PyProof.Rows PySem.W

section
variable {prog : Program} {w : World} {A : Around} {Γ : Cx} {M W : Forb} {σ σ' : List (Option D)} {ω ω' : Owns} {R : Flow → Heap → Prop}

/-- the place of a text in a list of texts -/
theorem Ev.index {n : Str} {xp apos pos : Pos} {e : Expr} {xs : List Str} {t : Str} {j : Nat} (a : Ev prog w Γ A M W σ ω (.Name n xp) (.list (xs.map .str))) (b : Ev prog w Γ A M W σ ω e (.str t)) (hj : xs[j]? = some t) (hno : ∀ i, i < j → xs[i]? ≠ some t) (hz : xs.length ≤ 1000)
    (he : starEach [e] Γ.env = (false, eval e Γ.env) :: starEach [] Γ.env := by rfl)
    {pl : Sem Bool} (hpl : eval (.Call (.Attribute (.Name n xp) "index" apos) [e] [] pos) Γ.env = (do
      let ov ← eval (.Name n xp) Γ.env
      standAt apos.atName
      let (f, first) ← holding [ov] (getMethod ov "index" pl)
      callWith pos f first (backTo pos (starEach [e] Γ.env)) []) := by rfl) :
    Ev prog w Γ A M W σ ω (.Call (.Attribute (.Name n xp) "index" apos) [e] [] pos) (natD j) := by
  intro s Q E H h
  refine MethodCall_ (a s _ E H fun v h₁ tk₁ k₁ r₁ => ?_) hpl
  cases r₁ with
  | @list l vs n _ el wl rl =>
    refine getMethod_builtin (s := { s with heap := h₁, toks := tk₁ }) ⟨_, el, rfl⟩ PySem.F.plainAttrs_list PySem.F.slot_list_index PySem.F.type_list_index (fun a e => by cases e; exact ⟨_, el, rfl⟩)
      (callWith_method1 (wpAny_items_cons (b _ _ E (H.stays k₁) fun v h₂ tk₂ k₂ r₂ => wpAny_items_nil ?_) he) he rfl)
    cases r₂ with
    | str _ u =>
      have el₂ := k₂ _ _ el
      have hvl := rl.length
      rw [List.length_map] at hvl
      have hjl : j < xs.length := (List.getElem?_eq_some_iff.mp hj).1
      have at_ : ∀ i (hi : i < vs.toArray.size), ∃ y t', vs.toArray[i] = .str y t' ∧ xs[i]? = some y := fun i hi => by
        have hi' : i < vs.length := by simpa using hi
        obtain ⟨d, ed, rd⟩ := rl.get (i := i) (v := vs[i]) (by simp [hi'])
        rw [List.getElem?_map] at ed
        obtain ⟨y, ey, rfl⟩ := Option.map_eq_some_iff.mp ed
        have e1 : vs.toArray[i] = vs[i] := by simp
        rw [e1]
        generalize vs[i] = v at rd
        cases rd with
        | str _ t' => exact ⟨y, t', rfl, ey⟩
      let eq : Value → Bool := fun v => match v with | .str y _ => y == t | _ => false
      refine call_meets (s := { s with heap := h₂, toks := tk₂ }) PySem.F.slot_list_index ⟨_, el₂, rfl⟩ PySem.F.entry_list_index (PySem.F.args_list_index_2 _ _)
        (PySem.SeqAt.list_indexAt l vs.toArray n Option.none #[] (.str t u) eq j (by rw [List.size_toArray]; omega) (by omega) ?_ ?_) ⟨el₂, fun y hy => ?_, h _ _ _ (k₁.trans k₂) (.int _ _)⟩
      · obtain ⟨y, t', e1, e2⟩ := at_ j (by rw [List.size_toArray]; omega)
        rw [hj] at e2
        rw [e1]
        show (y == t) = true
        cases e2; simp
      · intro i hi hij
        obtain ⟨y, t', e1, e2⟩ := at_ i hi
        rw [e1]
        show (y == t) = false
        exact beq_eq_false_iff_ne.mpr fun q => hno i hij (by rw [e2, q])
      · obtain ⟨i, hi, rfl⟩ := Array.getElem_of_mem hy
        obtain ⟨y, t', e1, e2⟩ := at_ i hi
        rw [e1]
        exact PySem.SeqAt.EqAt.str_str y t' t u

/-- a name takes a new dict, the frame's own from here on -/
theorem Xs.newDict {x : Str} {l : Option Addr} {p dp pos : Pos} {rest : List Stmt} {σ' : Addr → List (Option D)} (O : Γ.Ok) (V : ∀ b, VarSet Γ.slots σ x l (.val (.ref b)) (σ' b))
    (k : ∀ b, Xs prog w Γ A (Hx Γ (fun c => c = b ∨ M c) (fun c => c = b ∨ W c) (σ' b) ((b, .dict []) :: ω)) (fun c => c = b ∨ M c) rest R) (hM : ∀ a, l = some a → M a)
    (hs : swapsWith (.Dict [] [] dp) (some (.Name x p)) pos.line Γ.env = pure false := by rfl) : Xs prog w Γ A (Hx Γ M W σ ω) M (.Assign [.Name x p] (.Dict [] [] dp) pos :: rest) R := by
  intro s Q E H q
  refine wpAny_execs_cons (wpAny_Assign_Name (wpAny_Dict_empty ?_) hs)
  have hf := get?_size s.heap
  have H₁ := H.add (Stays.push s.heap { cls := .type "dict", data := .dict #[] }) hf (o := .dict []) ⟨_, [], Heap.get?_push_size _ rfl, fun _ _ => ⟨#[], 0, ⟨rfl, rfl, rfl⟩, rfl, fun e he => by simp at he, .nil, List.nodup_nil⟩, .nil⟩
  refine store_name (s := { s with heap := s.heap.push { cls := .type "dict", data := .dict #[] } }) O H₁ (fun a ha => .inr (hM a ha)) (V _) (.val _) fun h₂ tk₂ k₂ H₂ => ?_
  refine k _ _ Q E H₂ fun f h₃ tk₃ k₃ r₃ => q f h₃ tk₃ (fun c o ec hm => ?_) r₃
  have nb : ¬ (c = s.heap.objs.size ∨ M c) := fun y => y.elim (fun y => by rw [y, hf] at ec; cases ec) hm
  exact k₃ c o (k₂ c o (Heap.get?_push_of_some _ ec) nb) nb

theorem IntsKeyed.keys {W : Forb} {h : Heap} {kvs : List (Int × D)} {us : List (Int × Value)} (H : IntsKeyed W h kvs us) : us.map (·.1) = kvs.map (·.1) := by
  induction H with
  | nil => rfl
  | cons _ _ ih => rw [List.map_cons, List.map_cons, ih]
theorem IntsKeyed.snoc {W : Forb} {h : Heap} {kvs : List (Int × D)} {us : List (Int × Value)} (H : IntsKeyed W h kvs us) {k : Int} {d : D} {v : Value} (r : Rd W h d v) : IntsKeyed W h (kvs ++ [(k, d)]) (us ++ [(k, v)]) := by
  induction H with
  | nil => exact .cons r .nil
  | cons a _ ih => exact .cons a ih
theorem IntsKeyed.find {W : Forb} {h : Heap} {kvs : List (Int × D)} {us : List (Int × Value)} (H : IntsKeyed W h kvs us) {k : Int} {d : D} (hl : kvs.lookup k = some d) : ∃ v, valueAt us k = some v ∧ Rd W h d v := by
  induction H with
  | nil => cases hl
  | @cons x d' v ds es r _ ih =>
    by_cases q : k = x
    · subst q
      rw [List.lookup_cons_self] at hl
      cases hl
      exact ⟨v, by simp [valueAt], r⟩
    · have e : (k == x) = false := beq_eq_false_iff_ne.mpr q
      rw [List.lookup_cons, e] at hl
      obtain ⟨u, g, r'⟩ := ih hl
      refine ⟨u, ?_, r'⟩
      unfold valueAt at g ⊢
      have : ¬ x = k := fun e => q e.symm
      rw [List.find?_cons]
      simp only [this, decide_false]
      exact g

theorem pairs_any {p' : Program} {w' : World} {es : List DictEntry} {kvs : List (Int × Value)} (h : Pairs (PySem.intKind prog w) es kvs) : Pairs (PySem.intKind p' w') es kvs := by
  induction h with
  | nil => exact .nil
  | cons a b _ ih => exact .cons a b ih
theorem dict_any {o : Obj} {kvs : List (Int × Value)} (h : Obj.IsDictOf (PySem.intKind prog w) o kvs) (p' : Program) (w' : World) : Obj.IsDictOf (PySem.intKind p' w') o kvs := by
  obtain ⟨es, ep, x, q, k, p, nd⟩ := h
  exact ⟨es, ep, x, q, k, pairs_any p, nd⟩

/-- a new key of an own dict -/
theorem Xs.setKey {o : Str} {op tp pos : Pos} {i e : Expr} {a : Addr} {kx : Int} {d : D} {kvs : List (Int × D)} {rest : List Stmt} (x : Ev prog w Γ A M W σ ω e d) (y : Ev prog w Γ A M W σ ω (.Name o op) (.val (.ref a))) (z : Ev prog w Γ A M W σ ω i (.int kx)) (hn : kx ∉ kvs.map (·.1)) (hz : kvs.length ≤ 1000)
    (S : OwnSet ω a (.dict kvs) (.dict (kvs ++ [(kx, d)])) ω') (k : Xs prog w Γ A (Hx Γ M W σ ω') M rest R) (hs : swapsWith e (some (.Subscript (.Name o op) i tp)) pos.line Γ.env = pure false := by rfl) : Xs prog w Γ A (Hx Γ M W σ ω) M (.Assign [.Subscript (.Name o op) i tp] e pos :: rest) R := by
  refine Xs.cons (P₁ := Hx Γ M W σ ω') (fun s Q E H q => ?_) k
  refine wpAny_Assign_Subscript (x s _ E H fun v h₁ tk₁ k₁ r₁ => y _ _ E (H.stays k₁) fun u h₂ tk₂ k₂ r₂ => z _ _ E ((H.stays k₁).stays k₂) fun t h₃ tk₃ k₃ r₃ => ?_) hs
  cases r₂
  cases r₃ with
  | int _ t =>
    have H₃ := ((H.stays k₁).stays k₂).stays k₃
    obtain ⟨ob, us, eo, hd, hk⟩ := H₃.own _ S.mem
    have hkeys := hk.keys
    have hany : us.any (fun kv => kv.1 = kx) = false := by
      rw [List.any_eq_false]
      intro kv hkv he
      have he : kv.1 = kx := by simpa using he
      exact hn (hkeys ▸ he ▸ List.mem_map_of_mem (f := (·.1)) hkv)
    have hlen : us.length = kvs.length := by have := congrArg List.length hkeys; simpa using this
    refine wpAny_setItem_pairs (knd := PySem.intKind prog w) (s := { s with heap := h₃, toks := tk₃ }) (k := kx) (hsz := by rw [sizeLine_eq]; omega) (intKind_is prog w kx t) (Heap.dictOf_iff.mpr ⟨ob, eo, hd prog w⟩) fun h₄ hd₄ hs₄ => ?_
    have hst : stored us kx v = us ++ [(kx, v)] := by unfold stored; rw [if_neg (by rw [hany]; decide)]
    rw [hst] at hd₄
    obtain ⟨o₄, e₄, d₄⟩ := Heap.dictOf_iff.mp hd₄
    have hM := H₃.ownM _ S.mem
    have U : Sub W h₃ W h₄ := Sub.sameBut hs₄ (H₃.MW _ hM)
    refine q _ h₄ _ ((Kp.of_stays ((k₁.trans k₂).trans k₃)).trans (Kp.sameBut hs₄ hM)) (H₃.store_own S hs₄ ⟨o₄, us ++ [(kx, v)], e₄, fun p' w' => dict_any d₄ p' w', (hk.sub U).snoc (((r₁.stays k₂).stays k₃).sub U)⟩)

/-- a value of an own dict -/
theorem Ev.key {o : Str} {op pos : Pos} {i : Expr} {a : Addr} {kx : Int} {d : D} {kvs : List (Int × D)} (y : Ev prog w Γ A M W σ ω (.Name o op) (.val (.ref a))) (hm : (a, .dict kvs) ∈ ω) (z : Ev prog w Γ A M W σ ω i (.int kx)) (hl : kvs.lookup kx = some d)
    (hs : ∀ l t, subscripted i false (.ref l) (.int kx t) = operate [.ref l, .int kx t] (getItem (.ref l) (.int kx t)) := by intro _ _; with_unfolding_all rfl) : Ev prog w Γ A M W σ ω (.Subscript (.Name o op) i pos) d := by
  intro s Q E H h
  refine Subscript_ (y s _ E H fun v h₁ tk₁ k₁ r₁ => z _ _ E (H.stays k₁) fun u h₂ tk₂ k₂ r₂ => ?_)
  cases r₁
  cases r₂ with
  | int _ t =>
    obtain ⟨ob, us, eo, hd, hk⟩ := ((H.stays k₁).stays k₂).own _ hm
    obtain ⟨v, hv, rv⟩ := hk.find hl
    have hmap := (Heap.dictOf_iff.mpr ⟨ob, eo, hd prog w⟩ : Heap.DictOf (PySem.intKind prog w) h₂ a us).mapOf
    exact tail_any (s := { s with heap := h₂, toks := tk₂ }) hmap.typeIs slot_dict_getitem.lookup (wpAny_getItem_of (intKind_is prog w kx t) hmap hv (h v h₂ _ (k₁.trans k₂) rv)) (hs a t)
end
end Mine

-- P1
namespace Mine
open PySem PySem.Spec PySem.Calls PyProof.Rows PySem.W

/-- the sign more -/
noncomputable def more (t : Bool) : Str := if t then "\t" else " "
noncomputable def memb (mask : Nat) : List Nat := (List.range 4).filter fun x => decide (mask / 2 ^ x % 2 = 1)
noncomputable def ownLead (f t : Bool) (row : List Nat) (k : Nat) : WS := wsOf (leadText (row.take k) (if f then "" else more t))
noncomputable def maskLead (f t : Bool) (mask : Nat) : WS := wsOf (leadText (memb mask) (if f then more t else ""))
noncomputable def toldV (f t : Bool) (row : List Nat) (mask : Nat) : Bool := if f then lessv (ownLead f t row (memb mask).length) (maskLead f t mask) else lessv (maskLead f t mask) (ownLead f t row (memb mask).length)
noncomputable def fronts (o : List Nat) : List Nat := [0, 2 ^ o.getD 0 0, 2 ^ o.getD 0 0 + 2 ^ o.getD 1 0, 15 - 2 ^ o.getD 3 0]
noncomputable def belowL (f t : Bool) (row : List Nat) : List (List Nat) := perms4.filter fun o => (fronts o).all (toldV f t row)

/-- the tableau criterion: as many of the members below each number -/
noncomputable def domV (f : Bool) (row : List Nat) (mask : Nat) : Bool := (List.range 5).all fun m =>
  if f then decide (((memb mask).filter (· < m)).length ≤ ((row.take (memb mask).length).filter (· < m)).length) else decide (((row.take (memb mask).length).filter (· < m)).length ≤ ((memb mask).filter (· < m)).length)
noncomputable def belowD (f : Bool) (row : List Nat) : List (List Nat) := perms4.filter fun o => (fronts o).all (domV f row)

theorem told_ff : ∀ r ∈ perms4, ∀ m : Nat, m < 15 → toldV false false r m = domV false r m := by decide +kernel
theorem told_ft : ∀ r ∈ perms4, ∀ m : Nat, m < 15 → toldV false true r m = domV false r m := by decide +kernel
theorem told_tf : ∀ r ∈ perms4, ∀ m : Nat, m < 15 → toldV true false r m = domV true r m := by decide +kernel
theorem told_tt : ∀ r ∈ perms4, ∀ m : Nat, m < 15 → toldV true true r m = domV true r m := by decide +kernel
theorem told_dom (r : List Nat) (hr : r ∈ perms4) (m : Nat) (hm : m < 15) (f t : Bool) : toldV f t r m = domV f r m := by
  cases f <;> cases t
  · exact told_ff r hr m hm
  · exact told_ft r hr m hm
  · exact told_tf r hr m hm
  · exact told_tt r hr m hm
noncomputable def okV (f : Bool) (r o : List Nat) : Bool := (fronts o).all (domV f r)
theorem swap_inv : ∀ l : Nat, l < 6 → ∀ r ∈ perms4, swapAt l (swapAt l r) = r := by decide +kernel
/-- the orders below each row, and what the exchanges do, by the places in perms4 -/
noncomputable def okN (f : Bool) : List Nat := if f then [16777215, 16756410, 16777020, 15444520, 16714800, 15403040, 16777152, 16756352, 15978240, 10652160, 15928320, 10618880, 16773120, 15441920, 15974400, 10649600, 12779520, 8519680, 16515072, 15204352, 15728640, 10485760, 12582912, 8388608] else [1, 3, 5, 15, 23, 63, 65, 195, 325, 975, 1495, 4095, 4165, 12495, 20805, 62415, 95743, 262143, 266455, 798975, 1332695, 3997695, 6125055, 16777215]
noncomputable def stI (f : Bool) : List (List Nat) := if f then [[0, 1, 2, 3, 4, 5, 0, 1, 8, 9, 10, 11, 2, 3, 8, 9, 16, 17, 4, 5, 10, 11, 16, 17], [0, 1, 0, 3, 1, 3, 6, 7, 6, 9, 7, 9, 12, 13, 12, 15, 13, 15, 18, 19, 18, 21, 19, 21], [0, 0, 2, 2, 4, 4, 6, 6, 8, 8, 10, 10, 12, 12, 14, 14, 16, 16, 18, 18, 20, 20, 22, 22], [0, 1, 2, 3, 4, 5, 0, 1, 2, 3, 4, 5, 12, 13, 12, 13, 16, 16, 18, 19, 18, 19, 22, 22], [0, 1, 0, 1, 4, 4, 6, 7, 8, 9, 10, 11, 6, 7, 8, 9, 10, 11, 18, 18, 20, 21, 20, 21], [0, 0, 2, 3, 2, 3, 6, 6, 8, 9, 8, 9, 12, 13, 14, 15, 16, 17, 12, 13, 14, 15, 16, 17]] else [[6, 7, 12, 13, 18, 19, 6, 7, 14, 15, 20, 21, 12, 13, 14, 15, 22, 23, 18, 19, 20, 21, 22, 23], [2, 4, 2, 5, 4, 5, 8, 10, 8, 11, 10, 11, 14, 16, 14, 17, 16, 17, 20, 22, 20, 23, 22, 23], [1, 1, 3, 3, 5, 5, 7, 7, 9, 9, 11, 11, 13, 13, 15, 15, 17, 17, 19, 19, 21, 21, 23, 23], [6, 7, 8, 9, 10, 11, 6, 7, 8, 9, 10, 11, 14, 15, 14, 15, 17, 17, 20, 21, 20, 21, 23, 23], [2, 3, 2, 3, 5, 5, 12, 13, 14, 15, 16, 17, 12, 13, 14, 15, 16, 17, 19, 19, 22, 23, 22, 23], [1, 1, 4, 5, 4, 5, 7, 7, 10, 11, 10, 11, 18, 19, 20, 21, 22, 23, 18, 19, 20, 21, 22, 23]]
noncomputable def swI : List (List Nat) := [[6, 7, 12, 13, 18, 19, 0, 1, 14, 15, 20, 21, 2, 3, 8, 9, 22, 23, 4, 5, 10, 11, 16, 17], [2, 4, 0, 5, 1, 3, 8, 10, 6, 11, 7, 9, 14, 16, 12, 17, 13, 15, 20, 22, 18, 23, 19, 21], [1, 0, 3, 2, 5, 4, 7, 6, 9, 8, 11, 10, 13, 12, 15, 14, 17, 16, 19, 18, 21, 20, 23, 22], [6, 7, 8, 9, 10, 11, 0, 1, 2, 3, 4, 5, 14, 15, 12, 13, 17, 16, 20, 21, 18, 19, 23, 22], [2, 3, 0, 1, 5, 4, 12, 13, 14, 15, 16, 17, 6, 7, 8, 9, 10, 11, 19, 18, 22, 23, 20, 21], [1, 0, 4, 5, 2, 3, 7, 6, 10, 11, 8, 9, 18, 19, 20, 21, 22, 23, 12, 13, 14, 15, 16, 17]]
noncomputable abbrev permAt (i : Nat) : List Nat := perms4.getD i []
theorem ok_tab : ∀ f : Bool, ∀ i : Nat, i < 24 → ∀ k : Nat, k < 24 → okV f (permAt i) (permAt k) = ((okN f).getD i 0).testBit k := by decide +kernel
theorem st_tab : ∀ f : Bool, ∀ l : Nat, l < 6 → ∀ i : Nat, i < 24 → stepR f (permAt i) l = permAt (((stI f).getD l []).getD i 0) ∧ ((stI f).getD l []).getD i 0 < 24 := by decide +kernel
theorem sw_tab : ∀ l : Nat, l < 6 → ∀ k : Nat, k < 24 → swapAt l (permAt k) = permAt ((swI.getD l []).getD k 0) ∧ (swI.getD l []).getD k 0 < 24 := by decide +kernel
theorem core_tab : ∀ f : Bool, ∀ l : Nat, l < 6 → ∀ i : Nat, i < 24 → ∀ k : Nat, k < 24 → ((okN f).getD (((stI f).getD l []).getD i 0) 0).testBit k = (((okN f).getD i 0).testBit k || ((okN f).getD i 0).testBit ((swI.getD l []).getD k 0)) := by decide +kernel
theorem perm_at : ∀ r ∈ perms4, perms4.idxOf r < 24 ∧ r = permAt (perms4.idxOf r) := by decide +kernel
theorem ok_step (f : Bool) (r : List Nat) (hr : r ∈ perms4) (l : Nat) (hl : l < 6) (o : List Nat) (ho : o ∈ perms4) : okV f (stepR f r l) o = (okV f r o || okV f r (swapAt l o)) := by
  obtain ⟨hi, er⟩ := perm_at r hr
  obtain ⟨hk, eo⟩ := perm_at o ho
  generalize perms4.idxOf r = i at hi er
  generalize perms4.idxOf o = k at hk eo
  subst er eo
  obtain ⟨e1, h1⟩ := st_tab f l hl i hi
  obtain ⟨e2, h2⟩ := sw_tab l hl k hk
  rw [e1, e2, ok_tab f _ h1 k hk, ok_tab f i hi k hk, ok_tab f i hi _ h2]
  exact core_tab f l hl i hi k hk
theorem belowD_mem {f : Bool} {r o : List Nat} : o ∈ belowD f r ↔ o ∈ perms4 ∧ okV f r o = true := List.mem_filter
theorem below_step (r : List Nat) (hr : r ∈ perms4) (l : Nat) (hl : l < 6) (f : Bool) (o : List Nat) (ho : o ∈ perms4) : o ∈ belowD f (stepR f r l) ↔ o ∈ belowD f r ∨ ∃ r' ∈ belowD f r, o = swapAt l r' := by
  have core := ok_step f r hr l hl
  rw [belowD_mem, core o ho, Bool.or_eq_true]
  constructor
  · rintro ⟨_, h | h⟩
    · exact .inl (belowD_mem.mpr ⟨ho, h⟩)
    · exact .inr ⟨swapAt l o, belowD_mem.mpr ⟨(swapAt_perm l hl o ho).1, h⟩, (swap_inv l hl o ho).symm⟩
  · rintro (h | ⟨r', h, e⟩)
    · exact ⟨ho, .inl (belowD_mem.mp h).2⟩
    · obtain ⟨h1, h2⟩ := belowD_mem.mp h
      refine ⟨ho, .inr ?_⟩
      rw [e, swap_inv l hl r' h1]
      exact h2
/-- the row to begin with -/
noncomputable def beginR (f : Bool) : List Nat := if f then [3, 2, 1, 0] else [0, 1, 2, 3]
theorem begin_mem : ∀ f : Bool, beginR f ∈ perms4 := by decide
theorem below_begin : ∀ f : Bool, belowD f (beginR f) = [beginR f] := by decide +kernel
theorem below_fold (f : Bool) : ∀ (ls : List Nat) (row : List Nat) (rows : List (List Nat)), row ∈ perms4 → (∀ l ∈ ls, l < 6) → (∀ o, o ∈ belowD f row ↔ o ∈ rows) → ∀ o, o ∈ belowD f (ls.foldl (stepR f) row) ↔ o ∈ ls.foldl grow1 rows
  | [], _, _, _, _, h => h
  | l :: ls, row, rows, hr, hl, h => below_fold f ls _ _ (perm_step f row hr l (hl l (.head _))) (fun x hx => hl x (.tail _ hx)) fun o => by
    have hll : l < 6 := hl l (.head _)
    rw [grow1_mem]
    by_cases ho : o ∈ perms4
    · rw [below_step _ hr l hll f o ho, h]
      exact or_congr Iff.rfl (exists_congr fun r' => and_congr (h r') Iff.rfl)
    · constructor
      · intro x; exact absurd (List.mem_filter.mp x).1 ho
      · intro x
        exfalso
        rcases x with x | ⟨r', x, e⟩
        · exact ho (List.mem_filter.mp ((h o).mpr x)).1
        · exact ho (e ▸ (swapAt_perm l hll r' (List.mem_filter.mp ((h r').mpr x)).1).1)
theorem below_some (f : Bool) (letters : List Nat) (hl : ∀ l ∈ letters, l < 6) (o : List Nat) : o ∈ belowD f (runR f (beginR f) letters) ↔ o ∈ someR (beginR f) letters :=
  below_fold f letters _ _ (begin_mem f) hl (fun o => by rw [below_begin]) o
theorem fronts_lt : ∀ o ∈ perms4, ∀ m ∈ fronts o, m < 15 := by decide
/-- the law -/
theorem below_law (f t : Bool) (letters : List Nat) (hl : ∀ l ∈ letters, l < 6) : belowL f t (runR f (beginR f) letters) = someL (beginR f) letters := by
  have hr : runR f (beginR f) letters ∈ perms4 := perm_run f letters _ (begin_mem f) hl
  unfold someL belowL
  apply List.filter_congr
  intro o ho
  have e : (fronts o).all (toldV f t (runR f (beginR f) letters)) = (fronts o).all (domV f (runR f (beginR f) letters)) := by
    rw [Bool.eq_iff_iff, List.all_eq_true, List.all_eq_true]
    exact forall₂_congr fun m hm => by rw [told_dom _ hr m (fronts_lt o ho m hm)]
  rw [e, Bool.eq_iff_iff, decide_eq_true_iff, ← below_some f letters hl o]
  unfold belowD
  rw [List.mem_filter]
  exact ⟨fun h => ⟨ho, h⟩, fun h => h.2⟩
end Mine

-- P2
namespace Mine
open PySem PySem.Spec PySem.Calls PyProof.Rows PySem.W

/-- what the column of a lead of the row's is to be -/
noncomputable def dueV (f t : Bool) (row : List Nat) (k x : Nat) : Int :=
  let d : Int := ((4 : Int) + x) * (k + ((row.take k).filter fun r => !decide (r < x)).length)
  if f then d else d + (if t then 4 + x else 1)
theorem leads_law : ∀ r ∈ perms4, ∀ k : Nat, k < 4 → 1 ≤ k → ∀ x : Nat, x < 5 → ∀ f t : Bool, ilv (ownLead f t r k) (4 + (x : Int)) = dueV f t r k x := by decide +kernel

noncomputable def twiceW (t : Bool) (row : List Nat) : WS := wsOf (leadText (row.take 2 ++ row.take 2) (more t))
/-- one run of blanks and its tab -/
noncomputable def colStep (size : Int) (column : Int) (r : Nat) : Int := let c := column + (4 + (r : Int)); c + size - c.fmod size
noncomputable def colV (row : List Nat) (size : Int) : Int := (row.take 2 ++ row.take 2).foldl (colStep size) 0
theorem twice_law : ∀ r ∈ perms4, ∀ z : Nat, z < 5 → 1 ≤ z → ∀ t : Bool, ilv (twiceW t r) (z : Int) = colV r z + (if t then (z : Int) else 1) := by decide +kernel

noncomputable def pairsL (wide : Nat) : List (Str × Str) := [(" \t", "\t "), ("  \t", " \t  "), ("\t", Txt.mul " " (wide : Int)), ("\t", Txt.mul " " (wide : Int) ++ "\t"), (" \t\t", " \t" ++ Txt.mul " " ((wide : Int) + 1))]
theorem pairs_law : ∀ wide : Nat, wide < 8 → 2 ≤ wide → ∀ p ∈ pairsL wide, lessv (wsOf (leadText [] p.1)) (wsOf (leadText [] p.2)) = false := by decide +kernel
end Mine

-- L30
namespace Mine
open PySem PySem.Spec PySem.Calls PyProof.Rows PySem.W

section
variable {prog : Program} {w : World} {A : Around} {Γ : Cx} {M W : Forb} {σ σ' : List (Option D)} {ω ω' : Owns} {R : Flow → Heap → Prop}

/-- _law_changed, handed a fresh list -/
theorem EvF.changed {x : Str} {p pos : Pos} {e e1 e2 e3 : Expr} {rs ls : List Nat} {c0 : Nat} {f : Bool} (G : Gl w Γ.hb) (R₀ : Rm A 3) (hf : Ev prog w Γ A M W σ ω (.Name x p) (.val (.ref 158)))
    (a : EvF prog w Γ A M W σ ω e (rs.map (opD c0))) (b : ∀ W', Es prog w Γ A M W' σ ω [e1, e2, e3] [.list (ls.map natD), .list ((List.range 4).map (opD c0)), .val (.ref (tst f))]) (hc : c0 < 45) (hr : rs ∈ perms4) (hl : ∀ l ∈ ls, l < 6) (hz : ls.length ≤ 1000)
    (he : starEach [e, e1, e2, e3] Γ.env = (false, eval e Γ.env) :: starEach [e1, e2, e3] Γ.env := by rfl) (hst : (backTo pos (starEach [e1, e2, e3] Γ.env)).any (·.1) = false := by rfl) :
    EvF prog w Γ A M W σ ω (.Call (.Name x p) [e, e1, e2, e3] [] pos) ((runR f rs ls).map (opD c0)) := by
  intro s Q E H h
  rw [eval_CallName]
  refine wpAny_bind (hf s _ E H fun v h₁ tk₁ k₁ r₁ => ?_)
  cases r₁
  refine callWith_K (h₀ := Γ.hb) G.K rfl (wpAny_items_cons (a _ _ E (H.stays k₁) fun a vs n h₂ tk₂ k₂ ea el rl => b _ pos _ _ E ((H.stays k₁).wide k₂ ea ⟨_, el⟩) fun us h₃ tk₃ k₃ r₃ => ?_) he) he hst
  have H₁ := H.stays k₁
  have H₂ := H₁.stays k₂
  have H₃ := H₂.stays k₃
  refine ⟨(G.stays H₃.base).K, ?_⟩
  cases r₃ with
  | @cons _ u1 _ _ q1 r₃ =>
  cases r₃ with
  | @cons _ u2 _ _ q2 r₃ =>
  cases r₃ with
  | @cons _ u3 _ _ q3 r₃ =>
  cases r₃
  cases q3
  have hna : ∀ b o, h₁.get? b = some o → b ≠ a := fun b o e q => by rw [q, ea] at e; cases e
  refine changed_run (s := { s with heap := h₃, toks := tk₃ }) (W := fun b => b = a ∨ W b) R₀ H₃.base G (fun b hb => ?_) (.inl rfl) (fresh_back H₁.base ea) ⟨vs, n, k₃ _ _ el, rl.stays k₃⟩ q1 q2 hc hr hl hz fun h₄ tk₄ k₄ own => ?_
  · rcases hb with rfl | hb
    · exact ⟨_, k₃ _ _ el⟩
    · exact H₃.live b hb
  · obtain ⟨vs', n', el', rl'⟩ := own
    exact h a vs' n' h₄ tk₄ (fun b o e => k₄ b o (hna b o (k₁ _ _ e)) (k₃ _ _ (k₂ _ _ (k₁ _ _ e)))) (fresh_back k₁ ea) el' rl'
end
end Mine

-- L31
namespace Mine
open PySem PySem.Spec PySem.Calls PyProof.Rows PySem.W

section
variable {prog : Program} {w : World} {A : Around} {Γ : Cx} {M W : Forb} {σ σ' : List (Option D)} {ω ω' : Owns} {R : Flow → Heap → Prop}

/-- one of two by its number -/
theorem Ev.pick2 {v1 v2 i : Expr} {a b k : Int} {n1 n2 : Nat} {p1 p2 dp pos : Pos} {x1 x2 y : Value} (hab : a ≠ b) (e1 : Ev prog w Γ A M W σ ω v1 (.val x1)) (e2 : Ev prog w Γ A M W σ ω v2 (.val x2)) (z : Ev prog w Γ A M W σ ω i (.int k)) (hk : (k = a ∧ y = x1) ∨ (k = b ∧ y = x2))
    (hs : ∀ l t, subscripted i false (.ref l) (.int k t) = operate [.ref l, .int k t] (getItem (.ref l) (.int k t)) := by intro _ _; with_unfolding_all rfl) :
    Ev prog w Γ A M W σ ω (.Subscript (.Dict [some (.Constant (.int a) n1 p1), some (.Constant (.int b) n2 p2)] [v1, v2] dp) i pos) (.val y) := by
  intro s Q E H h
  have hf := get?_size s.heap
  have k₀ : Stays s.heap (s.heap.push { cls := .type "dict", data := .dict #[] }) := Stays.push _ _
  have H₀ := H.stays k₀
  refine Subscript_ (wpAny_Dict_pairs (knd := PySem.intKind prog w) (pairs := [(eval (.Constant (.int a) n1 p1) Γ.env, do let x ← eval v1 Γ.env; standAt dp; pure x), (eval (.Constant (.int b) n2 p2) Γ.env, do let x ← eval v2 Γ.env; standAt dp; pure x)]) rfl (by simp) (by simp) ?_)
  refine evalPairs_cons (Ev.int (i := a) _ _ E H₀ fun u1 h₁ tk₁ k₁ r₁ => wpAny_bind (e1 _ _ E (H₀.stays k₁) fun u2 h₂ tk₂ k₂ r₂ => wpAny_bind (wpAny_standAt (wpAny_pure ?_))))
  have H₂ := (H₀.stays k₁).stays k₂
  refine evalPairs_cons (Ev.int (i := b) _ _ E H₂ fun u3 h₃ tk₃ k₃ r₃ => wpAny_bind (e2 _ _ E (H₂.stays k₃) fun u4 h₄ tk₄ k₄ r₄ => wpAny_bind (wpAny_standAt (wpAny_pure ?_))))
  refine evalPairs_nil ?_
  cases r₁ with
  | int _ t1 =>
  cases r₃ with
  | int _ t2 =>
  cases r₂
  cases r₄
  have st : Stays s.heap h₄ := k₀.trans (((k₁.trans k₂).trans k₃).trans k₄)
  have eD : h₄.get? s.heap.objs.size = some { cls := .type "dict", data := .dict #[] } := k₄ _ _ (k₃ _ _ (k₂ _ _ (k₁ _ _ (Heap.get?_push_size _ rfl))))
  refine ⟨[(a, x1), (b, x2)], ⟨by simp [PySem.intKind, Value.isInt], rfl, by simp [PySem.intKind, Value.isInt], rfl, trivial⟩, ⟨_, #[], 0, eD, ⟨rfl, rfl, rfl⟩, rfl, fun e he => by simp at he, .nil, List.nodup_nil⟩, fun h' hd hs' => ?_⟩
  have st' : Stays s.heap h' := fun c o e => (hs'.2 c fun q => by rw [q, hf] at e; cases e).trans (st c o e)
  have hm : merged [] [(a, x1), (b, x2)] = [(a, x1), (b, x2)] := by
    simp [merged, stored, hab]
  rw [hm] at hd
  refine z _ _ E (H.stays st') fun u h₅ tk₅ k₅ r₅ => ?_
  cases r₅ with
  | int _ t =>
    have hd₅ : Heap.DictOf (PySem.intKind prog w) h₅ s.heap.objs.size [(a, x1), (b, x2)] := by
      obtain ⟨o, es, ep, eo, q⟩ := hd
      exact ⟨o, es, ep, k₅ _ _ eo, q⟩
    have hv : valueAt [(a, x1), (b, x2)] k = some y := by
      rcases hk with ⟨rfl, rfl⟩ | ⟨rfl, rfl⟩
      · simp [valueAt]
      · simp [valueAt, hab]
    have hmap := hd₅.mapOf
    exact tail_any (s := { s with heap := h₅, toks := tk₅ }) hmap.typeIs slot_dict_getitem.lookup (wpAny_getItem_of (intKind_is prog w k t) hmap hv (h y h₅ _ (st'.trans k₅) (.val _))) (hs _ t)
end
end Mine

-- B0
namespace Mine
open PySem PySem.Spec PySem.Calls PyProof.Rows PySem.W

/-- the def at an address, its parts -/
noncomputable def AtFn (p : Params) (f : Addr) (C : Str → Scope → Value → List Stmt → Prop) : Prop :=
  ∃ name qual params body scope dV kV doc pm an cdv ct oc od osl, (Kf p).lookup f = some ⟨oc, od, .func (fnOf name qual params body scope dV kV doc pm an cdv ct), osl⟩ ∧ C qual scope cdv body

noncomputable def lawSlots (L : Addr) : Slots := [("script", none), ("x", some (L + 1)), ("total", none), ("c", some (L + 2)), ("falling", some (L + 3)), ("behind", some (L + 4)), ("letters", none), ("four", some (L + 5)), ("begin", none), ("test", none), ("row", some (L + 6)), ("k", none), ("leads", none), ("told", some (L + 7)), ("mask", some (L + 8)), ("members", none), ("own", none), ("lead", none), ("below", none), ("order", none), ("fronts", none), ("says", none), ("due", none), ("runs", none), ("twice", none), ("size", none), ("column", none), ("blanks", none), ("wide", none), ("one", none), ("other", none)]
noncomputable def lawM (L : Addr) : Forb := fun b => L ≤ b ∧ b ≤ L + 8

/-- the exchanges of a script -/
noncomputable def lettersL (ns : List Int) : List Nat := (ns.take 6).map (fun (x : Int) => (x.fmod 6).toNat) ++ ([0, 1, 3, 4, 2, 0] : List Nat).drop (ns.take 6).length
theorem lettersL_lt (ns : List Int) : ∀ l ∈ lettersL ns, l < 6 := by
  intro l hl
  rcases List.mem_append.mp hl with h | h
  · obtain ⟨x, _, rfl⟩ := List.mem_map.mp h
    have : x.fmod 6 < 6 := by rw [Int.fmod_eq_emod_of_nonneg _ (by decide)]; exact Int.emod_lt_of_pos _ (by decide)
    omega
  · have : ∀ l ∈ ([0, 1, 3, 4, 2, 0] : List Nat), l < 6 := by decide
    exact this l (List.mem_of_mem_drop h)
theorem lettersL_len (ns : List Int) : (lettersL ns).length = 6 := by
  unfold lettersL
  rw [List.length_append, List.length_map, List.length_drop]
  have : (ns.take 6).length ≤ 6 := by rw [List.length_take]; omega
  show _ + (6 - _) = 6
  omega
theorem lettersL_map (ns : List Int) : (lettersL ns).map natD = ((ns.take 6).filter fun _ => true).map (fun (x : Int) => D.int (x.fmod 6)) ++ (([0, 1, 3, 4, 2, 0] : List Nat).map natD).drop (ns.take 6).length := by
  unfold lettersL
  rw [List.map_append, List.map_drop, List.filter_eq_self.mpr (fun _ _ => rfl), List.map_map]
  congr 1
  apply List.map_congr_left
  intro x _
  have : 0 ≤ x.fmod 6 := by rw [Int.fmod_eq_emod_of_nonneg _ (by decide)]; exact Int.emod_nonneg _ (by decide)
  show D.int (((x.fmod 6).toNat : Nat) : Int) = _
  rw [Int.toNat_of_nonneg this]


/-- the parts of the def at an address -/
noncomputable def IsFn (p : Params) (f : Addr) (qual : Str) (scope : Scope) (cdv : Value) (body : List Stmt) : Prop :=
  ∃ name params dV kV doc pm an ct oc od osl, (Kf p).lookup f = some ⟨oc, od, .func (fnOf name qual params body scope dV kV doc pm an cdv ct), osl⟩
theorem at_of {p : Params} {f : Addr} {C : Str → Scope → Value → List Stmt → Prop} (h : AtFn p f C) {qual : Str} {scope : Scope} {cdv : Value} {body : List Stmt} (q : IsFn p f qual scope cdv body) : C qual scope cdv body := by
  obtain ⟨name, qual', params, body', scope', dV, kV, doc, pm, an, cdv', ct, oc, od, osl, e, c⟩ := h
  obtain ⟨name₂, params₂, dV₂, kV₂, doc₂, pm₂, an₂, ct₂, oc₂, od₂, osl₂, e₂⟩ := q
  have e₃ := e.symm.trans e₂
  simp only [Option.some.injEq, Obj.mk.injEq, Data.func.injEq, fnOf, FuncData.mk.injEq] at e₃
  obtain ⟨_, _, h3, _⟩ := e₃
  simp_all

noncomputable abbrev Gam (qual : Str) (scope : Scope) (fa : Addr) (cdv : Value) (L : Addr) (hb : Heap) : Cx := ⟨envOfC qual scope L fa cdv, lawSlots L, hb⟩
/-- script x total c falling behind letters four begin test row, and the rest -/
noncomputable abbrev stB (l : Addr) (x : Option D) (T : Int) (c0 : Nat) (f t : Bool) (ls rs : List Nat) (r : List (Option D)) : List (Option D) :=
  some (.val (.ref l)) :: x :: some (.int T) :: some (.int ((c0 : Int) + 7)) :: some (.bool f) :: some (.str (more t)) :: some (.list (ls.map natD)) :: some (.list ((List.range 4).map (opD c0))) :: some (rowD (beginR f)) :: some (.val (.ref (tst f))) :: some (.list (rs.map (opD c0))) :: r
noncomputable def leadsD (f t : Bool) (rs : List Nat) : List D := (List.range 4).map fun k => .ws (ownLead f t rs k)
end Mine

-- B9
namespace Mine
open PySem PySem.Spec PySem.Calls PyProof.Rows PySem.W

section
variable {prog : Program} {w : World}
/-- the return -/
theorem tail20 {ls : List Nat} {f t : Bool} (hls : ∀ l ∈ ls, l < 6) (hll : ls.length = 6) : AtFn w.params 180 fun qual scope _ body => ∀ (fa : Addr) (cdv : Value) (A : Around) (hb : Heap) (L l : Addr) (M W W₀ : Forb) (ω : Owns) (x : Option D) (T : Int) (c0 : Nat) (rs : List Nat) (e11 e12 e13 e14 e15 e16 e17 : Option D) (r : List (Option D)), Rm A 8 → Gl w hb → (Gam qual scope fa cdv L hb).Ok → (∀ b, W₀ b → W b) →
    Xs prog w (Gam qual scope fa cdv L hb) A (Hx (Gam qual scope fa cdv L hb) M W (stB l x T c0 f t ls rs (e11 :: e12 :: e13 :: e14 :: e15 :: e16 :: e17 :: some (.list ((belowL f t (runR f (beginR f) ls)).map rowD)) :: r)) ω) M (body.drop 20) (RetIs W₀ (.bool true)) := by
  refine ⟨_, _, _, _, _, _, _, _, _, _, _, _, _, _, _, rfl, fun fa cdv A hb L l M W W₀ ω x T c0 rs e11 e12 e13 e14 e15 e16 e17 r R G O hW => ?_⟩
  have e : (true : Bool) = PyData.eqv (.list ((belowL f t (runR f (beginR f) ls)).map rowP)) (.list ((someL (beginR f) ls).map rowP)) := by
    rw [below_law f t ls hls]
    exact ((eqv_mapEq rowP_eqv _ _).trans (decide_eq_true rfl)).symm
  have hu : A.units + 64 < cLine := by have := R.uni; omega
  have py : ∀ rows : List (List Nat), Py (.list (rows.map rowD)) (.list (rows.map rowP)) := fun rows => .list (PyL.map fun r _ => rowP_py r)
  have sh : ∀ rows : List (List Nat), PySem.SeqAt.shaped (.list (rows.map rowP)) = true := fun rows => by
    have h1 : (PyData.list (rows.map rowP)).canLay0 = true := canLay_map fun r _ => rowP_lay r
    have h2 : (PyData.list (rows.map rowP)).depth ≤ 2 := Nat.succ_le_succ (depth_map fun r _ => rowP_depth r)
    unfold PySem.SeqAt.shaped
    rw [h1, decide_eq_true (show _ ≤ 64 by omega)]; rfl
  rw [e]
  exact Xs.ret (Ev.cmp (Ev.name O .i18) (Ev.callFn G (n := 3) (R.le (by decide)) (Ev.glob G O rfl) rfl (Es.cons (Ev.name O .i8) (Es.cons (Ev.name O .i6) Es.nil)) (fn_some (begin_mem f) hls (by omega) (by omega))) (Cmp.eqD (py _) (py _) (sh _) (sh _) hu)) hW
end
end Mine

-- B8a
namespace Mine
open PySem PySem.Spec PySem.Calls PyProof.Rows PySem.W

theorem scan_small : ∀ (cs : List Nat) (s : Sc) (k : Nat), 0 ≤ s.b → s.b ≤ k → s.cnt.length ≤ k → (scan cs s).b ≤ ((k + cs.length : Nat) : Int) ∧ (scan cs s).cnt.length ≤ k + cs.length
  | [], s, k, h0, h1, h2 => ⟨by show s.b ≤ _; simpa using h1, by show s.cnt.length ≤ _; simpa using h2⟩
  | c :: cs, s, k, h0, h1, h2 => by
    rw [List.length_cons]
    unfold scan
    split
    · have := scan_small cs ⟨s.cnt, s.b + 1, s.n + 1, s.nt⟩ (k + 1) (by dsimp only; omega) (by dsimp only; omega) (by dsimp only; omega)
      rw [show k + (cs.length + 1) = k + 1 + cs.length by omega]; exact this
    · split
      · have hg := (grown_len (cnt := s.cnt) h0).2 (k + 1) (by omega) (by omega)
        have := scan_small cs ⟨bump s.cnt s.b, 0, s.n + 1, s.nt + 1⟩ (k + 1) (Int.le_refl 0) (by dsimp only; omega) (by dsimp only; rw [bump_len]; exact hg)
        rw [show k + (cs.length + 1) = k + 1 + cs.length by omega]; exact this
      · constructor <;> omega
theorem ws_small (x : Str) : (wsOf x).b ≤ x.length ∧ (wsOf x).cnt.length ≤ x.length := by
  have := scan_small x.cps.toList ⟨[], 0, 0, 0⟩ 0 (by decide) (by decide) (by decide)
  rw [Nat.zero_add] at this
  exact this

theorem lead_small {xs : List Nat} {behind : Str} (hx : ∀ x ∈ xs, x < 4) (hl : xs.length ≤ 4) (hbh : behind.length ≤ 100) : (leadText xs behind).length ≤ 200 := by
  have hlp := leadPart_len hx
  have h3 : ("x \t" : Str).length = 3 := rfl
  unfold leadText
  rw [PySem.Str.length_append, PySem.Str.length_append, h3]
  omega

theorem sh5 {nm : Str} (hn : nm = "less" ∨ nm = "indent_level") : ∀ es k, (∃ h1 h2 h3 h4 h5 t1 t2 t3 t4 t5 v1 v2 v3 v4 v5, es = ([⟨h1, .str "raw" t1, v1⟩, ⟨h2, .str "n" t2, v2⟩, ⟨h3, .str "nt" t3, v3⟩, ⟨h4, .str "norm" t4, v4⟩, ⟨h5, .str "is_simple" t5, v5⟩] : List DictEntry)) → shadowIn (some (dictOf es k)) nm = some false := by
  rcases hn with rfl | rfl <;> rintro es k ⟨_, _, _, _, _, _, _, _, _, _, _, _, _, _, _, rfl⟩ <;> rfl

section
variable {prog : Program} {w : World} {A : Around} {Γ : Cx} {M W : Forb} {σ σ' : List (Option D)} {ω ω' : Owns}
theorem fn_lessW {x y : Str} (hx : x.length ≤ 900) (hy : y.length ≤ 900) : Fn prog w 73 2 [.ws (wsOf x), .ws (wsOf y)] (.bool (lessv (wsOf x) (wsOf y))) := by
  have h1 := ws_small x
  have h2 := ws_small y
  exact fn_less (by omega) (by omega) (by omega) (by omega)
theorem fn_ilW {x : Str} {ts : Int} (hx : x.length ≤ 900) (h1 : 1 ≤ ts) (h2 : ts ≤ 1000) : Fn prog w 52 1 [.ws (wsOf x), .int ts] (.int (ilv (wsOf x) ts)) := by
  have h := ws_small x
  exact fn_il (by omega) h1 h2
end
end Mine

-- B8
namespace Mine
open PySem PySem.Spec PySem.Calls PyProof.Rows PySem.W

noncomputable def pairD (p : Str × Str) : D := .tup [.str p.1, .str p.2]
theorem pairs_len : ∀ wide : Nat, wide < 8 → ∀ p ∈ pairsL wide, p.1.length ≤ 100 ∧ p.2.length ≤ 100 := by decide +kernel

section
variable {prog : Program} {w : World}
/-- wide, and the pairs -/
theorem tail18 {ls : List Nat} {f t : Bool} (hls : ∀ l ∈ ls, l < 6) (hll : ls.length = 6) : AtFn w.params 180 fun qual scope _ body => ∀ (fa : Addr) (cdv : Value) (A : Around) (hb : Heap) (L l : Addr) (M W W₀ : Forb) (ω : Owns) (x : Option D) (T : Int) (c0 : Nat) (rs : List Nat) (e11 e12 e13 e14 e15 e16 e17 e19 e20 e21 e22 e23 e24 e25 e26 e27 e28 e29 e30 : Option D), Rm A 8 → Gl w hb → (Gam qual scope fa cdv L hb).Ok → (∀ b, W₀ b → W b) → 0 ≤ T → c0 < 45 →
    Xs prog w (Gam qual scope fa cdv L hb) A (Hx (Gam qual scope fa cdv L hb) M W (stB l x T c0 f t ls rs [e11, e12, e13, e14, e15, e16, e17, some (.list ((belowL f t (runR f (beginR f) ls)).map rowD)), e19, e20, e21, e22, e23, e24, e25, e26, e27, e28, e29, e30]) ω) M (body.drop 18) (RetIs W₀ (.bool true)) := by
  refine ⟨_, _, _, _, _, _, _, _, _, _, _, _, _, _, _, rfl, fun fa cdv A hb L l M W W₀ ω x T c0 rs e11 e12 e13 e14 e15 e16 e17 e19 e20 e21 e22 e23 e24 e25 e26 e27 e28 e29 e30 R G O hW hT hc0 => ?_⟩
  have last := at_of (tail20 (prog := prog) (w := w) (t := t) (f := f) hls hll) ⟨_, _, _, _, _, _, _, _, _, _, _, rfl⟩
  have hw0 : 2 + T.fmod 6 = (((T.fmod 6).toNat + 2 : Nat) : Int) := by
    have : 0 ≤ T.fmod 6 := by rw [Int.fmod_eq_emod_of_nonneg _ (by decide)]; exact Int.emod_nonneg _ (by decide)
    omega
  have hw1 : (T.fmod 6).toNat + 2 < 8 := by
    have : T.fmod 6 < 6 := by rw [Int.fmod_eq_emod_of_nonneg _ (by decide)]; exact Int.emod_lt_of_pos _ (by decide)
    omega
  refine Xs.assign (d := .int (2 + T.fmod 6)) O (Ev.bin Ev.int (Ev.bin (Ev.name O .i2) Ev.int (Bin.mod (by decide))) Bin.add) .i28 ?_
  have hw2 : 2 ≤ (T.fmod 6).toNat + 2 := by omega
  rw [hw0]
  generalize (T.fmod 6).toNat + 2 = wide at hw1 hw2
  refine Xs.forIn R.hand (It.list (ds := (pairsL wide).map pairD) ?_)
    (fun j σ ω' => ω' = ω ∧ ∃ e29 e30, σ = stB l x T c0 f t ls rs [e11, e12, e13, e14, e15, e16, e17, some (.list ((belowL f t (runR f (beginR f) ls)).map rowD)), e19, e20, e21, e22, e23, e24, e25, e26, e27, some (.int (wide : Int)), e29, e30]) ⟨rfl, _, _, rfl⟩ (fun W' hW' i d σ ω' hd hJ => ?_) (fun σ ω' hJ => ?_)
  · have s1 : (" " : Str).length = 1 := rfl
    have m1 : (Txt.mul " " (wide : Int)).length ≤ 100 := (pairs_len wide hw1 _ (.tail _ (.tail _ (.head _)))).2
    refine Ev.list (hz := show 5 ≤ 1000 by decide) (Es.cons (Ev.tup (Es.cons Ev.str (Es.cons Ev.str Es.nil))) (Es.cons (Ev.tup (Es.cons Ev.str (Es.cons Ev.str Es.nil))) (Es.cons (Ev.tup (Es.cons Ev.str (Es.cons (Ev.bin Ev.str (Ev.name O .i28) (Bin.mulS (by rw [s1]; decide) (by omega) (by omega))) Es.nil))) (Es.cons (Ev.tup (Es.cons Ev.str (Es.cons (Ev.bin (Ev.bin Ev.str (Ev.name O .i28) (Bin.mulS (by rw [s1]; decide) (by omega) (by omega))) Ev.str (Bin.addS ?_)) Es.nil))) (Es.cons (Ev.tup (Es.cons Ev.str (Es.cons (Ev.bin Ev.str (Ev.bin Ev.str (Ev.bin (Ev.name O .i28) Ev.int Bin.add) (Bin.mulS (by rw [s1]; decide) (by omega) (by omega))) (Bin.addS ?_)) Es.nil))) Es.nil)))))
    · have : ("\t" : Str).length = 1 := rfl
      omega
    · have := (pairs_len wide hw1 _ (.tail _ (.tail _ (.tail _ (.tail _ (.head _)))))).2
      rw [PySem.Str.length_append] at this
      omega
  · obtain ⟨rfl, e29, e30, rfl⟩ := hJ
    rw [List.getElem?_map] at hd
    obtain ⟨⟨p1, p2⟩, ep, rfl⟩ := Option.map_eq_some_iff.mp hd
    have hp := List.mem_of_getElem? ep
    obtain ⟨l1, l2⟩ := pairs_len wide hw1 _ hp
    have hlaw := pairs_law wide hw1 hw2 _ hp
    dsimp only at l1 l2 hlaw
    have q1 := lead_small (xs := []) (behind := p1) (fun x hx => nomatch hx) (by decide) l1
    have q2 := lead_small (xs := []) (behind := p2) (fun x hx => nomatch hx) (by decide) l2
    have fl := fn_lessW (prog := prog) (w := w) (x := leadText [] p1) (y := leadText [] p2) (by omega) (by omega)
    rw [hlaw] at fl
    refine ⟨_, Tg.pair O R.hand .i29 .i30 (fun _ e => nomatch e) (fun _ e => nomatch e), ?_⟩
    refine Xs.guard (b := !(false == false)) (Ts.cmp (Ev.methE (f := 73) (n := 2) G (R.le (by decide)) (Ev.callFn G (n := 4) (R.le (by decide)) (Ev.glob G O rfl) rfl (Es.cons (Ev.list Es.nil) (Es.cons (Ev.name O .i3) (Es.cons (Ev.name O .i29) Es.nil))) (fn_lead (xs := []) hc0 (fun x hx => nomatch hx) (by decide) l1)) rfl rfl (sh5 (.inl rfl)) rfl
      (Es.cons (Ev.callFn G (n := 4) (R.le (by decide)) (Ev.glob G O rfl) rfl (Es.cons (Ev.list Es.nil) (Es.cons (Ev.name O .i3) (Es.cons (Ev.name O .i30) Es.nil))) (fn_lead (xs := []) hc0 (fun x hx => nomatch hx) (by decide) l2)) Es.nil) fl) Ev.bool Cmp.isNotB) (fun e => nomatch e) (fun _ => ?_)
    exact Xs.turn ⟨rfl, _, _, rfl⟩
  · obtain ⟨rfl, e29, e30, rfl⟩ := hJ
    exact last fa cdv A hb L l M W W₀ ω' x T c0 rs _ _ _ _ _ _ _ _ R G O hW
end
end Mine

-- B7
namespace Mine
open PySem PySem.Spec PySem.Calls PyProof.Rows PySem.W

noncomputable def runD (r : Nat) : D := .int (4 + (r : Int))
theorem more_blank (t : Bool) : (more t == (" " : Str)) = !t := by cases t <;> decide
theorem more_len (t : Bool) : (more t).length ≤ 100 := by cases t <;> decide
theorem colV_snoc (z : Int) (l : List Nat) (r : Nat) : (l ++ [r]).foldl (colStep z) 0 = (l.foldl (colStep z) 0 + (4 + (r : Int))) + z - (l.foldl (colStep z) 0 + (4 + (r : Int))).fmod z := by
  rw [List.foldl_append]; rfl

section
variable {prog : Program} {w : World}
/-- the row's first k operators -/
theorem EvF.rowTake {A : Around} {Γ : Cx} {M W : Forb} {σ : List (Option D)} {ω : Owns} {e hi : Expr} {p1 p2 : Pos} {rs : List Nat} {c0 k : Nat} (h : rs.length = 4) (a : Ev prog w Γ A M W σ ω e (.list (rs.map (opD c0)))) (b : Ev prog w Γ A M W σ ω hi (.int (k : Int))) :
    EvF prog w Γ A M W σ ω (.Subscript e (.Slice Option.none (some hi) Option.none p1) p2) ((rs.take k).map (opD c0)) := by
  rw [List.map_take]
  exact EvF.upto (k := k) a (.inl rfl) b (by rw [List.length_map]; omega)
/-- runs, twice, the columns -/
theorem tail15 {ls : List Nat} {f t : Bool} (hls : ∀ l ∈ ls, l < 6) (hll : ls.length = 6) : AtFn w.params 180 fun qual scope _ body => ∀ (fa : Addr) (cdv : Value) (A : Around) (hb : Heap) (L l : Addr) (M W W₀ : Forb) (ω : Owns) (x : Option D) (T : Int) (c0 : Nat) (rs : List Nat) (e11 e12 e13 e14 e15 e16 e17 e19 e20 e21 e22 e23 e24 e25 e26 e27 e28 e29 e30 : Option D), Rm A 8 → Gl w hb → (Gam qual scope fa cdv L hb).Ok → (∀ b, W₀ b → W b) → 0 ≤ T → c0 < 45 → rs ∈ perms4 →
    Xs prog w (Gam qual scope fa cdv L hb) A (Hx (Gam qual scope fa cdv L hb) M W (stB l x T c0 f t ls rs [e11, e12, e13, e14, e15, e16, e17, some (.list ((belowL f t (runR f (beginR f) ls)).map rowD)), e19, e20, e21, e22, e23, e24, e25, e26, e27, e28, e29, e30]) ω) M (body.drop 15) (RetIs W₀ (.bool true)) := by
  refine ⟨_, _, _, _, _, _, _, _, _, _, _, _, _, _, _, rfl, fun fa cdv A hb L l M W W₀ ω x T c0 rs e11 e12 e13 e14 e15 e16 e17 e19 e20 e21 e22 e23 e24 e25 e26 e27 e28 e29 e30 R G O hW hT hc0 hrs => ?_⟩
  have last := at_of (tail18 (prog := prog) (w := w) (t := t) (f := f) hls hll) ⟨_, _, _, _, _, _, _, _, _, _, _, rfl⟩
  have hr4 := perm_len rs hrs
  have hrl := perm_lt rs hrs
  have l2 : (rs.take 2).length = 2 := by rw [List.length_take, hr4]; rfl
  have ft : ∀ (d : Nat → D) (k : List Nat), (k.filter fun _ => true).map d = k.map d := fun d k => by rw [List.filter_eq_self.mpr (fun _ _ => rfl)]
  refine Xs.assignComp (slots := [("four", some (L + 5))]) (cl := [("four", L + 5)]) (σ₂ := stB l x T c0 f t ls rs [e11, e12, e13, e14, e15, e16, e17, some (.list ((belowL f t (runR f (beginR f) ls)).map rowD)), e19, e20, e21, e22, some (.list ((rs.take 2).map runD)), e24, e25, e26, e27, e28, e29, e30]) (rs.take 2) (opD c0) runD (fun _ => true) O R.hand (It.list (EvF.ev (EvF.rowTake (k := 2) hr4 (Ev.name O .i10) Ev.int))) (.skip (.skip (.skip (.skip (.skip (.skip (.skip (.keep .done))))))))
    (by rw [ft]; exact .i23) (fun C W' hW' O' a ha => ⟨Tss.nil, fun _ => ?_⟩) (by omega) ?_ (hcel := fun y a hy => by cases hy with | head => exact ⟨rfl, rfl⟩ | tail _ h => cases h) (hxn := show Str.ofString "text" ∉ [Str.ofString "four"] from by decide)
  · have ha4 := hrl a (List.mem_of_mem_take ha)
    have at_ : ∀ i : Nat, i < 4 → ((List.range 4).map fun x => op (c0 + x))[i]? = some (op (c0 + i)) := fun i hi => by rw [List.getElem?_map, List.getElem?_range hi]; rfl
    refine Ev.bin Ev.int (Ev.index (xs := (List.range 4).map fun x => op (c0 + x)) (t := op (c0 + a)) (j := a) (Ev.name O' .i1) (Ev.name O' .i0) (at_ a ha4) (fun i hi e => ?_) (by rw [List.length_map]; decide)) Bin.add
    rw [at_ i (by omega)] at e
    have := op_inj (c0 + i) (by omega) (c0 + a) (by omega) (Option.some.inj e)
    omega
  refine Xs.assign (d := .ws (twiceW t rs)) O ?_ .i24 ?_
  · refine Ev.callFn G (n := 4) (R.le (by decide)) (Ev.glob G O rfl) rfl (Es.cons (EvF.ev (ds := (rs.take 2 ++ rs.take 2).map (opD c0)) ?_) (Es.cons (Ev.name O .i3) (Es.cons (Ev.name O .i5) Es.nil))) (fn_lead (xs := rs.take 2 ++ rs.take 2) (behind := more t) hc0 (fun y hy => ?_) (by rw [List.length_append, l2]; decide) (more_len t))
    · rw [List.map_append]
      exact EvF.addL (EvF.ev (EvF.rowTake (k := 2) hr4 (Ev.name O .i10) Ev.int)) (.inl rfl) (EvF.ev (EvF.rowTake (k := 2) hr4 (Ev.name O .i10) Ev.int)) (.inl rfl) (by rw [List.length_map, l2]; decide)
    · exact hrl y ((List.mem_append.mp hy).elim List.mem_of_mem_take List.mem_of_mem_take)
  refine Xs.forIn R.hand (It.range2 (Ev.built G O rfl rfl) Ev.int Ev.int (by decide) (by decide) (by decide) (by decide))
    (fun j σ ω' => ω' = ω ∧ ∃ e25 e26 e27, σ = stB l x T c0 f t ls rs [e11, e12, e13, e14, e15, e16, e17, some (.list ((belowL f t (runR f (beginR f) ls)).map rowD)), e19, e20, e21, e22, some (.list ((rs.take 2).map runD)), some (.ws (twiceW t rs)), e25, e26, e27, e28, e29, e30]) ⟨rfl, _, _, _, rfl⟩ (fun W' hW' i d σ ω' hd hJ => ?_) (fun σ ω' hJ => ?_)
  · obtain ⟨rfl, e25, e26, e27, rfl⟩ := hJ
    obtain ⟨hi, rfl⟩ := zspan_get hd
    have hi4 : i < 4 := by simpa using hi
    refine ⟨_, Tg.name O .i25 (fun _ e => nomatch e), ?_⟩
    have hz : (1 : Int) + (i : Int) = ((i + 1 : Nat) : Int) := by omega
    rw [hz]
    have hlaw := twice_law rs hrs (i + 1) (by omega) (by omega) t
    have hz1 : i + 1 < 5 := by omega
    have hz2 : 1 ≤ i + 1 := by omega
    refine Xs.assign (d := .int 0) O Ev.int .i26 ?_
    refine Xs.forIn R.hand (It.list (ds := (rs.take 2 ++ rs.take 2).map runD) ?_)
      (fun j σ ω₂ => ω₂ = ω' ∧ ∃ e27, σ = stB l x T c0 f t ls rs [e11, e12, e13, e14, e15, e16, e17, some (.list ((belowL f t (runR f (beginR f) ls)).map rowD)), e19, e20, e21, e22, some (.list ((rs.take 2).map runD)), some (.ws (twiceW t rs)), some (.int ((i + 1 : Nat) : Int)), some (.int (((rs.take 2 ++ rs.take 2).take j).foldl (colStep ((i + 1 : Nat) : Int)) 0)), e27, e28, e29, e30]) ⟨rfl, _, rfl⟩ (fun W'' hW'' j d σ ω₂ hd hJ => ?_) (fun σ ω₂ hJ => ?_)
    · rw [List.map_append]
      exact EvF.ev (EvF.addL (Ev.name O .i23) (.inl rfl) (Ev.name O .i23) (.inl rfl) (by rw [List.length_map, l2]; decide))
    · obtain ⟨rfl, e27, rfl⟩ := hJ
      rw [List.getElem?_map] at hd
      obtain ⟨r, er, rfl⟩ := Option.map_eq_some_iff.mp hd
      have et : (rs.take 2 ++ rs.take 2).take (j + 1) = (rs.take 2 ++ rs.take 2).take j ++ [r] := by rw [List.take_add_one, er]; rfl
      refine ⟨_, Tg.name O .i27 (fun _ e => nomatch e), ?_⟩
      refine Xs.assign O (Ev.bin (Ev.name O .i26) (Ev.name O .i27) Bin.add) .i26 ?_
      refine Xs.assign O (Ev.bin (Ev.bin (Ev.name O .i26) (Ev.name O .i25) Bin.add) (Ev.bin (Ev.name O .i26) (Ev.name O .i25) (Bin.mod (by omega))) Bin.sub) .i26 ?_
      refine Xs.turn ⟨rfl, some (runD r), ?_⟩
      rw [et, colV_snoc]
    · obtain ⟨rfl, e27, rfl⟩ := hJ
      have ef : ((rs.take 2 ++ rs.take 2).take ((rs.take 2 ++ rs.take 2).map runD).length).foldl (colStep ((i + 1 : Nat) : Int)) 0 = colV rs ((i + 1 : Nat) : Int) := by
        rw [List.length_map, List.take_length]; rfl
      rw [ef]
      have hts : 1 ≤ ((i + 1 : Nat) : Int) ∧ ((i + 1 : Nat) : Int) ≤ 1000 := by omega
      have hsm : (leadText (rs.take 2 ++ rs.take 2) (more t)).length ≤ 200 := lead_small (fun y hy => hrl y ((List.mem_append.mp hy).elim List.mem_of_mem_take List.mem_of_mem_take)) (by rw [List.length_append, l2]; decide) (more_len t)
      have fi := fn_ilW (prog := prog) (w := w) (x := leadText (rs.take 2 ++ rs.take 2) (more t)) (ts := ((i + 1 : Nat) : Int)) (by omega) hts.1 hts.2
      refine Xs.guard (b := (ilv (twiceW t rs) ((i + 1 : Nat) : Int) != colV rs ((i + 1 : Nat) : Int) + (if t then ((i + 1 : Nat) : Int) else 1))) (Ts.cmp (Ev.methE G (n := 1) (R.le (by decide)) (Ev.name O .i24) rfl rfl (sh5 (.inr rfl)) rfl (Es.cons (Ev.name O .i25) Es.nil) fi) (Ev.bin (Ev.name O .i26) (Ev.ite (b := !t) (Ts.cmp (Ev.name O .i5) Ev.str (more_blank t ▸ Cmp.eqS)) (fun e => ?_) (fun e => ?_)) Bin.add) Cmp.ne) (fun e => ?_) (fun _ => ?_)
      · have : t = false := by simpa using e
        subst this; exact Ev.int
      · have : t = true := by simpa using e
        subst this; exact Ev.name O .i25
      · rw [hlaw] at e
        simp at e
      · exact Xs.turn ⟨rfl, _, _, _, rfl⟩
  · obtain ⟨rfl, e25, e26, e27, rfl⟩ := hJ
    exact last fa cdv A hb L l M W W₀ ω' x T c0 rs _ _ _ _ _ _ _ _ _ _ _ _ _ _ _ _ _ _ _ R G O hW hT hc0
end
end Mine

-- B6
namespace Mine
open PySem PySem.Spec PySem.Calls PyProof.Rows PySem.W

noncomputable def saidD (x : Nat) (r : Nat) : D := .bool (decide (r < x))
theorem leadsD_at {f t : Bool} {rs : List Nat} {k : Nat} (hk : k < 4) : (leadsD f t rs)[((k : Nat) : Int).toNat]? = some (.ws (ownLead f t rs k)) := by
  unfold leadsD
  rw [Int.toNat_natCast, List.getElem?_map, List.getElem?_range hk]; rfl

section
variable {prog : Program} {w : World}
/-- the columns of the leads -/
theorem tail14 {ls : List Nat} {f t : Bool} (hls : ∀ l ∈ ls, l < 6) (hll : ls.length = 6) : AtFn w.params 180 fun qual scope _ body => ∀ (fa : Addr) (cdv : Value) (A : Around) (hb : Heap) (L l : Addr) (M W W₀ : Forb) (ω : Owns) (x : Option D) (T : Int) (c0 : Nat) (rs : List Nat) (e11 e13 e14 e15 e16 e17 e19 e20 e21 e22 e23 e24 e25 e26 e27 e28 e29 e30 : Option D), Rm A 8 → Gl w hb → (Gam qual scope fa cdv L hb).Ok → (∀ b, W₀ b → W b) → (∀ b, lawM L b → M b) → 0 ≤ T → c0 < 45 → rs ∈ perms4 →
    Xs prog w (Gam qual scope fa cdv L hb) A (Hx (Gam qual scope fa cdv L hb) M W (stB l x T c0 f t ls rs [e11, some (.list (leadsD f t rs)), e13, e14, e15, e16, e17, some (.list ((belowL f t (runR f (beginR f) ls)).map rowD)), e19, e20, e21, e22, e23, e24, e25, e26, e27, e28, e29, e30]) ω) M (body.drop 14) (RetIs W₀ (.bool true)) := by
  refine ⟨_, _, _, _, _, _, _, _, _, _, _, _, _, _, _, rfl, fun fa cdv A hb L l M W W₀ ω x T c0 rs e11 e13 e14 e15 e16 e17 e19 e20 e21 e22 e23 e24 e25 e26 e27 e28 e29 e30 R G O hW hMM hT hc0 hrs => ?_⟩
  have last := at_of (tail15 (prog := prog) (w := w) (t := t) (f := f) hls hll) ⟨_, _, _, _, _, _, _, _, _, _, _, rfl⟩
  have hr4 := perm_len rs hrs
  have hrl := perm_lt rs hrs
  have hM : ∀ i, i ≤ 8 → ∀ a, some (L + i) = some a → M a := fun i hi a e => by cases e; exact hMM _ ⟨Nat.le_add_right _ _, Nat.add_le_add_left hi _⟩
  have ft : ∀ (d : Nat → D) (k : List Nat), (k.filter fun _ => true).map d = k.map d := fun d k => by rw [List.filter_eq_self.mpr (fun _ _ => rfl)]
  refine Xs.forIn R.hand (It.range2 (Ev.built G O rfl rfl) Ev.int Ev.int (by decide) (by decide) (by decide) (by decide))
    (fun j σ ω' => ω' = ω ∧ ∃ x e11 e21 e22, σ = stB l x T c0 f t ls rs [e11, some (.list (leadsD f t rs)), e13, e14, e15, e16, e17, some (.list ((belowL f t (runR f (beginR f) ls)).map rowD)), e19, e20, e21, e22, e23, e24, e25, e26, e27, e28, e29, e30]) ⟨rfl, _, _, _, _, rfl⟩ (fun W' hW' i d σ ω' hd hJ => ?_) (fun σ ω' hJ => ?_)
  · obtain ⟨rfl, x, e11, e21, e22, rfl⟩ := hJ
    obtain ⟨hi, rfl⟩ := zspan_get hd
    have hi3 : i < 3 := by simpa using hi
    refine ⟨_, Tg.name O .i11 (fun _ e => nomatch e), ?_⟩
    have hk : (1 : Int) + (i : Int) = ((i + 1 : Nat) : Int) := by omega
    rw [hk]
    have hk4 : i + 1 < 4 := by omega
    have hk1 : 1 ≤ i + 1 := by omega
    generalize i + 1 = k at hk4 hk1
    refine Xs.forIn R.hand (It.range1 (Ev.built G O rfl rfl) Ev.int (by decide) (by decide))
      (fun j σ ω₂ => ω₂ = ω' ∧ ∃ x e21 e22, σ = stB l x T c0 f t ls rs [some (.int (k : Int)), some (.list (leadsD f t rs)), e13, e14, e15, e16, e17, some (.list ((belowL f t (runR f (beginR f) ls)).map rowD)), e19, e20, e21, e22, e23, e24, e25, e26, e27, e28, e29, e30]) ⟨rfl, _, _, _, rfl⟩ (fun W'' hW'' j d σ ω₂ hd hJ => ?_) (fun σ ω₂ hJ => ?_)
    · obtain ⟨rfl, x, e21, e22, rfl⟩ := hJ
      obtain ⟨hj, rfl⟩ := zspan_get hd
      have hj5 : j < 5 := by simpa using hj
      refine ⟨_, Tg.name O .i1 (hM 1 (by decide)), ?_⟩
      rw [Int.zero_add]
      have hlaw := leads_law rs hrs k hk4 hk1 j hj5 f t
      have hkl : (rs.take k).length = k := by rw [List.length_take, hr4]; omega
      refine Xs.assignComp (slots := [("x", some (L + 1)), ("c", some (L + 2)), ("falling", some (L + 3))]) (cl := [("x", L + 1), ("falling", L + 3), ("c", L + 2)]) (σ₂ := stB l (some (.int (j : Int))) T c0 f t ls rs [some (.int (k : Int)), some (.list (leadsD f t rs)), e13, e14, e15, e16, e17, some (.list ((belowL f t (runR f (beginR f) ls)).map rowD)), e19, e20, some (.list ((rs.take k).map (saidD j))), e22, e23, e24, e25, e26, e27, e28, e29, e30]) (rs.take k) (opD c0) (saidD j) (fun _ => true) O R.hand (It.list (EvF.ev (EvF.rowTake (k := k) hr4 (Ev.name O .i10) (Ev.name O .i11)))) (.skip (.keep (.skip (.keep (.keep .done)))))
        (by rw [ft]; exact .i21) (fun C W' hW' O' a ha => ⟨Tss.nil, fun _ => ?_⟩) (by omega) ?_ (hcel := fun y a hy => ?_) (hxn := show Str.ofString "text" ∉ [Str.ofString "x", Str.ofString "c", Str.ofString "falling"] from by decide)
      · have ha4 := hrl a (List.mem_of_mem_take ha)
        have e : saidD j a = .bool (decide (((c0 + a : Nat) : Int) + 7 < (c0 : Int) + 7 + (j : Int))) := by
          unfold saidD
          congr 1
          exact decide_eq_decide.mpr (by omega)
        rw [e]
        exact Ev.ite (b := f) (Ts.val (Ev.name O' .i3)) (fun _ => Ev.callFn G (n := 1) (R.le (by decide)) (Ev.glob G O' rfl) rfl (Es.cons (Ev.bin (Ev.name O' .i2) (Ev.name O' .i1) Bin.add) (Es.cons (Ev.tok G (Ev.glob G O' rfl) (Ev.name O' .i0) (by omega)) Es.nil)) fn_gt)
          (fun _ => Ev.callFn G (n := 1) (R.le (by decide)) (Ev.glob G O' rfl) rfl (Es.cons (Ev.tok G (Ev.glob G O' rfl) (Ev.name O' .i0) (by omega)) (Es.cons (Ev.bin (Ev.name O' .i2) (Ev.name O' .i1) Bin.add) Es.nil)) fn_lt)
      · have hp : (fun r : Nat => (decide (r < j) == false)) = fun r => !decide (r < j) := funext fun r => by cases decide (r < j) <;> rfl
        have hfl : ((rs.take k).filter fun r => !decide (r < j)).length ≤ 4 := by
          have := List.length_filter_le (fun r => !decide (r < j)) (rs.take k)
          omega
        refine Xs.assign (d := .int (((4 : Int) + (j : Int)) * ((k : Int) + (((rs.take k).filter fun r => !decide (r < j)).length : Int)))) O ?_ .i22 ?_
        · refine Ev.bin (Ev.bin Ev.int (Ev.name O .i1) Bin.add) (Ev.bin (Ev.name O .i11) ?_ Bin.add) (Bin.mul (by omega) (by omega))
          have e : ((rs.take k).filter fun r => !decide (r < j)).length = (((rs.take k).filter fun r => (decide (r < j) == false)).map (saidD j)).length := by rw [List.length_map, hp]
          rw [e]
          refine Ev.len (Ev.built G O rfl rfl) (EvF.ev (EvF.comp (slots := []) (cl := []) (rs.take k) (saidD j) (saidD j) (fun r => (decide (r < j) == false)) O R.hand (It.list (Ev.name O .i21)) .done (fun C W' hW' O' a ha => ⟨Tss.one (Ts.cmp (Ev.name O' .i0) Ev.bool Cmp.isB), fun _ => Ev.name O' .i0⟩) rfl (by decide) rfl (by decide) rfl rfl (fun y a hy => nomatch hy) (by decide) (by omega))) (.inl rfl) ?_
          rw [← e]; omega
        refine Xs.iteE (α := Unit) (b := !f) (fun _ => stB l (some (.int (j : Int))) T c0 f t ls rs [some (.int (k : Int)), some (.list (leadsD f t rs)), e13, e14, e15, e16, e17, some (.list ((belowL f t (runR f (beginR f) ls)).map rowD)), e19, e20, some (.list ((rs.take k).map (saidD j))), some (.int (dueV f t rs k j)), e23, e24, e25, e26, e27, e28, e29, e30]) (fun _ => ω₂) (Ts.not (Ts.val (Ev.name O .i4))) (fun e => ?_) (fun e => ?_) (fun _ => ?_)
        · have hf : f = false := by simpa using e
          have ed : dueV f t rs k j = ((4 : Int) + (j : Int)) * ((k : Int) + (((rs.take k).filter fun r => !decide (r < j)).length : Int)) + (if t then 4 + (j : Int) else 1) := by subst hf; unfold dueV; cases t <;> simp
          rw [ed]
          refine Xs.assign O (Ev.bin (Ev.name O .i22) (Ev.ite (b := !t) (Ts.cmp (Ev.name O .i5) Ev.str (more_blank t ▸ Cmp.eqS)) (fun e => ?_) (fun e => ?_)) Bin.add) .i22 (Xs.nil fun hp H => ⟨(), H⟩)
          · have : t = false := by simpa using e
            subst this; exact Ev.int
          · have : t = true := by simpa using e
            subst this; exact Ev.bin Ev.int (Ev.name O .i1) Bin.add
        · have hf : f = true := by simpa using e
          have ed : dueV f t rs k j = ((4 : Int) + (j : Int)) * ((k : Int) + (((rs.take k).filter fun r => !decide (r < j)).length : Int)) := by subst hf; rfl
          rw [ed]
          exact Xs.nil fun hp H => ⟨(), H⟩
        · have hb' : (if f then ("" : Str) else more t).length ≤ 100 := by cases f <;> cases t <;> decide
          have hsm : (leadText (rs.take k) (if f then "" else more t)).length ≤ 200 := lead_small (fun y hy => hrl y (List.mem_of_mem_take hy)) (by omega) hb'
          have fi := fn_ilW (prog := prog) (w := w) (x := leadText (rs.take k) (if f then "" else more t)) (ts := 4 + (j : Int)) (by omega) (by omega) (by omega)
          have hll' : (leadsD f t rs).length = 4 := by unfold leadsD; rw [List.length_map]; rfl
          refine Xs.guard (b := (ilv (ownLead f t rs k) (4 + (j : Int)) != dueV f t rs k j)) (Ts.cmp (Ev.methE G (n := 1) (R.le (by decide)) (Ev.item (Ev.name O .i12) (.inl rfl) (Ev.name O .i11) (by omega) (leadsD_at hk4) (hz := by rw [hll']; decide)) rfl rfl (sh5 (.inr rfl)) rfl (Es.cons (Ev.bin Ev.int (Ev.name O .i1) Bin.add) Es.nil) fi) (Ev.name O .i22) Cmp.ne) (fun e => ?_) (fun _ => ?_)
          · rw [hlaw] at e
            simp at e
          · exact Xs.turn ⟨rfl, _, _, _, rfl⟩
      · cases hy with
        | head => exact ⟨rfl, rfl⟩
        | tail _ h => cases h with
          | head => exact ⟨rfl, rfl⟩
          | tail _ h => cases h with
            | head => exact ⟨rfl, rfl⟩
            | tail _ h => cases h
    · obtain ⟨rfl, x, e21, e22, rfl⟩ := hJ
      exact Xs.turn ⟨rfl, _, _, _, _, rfl⟩
  · obtain ⟨rfl, x, e11, e21, e22, rfl⟩ := hJ
    exact last fa cdv A hb L l M W W₀ ω' x T c0 rs _ _ _ _ _ _ _ _ _ _ _ _ _ _ _ _ _ _ _ R G O hW hT hc0 hrs
end
end Mine

-- B5
namespace Mine
open PySem PySem.Spec PySem.Calls PyProof.Rows PySem.W

noncomputable def toldK (f t : Bool) (rs : List Nat) (n : Nat) : List (Int × D) := (List.range n).map fun (m : Nat) => ((m : Int), D.bool (toldV f t rs m))
theorem kvs_at (g : Nat → D) : ∀ m : Nat, m < 15 → ((List.range 15).map fun (m : Nat) => ((m : Int), g m)).lookup (m : Int) = some (g m) := by
  intro m hm
  match m, hm with
  | 0, _ => rfl
  | 1, _ => rfl
  | 2, _ => rfl
  | 3, _ => rfl
  | 4, _ => rfl
  | 5, _ => rfl
  | 6, _ => rfl
  | 7, _ => rfl
  | 8, _ => rfl
  | 9, _ => rfl
  | 10, _ => rfl
  | 11, _ => rfl
  | 12, _ => rfl
  | 13, _ => rfl
  | 14, _ => rfl
  | n + 15, h => exact absurd h (by omega)
theorem shl_nat : ∀ x : Nat, x < 4 → (1 : Int) * 2 ^ ((x : Nat) : Int).toNat = ((2 ^ x : Nat) : Int) ∧ (15 : Int) - ((2 ^ x : Nat) : Int) = ((15 - 2 ^ x : Nat) : Int) := by decide
theorem rowP_shaped (r : List Nat) : PySem.SeqAt.shaped (rowP r) = true := by
  have h2 := rowP_depth r
  unfold PySem.SeqAt.shaped
  rw [rowP_lay, decide_eq_true (show _ ≤ 64 by omega)]; rfl

section
variable {prog : Program} {w : World}
theorem Xs.know {A : Around} {Γ : Cx} {M : Forb} {P : Heap → Prop} {R : Flow → Heap → Prop} {body : List Stmt} {φ : Prop} (h : ∀ hp, P hp → φ) (k : φ → Xs prog w Γ A P M body R) : Xs prog w Γ A P M body R := fun s Q E p q => k (h _ p) s Q E p q

theorem mem_cell (L : Addr) : ∀ i : Nat, 1 ≤ i → i ≤ 8 → ∃ x, (x, some (L + i)) ∈ lawSlots L := by
  intro i h1 h2
  match i, h1, h2 with
  | 1, _, _ => exact ⟨"x", by simp [lawSlots]⟩
  | 2, _, _ => exact ⟨"c", by simp [lawSlots]⟩
  | 3, _, _ => exact ⟨"falling", by simp [lawSlots]⟩
  | 4, _, _ => exact ⟨"behind", by simp [lawSlots]⟩
  | 5, _, _ => exact ⟨"four", by simp [lawSlots]⟩
  | 6, _, _ => exact ⟨"row", by simp [lawSlots]⟩
  | 7, _, _ => exact ⟨"told", by simp [lawSlots]⟩
  | 8, _, _ => exact ⟨"mask", by simp [lawSlots]⟩
  | n + 9, _, h => exact absurd h (by omega)
theorem own_off {qual : Str} {scope : Scope} {fa : Addr} {cdv : Value} {L : Addr} {hb h : Heap} {M W : Forb} {σ : List (Option D)} {ω : Owns} (H : Hx (Gam qual scope fa cdv L hb) M W σ ω h) {a : Addr} {o : OD} (hm : (a, o) ∈ ω) : ∀ b, lawM L b → b ≠ a := by
  rintro b ⟨h1, h2⟩ rfl
  obtain ⟨i, rfl⟩ := Nat.le.dest h1
  have hi : i ≤ 8 := by
    have : L + i ≤ L + 8 := h2
    exact Nat.le_of_add_le_add_left this
  rcases Nat.eq_zero_or_pos i with rfl | hp
  · exact H.ownL _ hm rfl
  · obtain ⟨x, hx⟩ := mem_cell L i hp hi
    exact H.ownC _ hm x hx

/-- the orders below -/
theorem tail12 {ls : List Nat} {f t : Bool} (hls : ∀ l ∈ ls, l < 6) (hll : ls.length = 6) : AtFn w.params 180 fun qual scope _ body => ∀ (fa : Addr) (cdv : Value) (A : Around) (hb : Heap) (L l b : Addr) (M W : Forb) (x : Option D) (T : Int) (c0 : Nat) (rs : List Nat) (e11 e14 e15 e16 e17 e18 e19 e20 e21 e22 e23 e24 e25 e26 e27 e28 e29 e30 : Option D), Rm A 8 → Gl w hb → (Gam qual scope fa cdv L hb).Ok → (∀ b, lawM L b → W b) → (∀ b, lawM L b → M b) → 0 ≤ T → c0 < 45 → rs = runR f (beginR f) ls →
    Xs prog w (Gam qual scope fa cdv L hb) A (Hx (Gam qual scope fa cdv L hb) M W (stB l x T c0 f t ls rs [e11, some (.list (leadsD f t rs)), some (.val (.ref b)), e14, e15, e16, e17, e18, e19, e20, e21, e22, e23, e24, e25, e26, e27, e28, e29, e30]) [(b, .dict (toldK f t rs 15))]) M (body.drop 12) (RetIs (lawM L) (.bool true)) := by
  refine ⟨_, _, _, _, _, _, _, _, _, _, _, _, _, _, _, rfl, fun fa cdv A hb L l b M W x T c0 rs e11 e14 e15 e16 e17 e18 e19 e20 e21 e22 e23 e24 e25 e26 e27 e28 e29 e30 R G O hW hMM hT hc0 hrr => ?_⟩
  have last := at_of (tail14 (prog := prog) (w := w) (t := t) (f := f) hls hll) ⟨_, _, _, _, _, _, _, _, _, _, _, rfl⟩
  have hrs : rs ∈ perms4 := hrr ▸ perm_run f ls _ (begin_mem f) hls
  have hu : A.units + 64 < cLine := by have := R.uni; omega
  refine Xs.own O (EvF.list Es.nil) (fun b => .i18) fun a => ?_
  refine Xs.forIn R.hand (It.list (Ev.callFn0 G (n := 3) (R.le (by decide)) (Ev.glob G O rfl) rfl fn_orders))
    (fun j σ ω' => ω' = [(a, .list (((perms4.take j).filter fun o => (fronts o).all (toldV f t rs)).map rowD)), (b, .dict (toldK f t rs 15))] ∧ ∃ e19 e20, σ = stB l x T c0 f t ls rs [e11, some (.list (leadsD f t rs)), some (.val (.ref b)), e14, e15, e16, e17, some (.val (.ref a)), e19, e20, e21, e22, e23, e24, e25, e26, e27, e28, e29, e30]) ⟨rfl, _, _, rfl⟩ (fun W' hW' i d σ ω' hd hJ => ?_) (fun σ ω' hJ => ?_)
  · obtain ⟨rfl, e19, e20, rfl⟩ := hJ
    rw [List.getElem?_map] at hd
    obtain ⟨o, eo, rfl⟩ := Option.map_eq_some_iff.mp hd
    have ho := List.mem_of_getElem? eo
    have ho4 := perm_len o ho
    have hol := perm_lt o ho
    have hfl := fronts_lt o ho
    have et : perms4.take (i + 1) = perms4.take i ++ [o] := by rw [List.take_add_one, eo]; rfl
    refine ⟨_, Tg.name O .i19 (fun _ e => nomatch e), ?_⟩
    have at_ : ∀ k : Nat, k < 4 → (o.map natD)[((k : Nat) : Int).toNat]? = some (natD (o.getD k 0)) := fun k hk => by
      rw [Int.toNat_natCast, List.getElem?_map]
      have : k < o.length := by omega
      simp [this]
    have og : ∀ k : Nat, k < 4 → o.getD k 0 < 4 := fun k hk => getD_lt ho hk
    have hml : (o.map natD).length < 2 ^ 62 := by rw [List.length_map, ho4]; decide
    refine Xs.assign (d := rowD (fronts o)) O ?_ .i20 ?_
    · have fr : rowD (fronts o) = .list [.int 0, .int (1 * 2 ^ ((o.getD 0 0 : Nat) : Int).toNat), .int (1 * 2 ^ ((o.getD 0 0 : Nat) : Int).toNat + 1 * 2 ^ ((o.getD 1 0 : Nat) : Int).toNat), .int (15 - 1 * 2 ^ ((o.getD 3 0 : Nat) : Int).toNat)] := by
        rw [(shl_nat _ (og 0 (by decide))).1, (shl_nat _ (og 1 (by decide))).1, (shl_nat _ (og 3 (by decide))).1, (shl_nat _ (og 3 (by decide))).2]
        rfl
      rw [fr]
      have b4 : ∀ k : Nat, k < 4 → (0 : Int) ≤ ((o.getD k 0 : Nat) : Int) ∧ ((o.getD k 0 : Nat) : Int) ≤ 1000 := fun k hk => by have := og k hk; omega
      refine Ev.list (Es.cons Ev.int (Es.cons ?_ (Es.cons ?_ (Es.cons ?_ Es.nil))))
      · exact Ev.bin Ev.int (Ev.item (k := ((0 : Nat) : Int)) (Ev.name O .i19) (.inl rfl) Ev.int (by decide) (at_ 0 (by decide)) (hz := hml)) (Bin.shl (by decide) (by decide) (b4 0 (by decide)).1 (b4 0 (by decide)).2)
      · exact Ev.bin (Ev.bin Ev.int (Ev.item (k := ((0 : Nat) : Int)) (Ev.name O .i19) (.inl rfl) Ev.int (by decide) (at_ 0 (by decide)) (hz := hml)) (Bin.shl (by decide) (by decide) (b4 0 (by decide)).1 (b4 0 (by decide)).2)) (Ev.bin Ev.int (Ev.item (k := ((1 : Nat) : Int)) (Ev.name O .i19) (.inl rfl) Ev.int (by decide) (at_ 1 (by decide)) (hz := hml)) (Bin.shl (by decide) (by decide) (b4 1 (by decide)).1 (b4 1 (by decide)).2)) Bin.add
      · exact Ev.bin Ev.int (Ev.bin Ev.int (Ev.item (k := ((3 : Nat) : Int)) (Ev.name O .i19) (.inl rfl) Ev.int (by decide) (at_ 3 (by decide)) (hz := hml)) (Bin.shl (by decide) (by decide) (b4 3 (by decide)).1 (b4 3 (by decide)).2)) Bin.sub
    refine Xs.iteE (α := Unit) (b := decide ((fronts o).filter (fun m => !toldV f t rs m) = [])) (fun _ => stB l x T c0 f t ls rs [e11, some (.list (leadsD f t rs)), some (.val (.ref b)), e14, e15, e16, e17, some (.val (.ref a)), some (rowD o), some (rowD (fronts o)), e21, e22, e23, e24, e25, e26, e27, e28, e29, e30]) (fun _ => [(a, .list (((perms4.take (i + 1)).filter fun o => (fronts o).all (toldV f t rs)).map rowD)), (b, .dict (toldK f t rs 15))]) ?_ (fun e => ?_) (fun e => ?_) (fun _ => Xs.turn ⟨rfl, _, _, rfl⟩)
    · rw [← rowP_eqv]
      refine Ts.cmp (d := rowD ((fronts o).filter fun m => !toldV f t rs m)) (e := rowD []) ?_ (Ev.list Es.nil) (Cmp.eqD (rowP_py _) (rowP_py _) (rowP_shaped _) (rowP_shaped _) hu)
      exact EvF.ev (EvF.comp (slots := [("told", some (L + 7))]) (cl := [("told", L + 7)]) (fronts o) natD natD (fun m => !toldV f t rs m) O R.hand (It.list (Ev.name O .i20)) (.skip (.skip (.skip (.skip (.skip (.skip (.skip (.skip (.skip (.skip (.skip (.skip (.skip (.keep .done)))))))))))))) (fun C W' hW' O' m hm => ⟨Tss.one (Ts.not (Ts.val (Ev.key (Ev.name O' .i1) (.tail _ (.head _)) (Ev.name O' .i0) (kvs_at _ m (hfl m hm))))), fun _ => Ev.name O' .i0⟩) rfl (by decide) rfl (by decide) rfl rfl (fun y a hy => by cases hy with | head => exact ⟨rfl, rfl⟩ | tail _ h => cases h) (show Str.ofString "mask" ∉ [Str.ofString "told"] from by decide) (show 4 ≤ 1000000 by decide))
    · have e := of_decide_eq_true e
      have hall : (fronts o).all (toldV f t rs) = true := List.all_eq_true.mpr fun m hm => by
        have := List.filter_eq_nil_iff.mp e m hm
        simpa using this
      have es : ((perms4.take (i + 1)).filter fun o => (fronts o).all (toldV f t rs)) = ((perms4.take i).filter fun o => (fronts o).all (toldV f t rs)) ++ [o] := by
        rw [et, List.filter_append]
        congr 1
        rw [List.filter_cons, if_pos hall]; rfl
      rw [es, List.map_append]
      refine Xs.append (Ev.name O .i18) (Ev.name O .i19) ?_ .head (Xs.nil fun hp H => ⟨(), H⟩)
      have h1 := List.length_filter_le (fun o => (fronts o).all (toldV f t rs)) (perms4.take i)
      have h2 : (perms4.take i).length ≤ perms4.length := by rw [List.length_take]; exact Nat.min_le_right _ _
      have h3 : perms4.length = 24 := rfl
      rw [List.length_map]; omega
    · have e := of_decide_eq_false e
      have hall : ¬ (fronts o).all (toldV f t rs) = true := fun q => e (List.filter_eq_nil_iff.mpr fun m hm => by
        have := List.all_eq_true.mp q m hm
        simp [this])
      have es : ((perms4.take (i + 1)).filter fun o => (fronts o).all (toldV f t rs)) = ((perms4.take i).filter fun o => (fronts o).all (toldV f t rs)) := by
        rw [et, List.filter_append, List.filter_cons, if_neg hall, List.filter_nil, List.append_nil]
      rw [es]
      exact Xs.nil fun hp H => ⟨(), H⟩
  · obtain ⟨rfl, e19, e20, rfl⟩ := hJ
    rw [List.length_map, List.take_length]
    refine Xs.know (φ := ∀ b, lawM L b → b ≠ a) (fun hp H => own_off H (.head _)) fun hoff => ?_
    refine Xs.freeze (ω' := []) O (.head _) .i18 .i18 (List.nil_sublist _) (fun p hp => nomatch hp) ?_
    subst hrr
    exact last fa cdv A hb L l _ _ (lawM L) [] x T c0 _ _ _ _ _ _ _ _ _ _ _ _ _ _ _ _ _ _ _ R G O (fun b hb => ⟨.inr (hW b hb), hoff b hb⟩) (fun b hb => ⟨.inr (hMM b hb), hoff b hb⟩) hT hc0 hrs
end
end Mine

-- B4
namespace Mine
open PySem PySem.Spec PySem.Calls PyProof.Rows PySem.W

theorem memb_len : ∀ m : Nat, m < 15 → (memb m).length < 4 := by decide
theorem memb_lt : ∀ m : Nat, m < 15 → ∀ x ∈ memb m, x < 4 := by decide
theorem mask_bit : ∀ m : Nat, m < 15 → ∀ x : Nat, x < 4 → (Builtin.bitAnd ((m : Int).fdiv (2 ^ ((x : Nat) : Int).toNat)) 1 != 0) = decide (m / 2 ^ x % 2 = 1) := by decide +kernel
theorem toldK_succ (f t : Bool) (rs : List Nat) (n : Nat) : toldK f t rs (n + 1) = toldK f t rs n ++ [((n : Int), .bool (toldV f t rs n))] := by
  unfold toldK
  rw [List.range_succ, List.map_append]; rfl
theorem toldK_keys (f t : Bool) (rs : List Nat) (n : Nat) : (n : Int) ∉ (toldK f t rs n).map (·.1) := by
  unfold toldK
  rw [List.map_map]
  intro h
  obtain ⟨m, hm, e⟩ := List.mem_map.mp h
  have hm := List.mem_range.mp hm
  have e : (m : Int) = (n : Int) := e
  omega
theorem lookup_snoc {k : Int} {d : D} : ∀ kvs : List (Int × D), k ∉ kvs.map (·.1) → (kvs ++ [(k, d)]).lookup k = some d
  | [], _ => by simp
  | (x, v) :: kvs, h => by
    have hx : ¬ k = x := fun e => h (by rw [e]; exact .head _)
    have : (k == x) = false := beq_eq_false_iff_ne.mpr hx
    rw [List.cons_append, List.lookup_cons, this]
    exact lookup_snoc kvs fun q => h (.tail _ q)

section
variable {prog : Program} {w : World}
theorem Ts.int {A : Around} {Γ : Cx} {M W : Forb} {σ : List (Option D)} {ω : Owns} {e : Expr} {i : Int} (a : Ev prog w Γ A M W σ ω e (.int i))
    (he : ∀ whole, isTrue e Γ.env whole = (do let v ← whole; standAt e.pos; holding [v] (truthy v)) := by intro _; rfl) : Ts prog w Γ A M W σ ω e (i != 0) := by
  intro s Q E H h
  refine wpAny_isTrue_value (a s _ E H fun v h₁ tk₁ k₁ r₁ => ?_) (he _)
  cases r₁
  exact truthy_int (h h₁ tk₁ k₁)

/-- told -/
theorem tail10 {ls : List Nat} {f t : Bool} (hls : ∀ l ∈ ls, l < 6) (hll : ls.length = 6) : AtFn w.params 180 fun qual scope _ body => ∀ (fa : Addr) (cdv : Value) (A : Around) (hb : Heap) (L l : Addr) (M W : Forb) (x : Option D) (T : Int) (c0 : Nat) (rs : List Nat) (e11 e13 e14 e15 e16 e17 e18 e19 e20 e21 e22 e23 e24 e25 e26 e27 e28 e29 e30 : Option D), Rm A 8 → Gl w hb → (Gam qual scope fa cdv L hb).Ok → (∀ b, lawM L b → W b) → (∀ b, lawM L b → M b) → 0 ≤ T → c0 < 45 → rs = runR f (beginR f) ls →
    Xs prog w (Gam qual scope fa cdv L hb) A (Hx (Gam qual scope fa cdv L hb) M W (stB l x T c0 f t ls rs [e11, some (.list (leadsD f t rs)), e13, e14, e15, e16, e17, e18, e19, e20, e21, e22, e23, e24, e25, e26, e27, e28, e29, e30]) []) M (body.drop 10) (RetIs (lawM L) (.bool true)) := by
  refine ⟨_, _, _, _, _, _, _, _, _, _, _, _, _, _, _, rfl, fun fa cdv A hb L l M W x T c0 rs e11 e13 e14 e15 e16 e17 e18 e19 e20 e21 e22 e23 e24 e25 e26 e27 e28 e29 e30 R G O hW hMM hT hc0 hrr => ?_⟩
  have last := at_of (tail12 (prog := prog) (w := w) (t := t) (f := f) hls hll) ⟨_, _, _, _, _, _, _, _, _, _, _, rfl⟩
  have hrs : rs ∈ perms4 := hrr ▸ perm_run f ls _ (begin_mem f) hls
  have hr4 := perm_len rs hrs
  have hrl := perm_lt rs hrs
  have hM : ∀ i, i ≤ 8 → ∀ a, some (L + i) = some a → M a := fun i hi a e => by cases e; exact hMM _ ⟨Nat.le_add_right _ _, Nat.add_le_add_left hi _⟩
  have hbf : (if f then more t else ("" : Str)).length ≤ 100 := by cases f <;> cases t <;> decide
  have hbo : (if f then ("" : Str) else more t).length ≤ 100 := by cases f <;> cases t <;> decide
  refine Xs.newDict O (fun b => .i13) (fun b => ?_) (hM 7 (by decide))
  refine Xs.forIn R.hand (It.range1 (Ev.built G O rfl rfl) Ev.int (by decide) (by decide))
    (fun j σ ω' => ω' = [(b, .dict (toldK f t rs j))] ∧ ∃ e14 e15 e16 e17, σ = stB l x T c0 f t ls rs [e11, some (.list (leadsD f t rs)), some (.val (.ref b)), e14, e15, e16, e17, e18, e19, e20, e21, e22, e23, e24, e25, e26, e27, e28, e29, e30]) ⟨rfl, _, _, _, _, rfl⟩ (fun W' hW' i d σ ω' hd hJ => ?_) (fun σ ω' hJ => ?_)
  · obtain ⟨rfl, e14, e15, e16, e17, rfl⟩ := hJ
    obtain ⟨hi, rfl⟩ := zspan_get hd
    have hi15 : i < 15 := by simpa using hi
    refine ⟨_, Tg.name O .i14 (fun a e => .inr (hM 8 (by decide) a e)), ?_⟩
    rw [Int.zero_add]
    have hml := memb_len i hi15
    refine Xs.assignComp (slots := [("four", some (L + 5)), ("mask", some (L + 8))]) (cl := [("mask", L + 8), ("four", L + 5)]) (σ₂ := stB l x T c0 f t ls rs [e11, some (.list (leadsD f t rs)), some (.val (.ref b)), some (.int (i : Int)), some (.list ((memb i).map (opD c0))), e16, e17, e18, e19, e20, e21, e22, e23, e24, e25, e26, e27, e28, e29, e30]) (List.range 4) natD (opD c0) (fun x => decide (i / 2 ^ x % 2 = 1)) O R.hand ?_ (.skip (.skip (.skip (.skip (.skip (.skip (.skip (.keep (.skip (.skip (.skip (.skip (.skip (.skip (.keep .done)))))))))))))))
      .i15 (fun C W' hW' O' y hy => ⟨?_, fun _ => ?_⟩) (by decide) ?_ (hcel := fun y a hy => ?_) (hxn := show Str.ofString "x" ∉ [Str.ofString "four", Str.ofString "mask"] from by decide)
    · rw [← zspan_nat 4]
      exact It.range1 (Ev.built G O rfl rfl) Ev.int (by decide) (by decide)
    · have hy4 := List.mem_range.mp hy
      rw [← mask_bit i hi15 y hy4]
      exact Tss.one (Ts.int (Ev.bin (Ev.bin (Ev.name O' .i2) (Ev.name O' .i0) (Bin.shr (by omega))) Ev.int Bin.and))
    · have hy4 := List.mem_range.mp hy
      exact Ev.item (k := ((y : Nat) : Int)) (Ev.name O' .i1) (.inl rfl) (Ev.name O' .i0) (by omega) (by rw [Int.toNat_natCast, List.getElem?_map, List.getElem?_range hy4]; rfl)
    · have hol : (leadsD f t rs).length = 4 := by unfold leadsD; rw [List.length_map]; rfl
      have hmm : ((memb i).map (opD c0)).length = (memb i).length := List.length_map _
      refine Xs.assign (d := .ws (ownLead f t rs (memb i).length)) O (Ev.item (k := (((memb i).map (opD c0)).length : Int)) (Ev.name O .i12) (.inl rfl) (Ev.len (Ev.built G O rfl rfl) (Ev.name O .i15) (.inl rfl) (by rw [hmm]; omega)) (by omega) (by rw [hmm]; exact leadsD_at hml) (hz := by rw [hol]; decide)) .i16 ?_
      refine Xs.assign (d := .ws (maskLead f t i)) O (Ev.callFn G (n := 4) (R.le (by decide)) (Ev.glob G O rfl) rfl (Es.cons (Ev.name O .i15) (Es.cons (Ev.name O .i3) (Es.cons (Ev.ite (b := f) (Ts.val (Ev.name O .i4)) (fun e => ?_) (fun e => ?_)) Es.nil))) (fn_lead (xs := memb i) (behind := if f then more t else "") hc0 (memb_lt i hi15) (by omega) hbf)) .i17 ?_
      · rw [e]; exact Ev.name O .i5
      · rw [e]; exact Ev.str
      have s1 : (leadText (rs.take (memb i).length) (if f then "" else more t)).length ≤ 200 := lead_small (fun y hy => hrl y (List.mem_of_mem_take hy)) (by rw [List.length_take]; omega) hbo
      have s2 : (leadText (memb i) (if f then more t else "")).length ≤ 200 := lead_small (memb_lt i hi15) (by omega) hbf
      have f1 := fn_lessW (prog := prog) (w := w) (x := leadText (rs.take (memb i).length) (if f then "" else more t)) (y := leadText (memb i) (if f then more t else "")) (by omega) (by omega)
      have f2 := fn_lessW (prog := prog) (w := w) (x := leadText (memb i) (if f then more t else "")) (y := leadText (rs.take (memb i).length) (if f then "" else more t)) (by omega) (by omega)
      have hk := toldK_succ f t rs i
      refine Xs.setKey (d := .bool (toldV f t rs i)) (Ev.ite (b := f) (Ts.val (Ev.name O .i4)) (fun e => ?_) (fun e => ?_)) (Ev.name O .i13) (Ev.name O .i14) (toldK_keys f t rs i) (by unfold toldK; rw [List.length_map, List.length_range]; omega) .head ?_
      · have : toldV f t rs i = lessv (ownLead f t rs (memb i).length) (maskLead f t i) := by unfold toldV; rw [e]; rfl
        rw [this]
        exact Ev.methE G (n := 2) (R.le (by decide)) (Ev.name O .i16) rfl rfl (sh5 (.inl rfl)) rfl (Es.cons (Ev.name O .i17) Es.nil) f1
      · have : toldV f t rs i = lessv (maskLead f t i) (ownLead f t rs (memb i).length) := by unfold toldV; rw [e]; rfl
        rw [this]
        exact Ev.methE G (n := 2) (R.le (by decide)) (Ev.name O .i17) rfl rfl (sh5 (.inl rfl)) rfl (Es.cons (Ev.name O .i16) Es.nil) f2
      have hlk : (toldK f t rs i ++ [((i : Int), D.bool (toldV f t rs i))]).lookup (i : Int) = some (D.bool (toldV f t rs i)) := lookup_snoc _ (toldK_keys f t rs i)
      refine Xs.guard (b := !(toldV f t rs i == true) && !(toldV f t rs i == false)) (Ts.and2 (Ts.cmp (Ev.key (Ev.name O .i13) (.head _) (Ev.name O .i14) hlk) Ev.bool Cmp.isNotB) (fun _ => Ts.cmp (Ev.key (Ev.name O .i13) (.head _) (Ev.name O .i14) hlk) Ev.bool Cmp.isNotB)) (fun e => ?_) (fun _ => ?_)
      · generalize toldV f t rs i = v at e
        cases v <;> cases e
      · rw [← hk]
        exact Xs.turn ⟨rfl, _, _, _, _, rfl⟩
    · cases hy with
      | head => exact ⟨rfl, rfl⟩
      | tail _ h => cases h with
        | head => exact ⟨rfl, rfl⟩
        | tail _ h => cases h
  · obtain ⟨rfl, e14, e15, e16, e17, rfl⟩ := hJ
    rw [zspan_length]
    exact last fa cdv A hb L l b _ _ x T c0 rs _ _ _ _ _ _ _ _ _ _ _ _ _ _ _ _ _ _ R G O (fun b hb => .inr (hW b hb)) (fun b hb => .inr (hMM b hb)) hT hc0 hrr
end
end Mine

-- B3
namespace Mine
open PySem PySem.Spec PySem.Calls PyProof.Rows PySem.W

section
variable {prog : Program} {w : World}
/-- the leads -/
theorem tail9 {ls : List Nat} {f t : Bool} (hls : ∀ l ∈ ls, l < 6) (hll : ls.length = 6) : AtFn w.params 180 fun qual scope _ body => ∀ (fa : Addr) (cdv : Value) (A : Around) (hb : Heap) (L l : Addr) (M W : Forb) (x : Option D) (T : Int) (c0 : Nat) (rs : List Nat), Rm A 8 → Gl w hb → (Gam qual scope fa cdv L hb).Ok → (∀ b, lawM L b → W b) → (∀ b, lawM L b → M b) → 0 ≤ T → c0 < 45 → rs = runR f (beginR f) ls →
    Xs prog w (Gam qual scope fa cdv L hb) A (Hx (Gam qual scope fa cdv L hb) M W (stB l x T c0 f t ls rs [none, none, none, none, none, none, none, none, none, none, none, none, none, none, none, none, none, none, none, none]) []) M (body.drop 9) (RetIs (lawM L) (.bool true)) := by
  refine ⟨_, _, _, _, _, _, _, _, _, _, _, _, _, _, _, rfl, fun fa cdv A hb L l M W x T c0 rs R G O hW hMM hT hc0 hrr => ?_⟩
  have last := at_of (tail10 (prog := prog) (w := w) (t := t) (f := f) hls hll) ⟨_, _, _, _, _, _, _, _, _, _, _, rfl⟩
  have hrs : rs ∈ perms4 := hrr ▸ perm_run f ls _ (begin_mem f) hls
  have hr4 := perm_len rs hrs
  have hrl := perm_lt rs hrs
  have hbo : (if f then ("" : Str) else more t).length ≤ 100 := by cases f <;> cases t <;> decide
  refine Xs.assignComp (slots := [("c", some (L + 2)), ("falling", some (L + 3)), ("behind", some (L + 4)), ("row", some (L + 6))]) (cl := [("row", L + 6), ("falling", L + 3), ("c", L + 2), ("behind", L + 4)]) (σ₂ := stB l x T c0 f t ls rs [none, some (.list (leadsD f t rs)), none, none, none, none, none, none, none, none, none, none, none, none, none, none, none, none, none, none]) (List.range 4) natD (fun k => .ws (ownLead f t rs k)) (fun _ => true) O R.hand ?_ (.skip (.skip (.skip (.keep (.keep (.keep (.skip (.skip (.skip (.skip (.keep .done)))))))))))
    (by rw [List.filter_eq_self.mpr (fun _ _ => rfl)]; exact .i12) (fun C W' hW' O' k hk => ⟨Tss.nil, fun _ => ?_⟩) (by decide) ?_ (hcel := fun y a hy => ?_) (hxn := show Str.ofString "k" ∉ [Str.ofString "c", Str.ofString "falling", Str.ofString "behind", Str.ofString "row"] from by decide)
  · rw [← zspan_nat 4]
    exact It.range1 (Ev.built G O rfl rfl) Ev.int (by decide) (by decide)
  · have hk4 := List.mem_range.mp hk
    refine Ev.callFn G (n := 4) (R.le (by decide)) (Ev.glob G O' rfl) rfl (Es.cons (EvF.ev (EvF.rowTake (k := k) hr4 (Ev.name O' .i4) (Ev.name O' .i0))) (Es.cons (Ev.name O' .i1) (Es.cons (Ev.ite (b := f) (Ts.val (Ev.name O' .i2)) (fun e => ?_) (fun e => ?_)) Es.nil))) (fn_lead (xs := rs.take k) (behind := if f then "" else more t) hc0 (fun y hy => hrl y (List.mem_of_mem_take hy)) (by rw [List.length_take]; omega) hbo)
    · rw [e]; exact Ev.str
    · rw [e]; exact Ev.name O' .i3
  · exact last fa cdv A hb L l M W x T c0 rs _ _ _ _ _ _ _ _ _ _ _ _ _ _ _ _ _ _ _ R G O hW hMM hT hc0 hrr
  · cases hy with
    | head => exact ⟨rfl, rfl⟩
    | tail _ h => cases h with
      | head => exact ⟨rfl, rfl⟩
      | tail _ h => cases h with
        | head => exact ⟨rfl, rfl⟩
        | tail _ h => cases h with
          | head => exact ⟨rfl, rfl⟩
          | tail _ h => cases h
end
end Mine

-- B1
namespace Mine
open PySem PySem.Spec PySem.Calls PyProof.Rows PySem.W

section
variable {prog : Program} {w : World}
theorem law_at {ns : List Int} {l : Addr} (hn : ns.length ≤ 63) : AtFn w.params 180 fun qual scope _ body => ∀ (fa : Addr) (cdv : Value) (A : Around) (hb : Heap) (L : Addr), Rm A 8 → Gl w hb → Scr hb l ns → ¬ lawM L l → (⟨envOfC qual scope L fa cdv, lawSlots L, hb⟩ : Cx).Ok →
    Xs prog w ⟨envOfC qual scope L fa cdv, lawSlots L, hb⟩ A (Hx ⟨envOfC qual scope L fa cdv, lawSlots L, hb⟩ (lawM L) (lawM L) (some (.val (.ref l)) :: List.replicate 30 none) []) (lawM L) body (RetIs (lawM L) (.bool true)) := by
  refine ⟨_, _, _, _, _, _, _, _, _, _, _, _, _, _, _, rfl, fun fa cdv A hb L R G S hl O => ?_⟩
  have hM : ∀ i, i ≤ 8 → lawM L (L + i) := fun i hi => ⟨Nat.le_add_right _ _, Nat.add_le_add_left hi _⟩
  have hMs : ∀ i, i ≤ 8 → ∀ a, some (L + i) = some a → lawM L a := fun i hi a e => by cases e; exact hM i hi
  have hMs : ∀ i, i ≤ 8 → ∀ a, some (L + i) = some a → lawM L a := fun i hi a e => by cases e; exact hM i hi
  let md (k : Int) (x : Int) : D := .int (x.fmod k)
  have tot : ∀ (k : Int) (ns : List Int), (ns.filter fun _ => true).map (md k) = (ns.map fun (x : Int) => x.fmod k).map D.int := fun k ns => by
    rw [List.filter_eq_self.mpr (fun _ _ => rfl), List.map_map]; rfl
  refine Xs.assign (d := .int ((ns.map fun (x : Int) => x.fmod 180).sum.fmod 180)) O ?_ .i2 ?_
  · refine Ev.bin (Ev.callB (Ev.built G O rfl rfl) (Es.cons (EvF.ev (ds := (ns.map fun (x : Int) => x.fmod 180).map D.int) ?_) Es.nil) (Bf.sum R.hand)) Ev.int (Bin.mod (by decide))
    rw [← tot]
    refine EvF.comp (slots := []) (cl := []) ns D.int (md 180) (fun _ => true) O R.hand (It.script S hl (Ev.name O .i0)) .done (fun C W' hW O' a ha => ⟨Tss.nil, fun _ => Ev.bin (Ev.name O' .i0) Ev.int (Bin.mod (by decide))⟩) rfl (by decide) rfl (by decide) rfl rfl (fun y a hy => nomatch hy) (by decide) (by omega)
  have hT0 : 0 ≤ (ns.map fun (x : Int) => x.fmod 180).sum.fmod 180 := by rw [Int.fmod_eq_emod_of_nonneg _ (by decide)]; exact Int.emod_nonneg _ (by decide)
  have hT1 : (ns.map fun (x : Int) => x.fmod 180).sum.fmod 180 < 180 := by rw [Int.fmod_eq_emod_of_nonneg _ (by decide)]; exact Int.emod_lt_of_pos _ (by decide)
  generalize (ns.map fun (x : Int) => x.fmod 180).sum.fmod 180 = T at hT0 hT1
  refine Xs.assign (d := .int (7 + T.fmod 45)) O (Ev.bin Ev.int (Ev.bin (Ev.name O .i2) Ev.int (Bin.mod (by decide))) Bin.add) .i3 ?_ (hMs 2 (by decide))
  refine Xs.assign (d := .bool ((T.fdiv 45).fmod 2 == 1)) O (Ev.cmp (Ev.bin (Ev.bin (Ev.name O .i2) Ev.int (Bin.div (by decide) hT0 (by omega) (by decide) (by decide))) Ev.int (Bin.mod (by decide))) Ev.int Cmp.eq) .i4 ?_ (hMs 3 (by decide))
  refine Xs.assign (d := .str (more (T.fdiv 90 == 1))) O (Ev.ite (b := T.fdiv 90 == 1) (Ts.cmp (Ev.bin (Ev.name O .i2) Ev.int (Bin.div (by decide) hT0 (by omega) (by decide) (by decide))) Ev.int Cmp.eq) (fun e => by rw [e]; exact Ev.str) (fun e => by rw [e]; exact Ev.str)) .i5 ?_ (hMs 4 (by decide))
  refine Xs.assign (d := .list ((lettersL ns).map natD)) O ?_ .i6 ?_
  · rw [lettersL_map, show (ns.take 6).length = ((ns.take 6).map D.int).length from (List.length_map _).symm]
    refine EvF.ev (EvF.addL (EvF.ev (EvF.comp (slots := []) (cl := []) (ns.take 6) D.int (fun (x : Int) => D.int (x.fmod 6)) (fun _ => true) O R.hand (It.list (EvF.ev (EvF.scriptUpto S (Ev.name O .i0) Ev.int (by omega)))) .done (fun C W' hW O' a ha => ⟨Tss.nil, fun _ => Ev.bin (Ev.name O' .i0) Ev.int (Bin.mod (by decide))⟩) rfl (by decide) rfl (by decide) rfl rfl (fun y a hy => nomatch hy) (by decide) ?_)) (.inl rfl)
      (EvF.ev (EvF.since (ds := ([0, 1, 3, 4, 2, 0] : List Nat).map natD) (k := ((ns.take 6).map D.int).length) (Ev.list (Es.cons Ev.int (Es.cons Ev.int (Es.cons Ev.int (Es.cons Ev.int (Es.cons Ev.int (Es.cons Ev.int Es.nil))))))) (.inl rfl) (Ev.len (Ev.built G O rfl rfl) (EvF.ev (EvF.scriptUpto S (Ev.name O .i0) Ev.int (by omega))) (.inl rfl) ?_) (by decide))) (.inl rfl) ?_)
    · rw [List.length_take]; omega
    · rw [List.length_map, List.length_take]; omega
    · rw [List.length_map, List.length_drop]
      have h1 := List.length_filter_le (fun _ : Int => true) (ns.take 6)
      have h2 : (ns.take 6).length ≤ 6 := by rw [List.length_take]; omega
      have h3 : (([0, 1, 3, 4, 2, 0] : List Nat).map natD).length = 6 := rfl
      omega
  have hls := lettersL_lt ns
  have hll := lettersL_len ns
  generalize lettersL ns = ls at hls hll
  generalize ((T.fdiv 45).fmod 2 == 1) = f
  generalize (T.fdiv 90 == 1) = t
  have hc0 : 7 + T.fmod 45 = (((T.fmod 45).toNat : Nat) : Int) + 7 := by
    have : 0 ≤ T.fmod 45 := by rw [Int.fmod_eq_emod_of_nonneg _ (by decide)]; exact Int.emod_nonneg _ (by decide)
    omega
  have hc1 : (T.fmod 45).toNat < 45 := by
    have : T.fmod 45 < 45 := by rw [Int.fmod_eq_emod_of_nonneg _ (by decide)]; exact Int.emod_lt_of_pos _ (by decide)
    omega
  rw [hc0]
  generalize (T.fmod 45).toNat = c0 at hc1
  refine Xs.assign (d := .list ((List.range 4).map (opD c0))) O (Ev.callFn G (n := 1) (R.le (by omega)) (Ev.glob G O rfl) rfl (Es.cons (Ev.name O .i3) Es.nil) (fn_four hc1)) .i7 ?_ (hMs 5 (by decide))
  refine Xs.assign (d := rowD (beginR f)) O (Ev.ite (b := f) (Ts.val (Ev.name O .i4)) (fun e => by rw [e]; exact Ev.list (Es.cons Ev.int (Es.cons Ev.int (Es.cons Ev.int (Es.cons Ev.int Es.nil))))) (fun e => by rw [e]; exact Ev.list (Es.cons Ev.int (Es.cons Ev.int (Es.cons Ev.int (Es.cons Ev.int Es.nil)))))) .i8 ?_
  have tk : ∀ (b : Bool), (((if b then 14 else 13 : Nat) : Nat) : Int) + 7 = if b then 21 else 20 := by intro b; cases b <;> rfl
  refine Xs.assign (d := .val (.ref (tst f))) O (Ev.pick2 (y := .ref (tst f)) (k := (((if f then 14 else 13 : Nat) : Nat) : Int) + 7) (by decide) (Ev.glob G O rfl) (Ev.glob G O rfl) (Ev.tok G (Ev.glob G O rfl) (Ev.ite (b := f) (Ts.val (Ev.name O .i4)) (fun e => by rw [e]; exact Ev.str) (fun e => by rw [e]; exact Ev.str)) (by cases f <;> decide)) (by cases f <;> simp [tst])) .i9 ?_
  have last := at_of (tail9 (prog := prog) (w := w) (t := t) (f := f) hls hll) ⟨_, _, _, _, _, _, _, _, _, _, _, rfl⟩
  have hb4 := begin_mem f
  have hblt := perm_lt _ hb4
  have fl : ∀ rs : List Nat, (rs.filter fun _ => true).map (opD c0) = rs.map (opD c0) := fun rs => by rw [List.filter_eq_self.mpr (fun _ _ => rfl)]
  refine Xs.assign (d := .list ((runR f (beginR f) ls).map (opD c0))) O (EvF.ev (EvF.changed G (R.le (by decide)) (Ev.glob G O rfl) ?_ (fun W' => Es.cons (Ev.name O .i6) (Es.cons (Ev.name O .i7) (Es.cons (Ev.name O .i9) Es.nil))) hc1 hb4 hls (by omega))) .i10 ?_ (hMs 6 (by decide))
  · rw [← fl (beginR f)]
    refine EvF.comp (slots := [("four", some (L + 5))]) (cl := [("four", L + 5)]) (beginR f) natD (opD c0) (fun _ => true) O R.hand (It.list (Ev.name O .i8)) (.skip (.skip (.skip (.skip (.skip (.skip (.skip (.keep .done)))))))) (fun C W' hW O' a ha => ⟨Tss.nil, fun _ => ?_⟩) rfl (by decide) rfl (by decide) rfl rfl (fun y a hy => by cases hy with | head => exact ⟨rfl, rfl⟩ | tail _ h => cases h) (show Str.ofString "x" ∉ [Str.ofString "four"] from by decide) (by rw [perm_len _ hb4]; decide)
    have ha4 := hblt a ha
    exact Ev.item (k := ((a : Nat) : Int)) (Ev.name O' .i1) (.inl rfl) (Ev.name O' .i0) (by omega) (by rw [Int.toNat_natCast, List.getElem?_map, List.getElem?_range ha4]; rfl)
  exact last fa cdv A hb L l (lawM L) (lawM L) none T c0 (runR f (beginR f) ls) R G O (fun b h => h) (fun b h => h) hT0 hc1 rfl
end
end Mine

-- J0
namespace Mine
open PySem PySem.Spec PySem.Calls PyProof.Rows PySem.W

theorem lawCells {L : Addr} {x : Str} {a : Addr} (h : (x, some a) ∈ lawSlots L) : (x = "x" ∧ a = L + 1) ∨ (x = "c" ∧ a = L + 2) ∨ (x = "falling" ∧ a = L + 3) ∨ (x = "behind" ∧ a = L + 4) ∨ (x = "four" ∧ a = L + 5) ∨ (x = "row" ∧ a = L + 6) ∨ (x = "told" ∧ a = L + 7) ∨ (x = "mask" ∧ a = L + 8) := by
  simpa [lawSlots] using h
theorem lawApart (L : Addr) : (lawSlots L).Pairwise fun p q => ∀ a, p.2 = some a → q.2 ≠ some a := by
  simp [lawSlots]
theorem ok_loc {Γ : Cx} (h : (Γ.slots.all fun p => p.2.isSome || decide (Γ.env.kindOf p.1 = some .local)) = true) : ∀ x, (x, none) ∈ Γ.slots → Γ.env.kindOf x = some .local := fun x hx => by
  have := List.all_eq_true.mp h _ hx
  simpa using this

section
variable {prog : Program} {w : World}
theorem law_ok : AtFn w.params 180 fun qual scope _ _ => ∀ (fa : Addr) (cdv : Value) (L : Addr) (hb : Heap), (Gam qual scope fa cdv L hb).Ok := by
  refine ⟨_, _, _, _, _, _, _, _, _, _, _, _, _, _, _, rfl, fun fa cdv L hb => ?_⟩
  refine ⟨rfl, rfl, rfl, ok_loc (by rfl), fun x a hx => ?_, show ((lawSlots 0).map (·.1)).Nodup by decide, fun p hp => ?_, lawApart L, fun x a hx => ?_⟩
  · rcases lawCells hx with ⟨rfl, rfl⟩ | ⟨rfl, rfl⟩ | ⟨rfl, rfl⟩ | ⟨rfl, rfl⟩ | ⟨rfl, rfl⟩ | ⟨rfl, rfl⟩ | ⟨rfl, rfl⟩ | ⟨rfl, rfl⟩ <;> exact ⟨rfl, rfl⟩
  · have all : ((lawSlots L).all fun p => !(p.1 == ("__debug__" : Str))) = true := by rfl
    have := List.all_eq_true.mp all _ hp
    simpa using this
  · rcases lawCells hx with ⟨rfl, rfl⟩ | ⟨rfl, rfl⟩ | ⟨rfl, rfl⟩ | ⟨rfl, rfl⟩ | ⟨rfl, rfl⟩ | ⟨rfl, rfl⟩ | ⟨rfl, rfl⟩ | ⟨rfl, rfl⟩ <;> exact Nat.ne_of_gt (Nat.lt_add_of_pos_right (by decide))
theorem gl_of {p : Program} {loose : List Str} {mean : ExcName → Option Value} {mg mb : Str → Option Value} {h : Heap} (KX : (Kf w.params).In h) (T : Top p loose mean mg mb h) : Gl w h := by
  refine ⟨KX, T.nolimit, ⟨mg, T.g, fun x v e => ?_⟩, ⟨mb, T.b, T.builtins⟩⟩
  cases v with
  | none => exact mg_none_of KX T.g e
  | some v => exact mg_of KX T.g e

theorem vars_tail {W : Forb} {h : Heap} {m : Str → Option Value} (L : Addr) {l : Addr} (hm : m "script" = some (.ref l)) : Vars W h m (lawSlots L) (some (.val (.ref l)) :: List.replicate 30 none) :=
  ⟨⟨.ref l, hm, .val _⟩, vars_none _ 30⟩

theorem law_run {ns : List Int} {vs : List Value} {l : Addr} {s₁ : Shared} {h₁ : Heap} {tk : Nat} {m : Str → Option Value} {A : Around} (gl : Gl w s₁.heap) (hn : ns.length ≤ 63) (R : Rm A 8) (hL : s₁.heap.IsList l vs.toArray) (hI : IntsAre vs ns) (F : Fr s₁.heap s₁.heap.objs.size h₁ m) (hm : m "script" = some (.ref l))
    (cells : ∀ i : Nat, 1 ≤ i → i ≤ 8 → ∃ v, h₁.IsCell (s₁.heap.objs.size + i) v) {qual : Str} {scope : Scope} {cdv₀ : Value} {body : List Stmt} (hf : IsFn w.params 180 qual scope cdv₀ body) (fa : Addr) (cdv : Value) (Q : Flow → Shared → Prop) (E : Value → Shared → Prop)
    (q : ∀ h' tk', Stays s₁.heap h' → Q (.ret (.bool true)) { s₁ with heap := h', toks := tk' }) :
    wpAny (model prog w) A (execs body (envOfC qual scope s₁.heap.objs.size fa cdv)) Q E { s₁ with heap := h₁, toks := tk } := by
  have lw := at_of (law_at (prog := prog) (w := w) (l := l) hn) hf
  have ok := at_of law_ok hf fa cdv s₁.heap.objs.size s₁.heap
  have hlt : ∀ b o, s₁.heap.get? b = some o → ¬ lawM s₁.heap.objs.size b := fun b o e x => absurd (Heap.lt_size e) (Nat.not_lt.mpr x.1)
  have hl : ¬ lawM s₁.heap.objs.size l := by obtain ⟨o, e, _⟩ := hL; exact hlt _ _ e
  have cell : ∀ b, lawM s₁.heap.objs.size b → b = s₁.heap.objs.size ∨ ∃ v, h₁.IsCell b v := fun b hb => by
    obtain ⟨i, rfl⟩ := Nat.le.dest hb.1
    rcases Nat.eq_zero_or_pos i with rfl | hp
    · exact .inl rfl
    · exact .inr (cells i hp (Nat.le_of_add_le_add_left hb.2))
  refine lw fa cdv A s₁.heap s₁.heap.objs.size R gl ⟨⟨vs, hL, hI⟩⟩ hl ok { s₁ with heap := h₁, toks := tk } Q E ⟨F.keep, fun a ha => ?_, ⟨m, F.ns, vars_tail _ hm⟩, fun x a hx => ?_, fun p hp => (nomatch hp), fun p hp => (nomatch hp), fun p hp => (nomatch hp), fun p hp => (nomatch hp), .nil, ⟨Nat.le_refl _, Nat.le_add_right _ _⟩, fun x a hx => ?_, fun a h => h, fun a ha => ?_⟩ fun f h' tk' kp r => ?_
  · exact Heap.get?_none_of_le ha.1
  · have hm := lawCells hx
    rcases hm with ⟨_, rfl⟩ | ⟨_, rfl⟩ | ⟨_, rfl⟩ | ⟨_, rfl⟩ | ⟨_, rfl⟩ | ⟨_, rfl⟩ | ⟨_, rfl⟩ | ⟨_, rfl⟩ <;> exact cells _ (by decide) (by decide)
  · have hm := lawCells hx
    rcases hm with ⟨_, rfl⟩ | ⟨_, rfl⟩ | ⟨_, rfl⟩ | ⟨_, rfl⟩ | ⟨_, rfl⟩ | ⟨_, rfl⟩ | ⟨_, rfl⟩ | ⟨_, rfl⟩ <;> exact ⟨Nat.le_add_right _ _, Nat.add_le_add_left (by decide) _⟩
  · rcases cell a ha with rfl | ⟨v, o, e, _⟩
    · obtain ⟨o, _, _, e, _⟩ := F.ns
      exact ⟨o, e⟩
    · exact ⟨o, e⟩
  · have st : Stays s₁.heap h' := fun b o e => kp b o (F.keep b o e) (hlt b o e)
    cases f with
    | ret v =>
      have r : Rd _ h' (.bool true) v := r
      cases r
      exact q h' tk' st
    | next => cases r
    | brk => exact r.elim
    | cont => exact r.elim
end
end Mine

-- J2
namespace Mine
open PySem PySem.Spec PySem.Calls PyProof.Rows PySem.W
theorem post_ok (ns : List Int) : PySem.Challenge.rw_tl0035_01.row.claim.post [ofPy (PyData.list (List.map PyData.int ns))] (.bool true) [ofPy (PyData.list (List.map PyData.int ns))] = true := by
  wrow_post
theorem raised_ok (ns : List Int) (cls : ExcName) : PySem.Challenge.rw_tl0035_01.row.claim.raises [ofPy (PyData.list (List.map PyData.int ns))] cls = false := by
  revert cls
  refine raisesW_false ?_
  wrow_none_raised
end Mine

-- J1
namespace Mine
open PySem PySem.Spec PySem.Calls PyProof.Rows PySem.W
theorem caller_rm : Rm callerA 9 := by
  refine ⟨rfl, ?_, ?_⟩
  · decide
  · decide
theorem h_row : OpenRow.wellSaid (OpenLaw.row PySem.Challenge.rw_tl0035_01) = true := by kernel_rfl
theorem h_law : OpenLaw.wellSaid PySem.Challenge.rw_tl0035_01 = true := by
  unfold OpenLaw.wellSaid
  rw [h_row]
  kernel_rfl
theorem jrow : PySem.Challenge.rw_tl0035_01.Holds := by
  w_on
  refine holds_law h_law fun said => ?_
  refine holds_open (r := Rr) (q := Qv) (loose := Lo) (Xt := Xt) (XP := XL Qv []) (Yf := Hk.obs) (Ya := Hk.val) (YP := Hk.says) (N := 4866) left_ok Hk.of Hk.keeps (fun s e => xl_of s (Bool.and_eq_true_iff.mp e).1) XL.keeps (by rfl) (by rfl) (by rfl) (fun s e => recFacts_of (Bool.and_eq_true_iff.mp e).2) (by rfl) h_row (by decide +kernel) ⟨rfl, rfl, rfl, rfl, rfl, by decide +kernel⟩ ?hw ?hc
  case hw => w_witness2
  case hc =>
    k_go0
    rename_i w s₀ s₁ mg mb G Y fa o pm doc ho hg KX X V GL T B TE TW a17 o16 M a15 a14 hcd ns hs hlay0 hL1 hr1 hl2 a12 a11 l vs a8 hL ra w1 r0 hI hr hc1 hc2 K0 hD h₁ tk₁ F o8 o7 o6 o5 o4 o3 o2 o1 l8 l7 l6 l5 l4 l3 l2 l1 N0 X0
    have cells : ∀ i : Nat, 1 ≤ i → i ≤ 8 → ∃ v, h₁.IsCell (s₁.heap.objs.size + i) v := fun i h1 h2 => match i, h1, h2 with
      | 1, _, _ => ⟨_, o1, (N0 _ (.tail _ (.tail _ (.tail _ (.tail _ (.tail _ (.tail _ (.tail _ (.head _))))))))).1, l1⟩
      | 2, _, _ => ⟨_, o2, (N0 _ (.tail _ (.tail _ (.tail _ (.tail _ (.tail _ (.tail _ (.head _)))))))).1, l2⟩
      | 3, _, _ => ⟨_, o3, (N0 _ (.tail _ (.tail _ (.tail _ (.tail _ (.tail _ (.head _))))))).1, l3⟩
      | 4, _, _ => ⟨_, o4, (N0 _ (.tail _ (.tail _ (.tail _ (.tail _ (.head _)))))).1, l4⟩
      | 5, _, _ => ⟨_, o5, (N0 _ (.tail _ (.tail _ (.tail _ (.head _))))).1, l5⟩
      | 6, _, _ => ⟨_, o6, (N0 _ (.tail _ (.tail _ (.head _)))).1, l6⟩
      | 7, _, _ => ⟨_, o7, (N0 _ (.tail _ (.head _))).1, l7⟩
      | 8, _, _ => ⟨_, o8, (N0 _ (.head _)).1, l8⟩
      | n + 9, _, h => absurd h (by omega)
    have hn : ns.length ≤ 63 := by omega
    exact law_run (gl_of KX T) hn (Rm.deeper caller_rm) hL hI F rfl cells ⟨_, _, _, _, _, _, _, _, _, _, _, rfl⟩ fa (.ref a15) _ _ (fun h' tk' st => ⟨.inl ⟨_, .bool true, [], rfl, raised_ok ns, .bool true, post_ok ns, unshared_nil⟩, st, rfl, hg⟩)
end Mine

theorem PySem.Challenge.cw_tl0035_01_holds : PySem.Challenge.rw_tl0035_01.Holds :=
  Mine.jrow
