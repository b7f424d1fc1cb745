import PyProof.Rows.All
import Wide.All
import OpenK.AllK
import Wide.FinOn
import Lean
import PySem.Challenge.RW_ji0057_01
open PySem PySem.W PyProof.Rows PyProof.V PySem.Spec PySem.Calls
set_option Elab.async false
set_option maxRecDepth 100000
set_option compiler.extract_closed false
namespace Mine
set_option linter.unusedVariables false
section
set_option maxHeartbeats 8000000
noncomputable abbrev hdP : Program := PySem.Challenge.rw_ji0057_01.row.toRowW.prog
noncomputable abbrev hdKids : Stmt → List Stmt
  | .ClassDef _ _ _ b .. => b
  | .FunctionDef _ _ b .. => b
  | _ => []
noncomputable abbrev hdDef : Option Stmt → Arguments × FuncBody × Scope
  | some (.FunctionDef _ a b _ _ _ sc ..) => (a, .stmts b, sc)
  | _ => default
noncomputable abbrev hdT (i : Nat) : Arguments × FuncBody × Scope := hdDef hdP.main.body[i]?
noncomputable abbrev hdM (i j : Nat) : Arguments × FuncBody × Scope := hdDef (hdP.main.body[i]?.bind fun s => (hdKids s)[j]?)
noncomputable abbrev hdDoc : FuncBody → Option Str
  | .stmts b => docOf b
  | _ => none
noncomputable abbrev hdCDoc (i : Nat) : Option Str := docOf (hdKids (hdP.main.body[i]?.getD (.Pass default)))
noncomputable abbrev btN := BT.node
noncomputable abbrev btO := BT.nil
noncomputable abbrev hb11 (P : Params) : Obj := { cls := Value.type "tuple", data := Data.seq #[] }
noncomputable abbrev hb12 (P : Params) : Obj := { cls := Value.none, data := Data.fields #[] }
noncomputable abbrev hb13 (P : Params) : Obj := { cls := Value.type "code", data := Data.fields #[Value.str (Str.ofString "<module>") 182, Value.str (Str.ofString "<module>") 183, Value.str (Str.ofString "/claim/cut.py") 184, Value.int 1 0, Value.int 0 0, Value.int 0 0, Value.int 0 0, Value.int 0 0, Value.ref 11, Value.bool false, Value.int 181 0, Value.ref 12, Value.none, Value.none, Value.none, Value.none, Value.int 185 0, Value.int 1 0, Value.str (Str.ofString "/claim/cut.py") 186] }
noncomputable abbrev hb14 (P : Params) : Obj := { cls := Value.type "frame", slots := #[some (Value.ref 13), some (Value.ref 3), some (Value.ref 3), none, some (Value.str (Str.ofString "__main__") 164), none, some (Value.ref 0)] }
noncomputable abbrev hb3 (P : Params) : Obj := { cls := Value.type "dict", data := Data.dict #[{ hash := PyData.keyHash P (Str.ofString "__name__"), key := Value.str (Str.ofString "__name__") 165, val := Value.str (Str.ofString "limits.limits") 494 }, { hash := PyData.keyHash P (Str.ofString "__doc__"), key := Value.str (Str.ofString "__doc__") 166, val := Value.none }, { hash := PyData.keyHash P (Str.ofString "__package__"), key := Value.str (Str.ofString "__package__") 167, val := Value.none }, { hash := PyData.keyHash P (Str.ofString "__loader__"), key := Value.str (Str.ofString "__loader__") 168, val := Value.builtin "__main__.__loader__#opaque" }, { hash := PyData.keyHash P (Str.ofString "__spec__"), key := Value.str (Str.ofString "__spec__") 169, val := Value.none }, { hash := PyData.keyHash P (Str.ofString "__annotations__"), key := Value.str (Str.ofString "__annotations__") 170, val := Value.ref 6 }, { hash := PyData.keyHash P (Str.ofString "__builtins__"), key := Value.str (Str.ofString "__builtins__") 171, val := Value.ref 4 }, { hash := PyData.keyHash P (Str.ofString "__file__"), key := Value.str (Str.ofString "__file__") 173, val := Value.str (Str.ofString "/claim/cut.py") 172 }, { hash := PyData.keyHash P (Str.ofString "__cached__"), key := Value.str (Str.ofString "__cached__") 174, val := Value.none }, { hash := PyData.keyHash P (Str.ofString "_wall"), key := Value.str (Str.ofString "_wall") 193, val := Value.ref 21 }, { hash := PyData.keyHash P (Str.ofString "_tuplegetter"), key := Value.str (Str.ofString "_tuplegetter") 252, val := Value.ref 60 }, { hash := PyData.keyHash P (Str.ofString "tuplegetter_util"), key := Value.str (Str.ofString "tuplegetter_util") 253, val := Value.ref 60 }, { hash := PyData.keyHash P (Str.ofString "WindowStats"), key := Value.str (Str.ofString "WindowStats") 368, val := Value.ref 132 }, { hash := PyData.keyHash P (Str.ofString "RateLimiter"), key := Value.str (Str.ofString "RateLimiter") 408, val := Value.ref 161 }, { hash := PyData.keyHash P (Str.ofString "SlidingWindowCounterRateLimiter"), key := Value.str (Str.ofString "SlidingWindowCounterRateLimiter") 493, val := Value.ref 218 }] 15 }
noncomputable abbrev hb12x1 (P : Params) : Obj := { cls := Value.none, data := Data.fields #[Value.int 1 0, Value.int 0 0, Value.ref 20, Value.int 5 0, Value.int 0 0, Value.ref 27, Value.int 24 0, Value.int 0 0, Value.ref 71, Value.int 67 0, Value.int 0 0, Value.ref 141, Value.int 74 0, Value.int 0 0, Value.ref 171] }
noncomputable abbrev hb15 (P : Params) : Obj := { cls := Value.type "tuple", data := Data.seq #[] }
noncomputable abbrev hb16 (P : Params) : Obj := { cls := Value.none, data := Data.fields #[] }
noncomputable abbrev hb17 (P : Params) : Obj := { cls := Value.type "tuple", data := Data.seq #[Value.str (Str.ofString "k") 190] }
noncomputable abbrev hb18 (P : Params) : Obj := { cls := Value.type "tuple", data := Data.seq #[] }
noncomputable abbrev hb19 (P : Params) : Obj := { cls := Value.none, data := Data.func { name := Str.ofString "_wall", qualname := Str.ofString "_wall", params := (hdT 0).fst, body := (hdT 0).snd.fst, scope := (hdT 0).snd.snd, globals := 0, closure := [], defaults := Value.none, kwdefaults := Value.none } }
noncomputable abbrev hb20 (P : Params) : Obj := { cls := Value.type "code", data := Data.fields #[Value.str (Str.ofString "_wall") 187, Value.str (Str.ofString "_wall") 188, Value.str (Str.ofString "/claim/cut.py") 189, Value.int 1 0, Value.int 1 0, Value.int 0 0, Value.int 0 0, Value.int 3 0, Value.ref 15, Value.bool true, Value.int 181 0, Value.ref 16, Value.none, Value.ref 17, Value.ref 18, Value.ref 19, Value.int 191 0, Value.int 1 0, Value.str (Str.ofString "/claim/cut.py") 192] }
noncomputable abbrev hb21 (P : Params) : Obj := { cls := Value.type "function", data := Data.func { name := Str.ofString "_wall", qualname := Str.ofString "_wall", params := (hdT 0).fst, body := (hdT 0).snd.fst, scope := (hdT 0).snd.snd, globals := 3, closure := [], defaults := Value.none, kwdefaults := Value.none, pyModule := Value.str (Str.ofString "__main__") 164, code := Value.ref 20 } }
noncomputable abbrev hb22 (P : Params) : Obj := { cls := Value.type "tuple", data := Data.seq #[] }
noncomputable abbrev hb23 (P : Params) : Obj := { cls := Value.type "builtin_function_or_method", data := Data.fields #[Value.builtin "type.__prepare__", Value.type "type"] }
noncomputable abbrev hb24 (P : Params) : Obj := { cls := Value.type "dict", data := Data.dict #[{ hash := PyData.keyHash P (Str.ofString "__module__"), key := Value.str (Str.ofString "__module__") 203, val := Value.str (Str.ofString "limits.util") 194 }, { hash := PyData.keyHash P (Str.ofString "__qualname__"), key := Value.str (Str.ofString "__qualname__") 205, val := Value.str (Str.ofString "_tuplegetter") 204 }, { hash := PyData.keyHash P (Str.ofString "__firstlineno__"), key := Value.str (Str.ofString "__firstlineno__") 207, val := Value.int 5 206 }, { hash := PyData.keyHash P (Str.ofString "__init__"), key := Value.str (Str.ofString "__init__") 216, val := Value.ref 35 }, { hash := PyData.keyHash P (Str.ofString "__get__"), key := Value.str (Str.ofString "__get__") 225, val := Value.ref 43 }, { hash := PyData.keyHash P (Str.ofString "__set__"), key := Value.str (Str.ofString "__set__") 234, val := Value.ref 50 }, { hash := PyData.keyHash P (Str.ofString "__delete__"), key := Value.str (Str.ofString "__delete__") 242, val := Value.ref 57 }, { hash := PyData.keyHash P (Str.ofString "__static_attributes__"), key := Value.str (Str.ofString "__static_attributes__") 245, val := Value.ref 58 }] 8 }
noncomputable abbrev hb25 (P : Params) : Obj := { cls := Value.type "tuple", data := Data.seq #[] }
noncomputable abbrev hb26 (P : Params) : Obj := { cls := Value.none, data := Data.fields #[Value.int 7 0, Value.int 4 0, Value.ref 34, Value.int 11 0, Value.int 4 0, Value.ref 42, Value.int 18 0, Value.int 4 0, Value.ref 49, Value.int 21 0, Value.int 4 0, Value.ref 56] }
noncomputable abbrev hb27 (P : Params) : Obj := { cls := Value.type "code", data := Data.fields #[Value.str (Str.ofString "_tuplegetter") 198, Value.str (Str.ofString "_tuplegetter") 199, Value.str (Str.ofString "/claim/cut.py") 200, Value.int 5 0, Value.int 0 0, Value.int 0 0, Value.int 0 0, Value.int 0 0, Value.ref 25, Value.bool false, Value.int 181 0, Value.ref 26, Value.none, Value.none, Value.none, Value.none, Value.int 201 0, Value.int 5 0, Value.str (Str.ofString "/claim/cut.py") 202] }
noncomputable abbrev hb28 (P : Params) : Obj := { cls := Value.type "frame", slots := #[some (Value.ref 27), some (Value.ref 3), some (Value.ref 24), none, some (Value.str (Str.ofString "limits.util") 194), none, some (Value.ref 0)] }
noncomputable abbrev hb29 (P : Params) : Obj := { cls := Value.type "tuple", data := Data.seq #[] }
noncomputable abbrev hb30 (P : Params) : Obj := { cls := Value.none, data := Data.fields #[] }
noncomputable abbrev hb31 (P : Params) : Obj := { cls := Value.type "tuple", data := Data.seq #[Value.str (Str.ofString "self") 211, Value.str (Str.ofString "index") 212, Value.str (Str.ofString "doc") 213] }
noncomputable abbrev hb32 (P : Params) : Obj := { cls := Value.type "tuple", data := Data.seq #[] }
noncomputable abbrev hb33 (P : Params) : Obj := { cls := Value.none, data := Data.func { name := Str.ofString "__init__", qualname := Str.ofString "_tuplegetter.__init__", params := (hdM 2 0).fst, body := (hdM 2 0).snd.fst, scope := (hdM 2 0).snd.snd, globals := 0, closure := [], defaults := Value.none, kwdefaults := Value.none } }
noncomputable abbrev hb34 (P : Params) : Obj := { cls := Value.type "code", data := Data.fields #[Value.str (Str.ofString "__init__") 208, Value.str (Str.ofString "_tuplegetter.__init__") 209, Value.str (Str.ofString "/claim/cut.py") 210, Value.int 7 0, Value.int 3 0, Value.int 0 0, Value.int 0 0, Value.int 3 0, Value.ref 29, Value.bool true, Value.int 181 0, Value.ref 30, Value.none, Value.ref 31, Value.ref 32, Value.ref 33, Value.int 214 0, Value.int 7 0, Value.str (Str.ofString "/claim/cut.py") 215] }
noncomputable abbrev hb35 (P : Params) : Obj := { cls := Value.type "function", data := Data.func { name := Str.ofString "__init__", qualname := Str.ofString "_tuplegetter.__init__", params := (hdM 2 0).fst, body := (hdM 2 0).snd.fst, scope := (hdM 2 0).snd.snd, globals := 3, closure := [], defaults := Value.none, kwdefaults := Value.none, pyModule := Value.str (Str.ofString "limits.util") 194, code := Value.ref 34 } }
noncomputable abbrev hb36 (P : Params) : Obj := { cls := Value.type "tuple", data := Data.seq #[Value.none] }
noncomputable abbrev hb37 (P : Params) : Obj := { cls := Value.type "tuple", data := Data.seq #[] }
noncomputable abbrev hb38 (P : Params) : Obj := { cls := Value.none, data := Data.fields #[] }
noncomputable abbrev hb39 (P : Params) : Obj := { cls := Value.type "tuple", data := Data.seq #[Value.str (Str.ofString "self") 220, Value.str (Str.ofString "obj") 221, Value.str (Str.ofString "objtype") 222] }
noncomputable abbrev hb40 (P : Params) : Obj := { cls := Value.type "tuple", data := Data.seq #[] }
noncomputable abbrev hb41 (P : Params) : Obj := { cls := Value.none, data := Data.func { name := Str.ofString "__get__", qualname := Str.ofString "_tuplegetter.__get__", params := (hdM 2 1).fst, body := (hdM 2 1).snd.fst, scope := (hdM 2 1).snd.snd, globals := 0, closure := [], defaults := Value.none, kwdefaults := Value.none } }
noncomputable abbrev hb42 (P : Params) : Obj := { cls := Value.type "code", data := Data.fields #[Value.str (Str.ofString "__get__") 217, Value.str (Str.ofString "_tuplegetter.__get__") 218, Value.str (Str.ofString "/claim/cut.py") 219, Value.int 11 0, Value.int 3 0, Value.int 0 0, Value.int 0 0, Value.int 3 0, Value.ref 37, Value.bool true, Value.int 181 0, Value.ref 38, Value.none, Value.ref 39, Value.ref 40, Value.ref 41, Value.int 223 0, Value.int 11 0, Value.str (Str.ofString "/claim/cut.py") 224] }
noncomputable abbrev hb43 (P : Params) : Obj := { cls := Value.type "function", data := Data.func { name := Str.ofString "__get__", qualname := Str.ofString "_tuplegetter.__get__", params := (hdM 2 1).fst, body := (hdM 2 1).snd.fst, scope := (hdM 2 1).snd.snd, globals := 3, closure := [], defaults := Value.ref 36, kwdefaults := Value.none, pyModule := Value.str (Str.ofString "limits.util") 194, code := Value.ref 42 } }
noncomputable abbrev hb44 (P : Params) : Obj := { cls := Value.type "tuple", data := Data.seq #[] }
noncomputable abbrev hb45 (P : Params) : Obj := { cls := Value.none, data := Data.fields #[] }
noncomputable abbrev hb46 (P : Params) : Obj := { cls := Value.type "tuple", data := Data.seq #[Value.str (Str.ofString "self") 229, Value.str (Str.ofString "obj") 230, Value.str (Str.ofString "value") 231] }
noncomputable abbrev hb47 (P : Params) : Obj := { cls := Value.type "tuple", data := Data.seq #[] }
noncomputable abbrev hb48 (P : Params) : Obj := { cls := Value.none, data := Data.func { name := Str.ofString "__set__", qualname := Str.ofString "_tuplegetter.__set__", params := (hdM 2 2).fst, body := (hdM 2 2).snd.fst, scope := (hdM 2 2).snd.snd, globals := 0, closure := [], defaults := Value.none, kwdefaults := Value.none } }
noncomputable abbrev hb49 (P : Params) : Obj := { cls := Value.type "code", data := Data.fields #[Value.str (Str.ofString "__set__") 226, Value.str (Str.ofString "_tuplegetter.__set__") 227, Value.str (Str.ofString "/claim/cut.py") 228, Value.int 18 0, Value.int 3 0, Value.int 0 0, Value.int 0 0, Value.int 3 0, Value.ref 44, Value.bool true, Value.int 181 0, Value.ref 45, Value.none, Value.ref 46, Value.ref 47, Value.ref 48, Value.int 232 0, Value.int 18 0, Value.str (Str.ofString "/claim/cut.py") 233] }
noncomputable abbrev hb50 (P : Params) : Obj := { cls := Value.type "function", data := Data.func { name := Str.ofString "__set__", qualname := Str.ofString "_tuplegetter.__set__", params := (hdM 2 2).fst, body := (hdM 2 2).snd.fst, scope := (hdM 2 2).snd.snd, globals := 3, closure := [], defaults := Value.none, kwdefaults := Value.none, pyModule := Value.str (Str.ofString "limits.util") 194, code := Value.ref 49 } }
noncomputable abbrev hb51 (P : Params) : Obj := { cls := Value.type "tuple", data := Data.seq #[] }
noncomputable abbrev hb52 (P : Params) : Obj := { cls := Value.none, data := Data.fields #[] }
noncomputable abbrev hb53 (P : Params) : Obj := { cls := Value.type "tuple", data := Data.seq #[Value.str (Str.ofString "self") 238, Value.str (Str.ofString "obj") 239] }
noncomputable abbrev hb54 (P : Params) : Obj := { cls := Value.type "tuple", data := Data.seq #[] }
noncomputable abbrev hb55 (P : Params) : Obj := { cls := Value.none, data := Data.func { name := Str.ofString "__delete__", qualname := Str.ofString "_tuplegetter.__delete__", params := (hdM 2 3).fst, body := (hdM 2 3).snd.fst, scope := (hdM 2 3).snd.snd, globals := 0, closure := [], defaults := Value.none, kwdefaults := Value.none } }
noncomputable abbrev hb56 (P : Params) : Obj := { cls := Value.type "code", data := Data.fields #[Value.str (Str.ofString "__delete__") 235, Value.str (Str.ofString "_tuplegetter.__delete__") 236, Value.str (Str.ofString "/claim/cut.py") 237, Value.int 21 0, Value.int 2 0, Value.int 0 0, Value.int 0 0, Value.int 3 0, Value.ref 51, Value.bool true, Value.int 181 0, Value.ref 52, Value.none, Value.ref 53, Value.ref 54, Value.ref 55, Value.int 240 0, Value.int 21 0, Value.str (Str.ofString "/claim/cut.py") 241] }
noncomputable abbrev hb57 (P : Params) : Obj := { cls := Value.type "function", data := Data.func { name := Str.ofString "__delete__", qualname := Str.ofString "_tuplegetter.__delete__", params := (hdM 2 3).fst, body := (hdM 2 3).snd.fst, scope := (hdM 2 3).snd.snd, globals := 3, closure := [], defaults := Value.none, kwdefaults := Value.none, pyModule := Value.str (Str.ofString "limits.util") 194, code := Value.ref 56 } }
noncomputable abbrev hb58 (P : Params) : Obj := { cls := Value.type "tuple", data := Data.seq #[Value.str (Str.ofString "__doc__") 243, Value.str (Str.ofString "index") 244] }
noncomputable abbrev hb59 (P : Params) : Obj := { cls := Value.type "dict", data := Data.dict #[{ hash := PyData.keyHash P (Str.ofString "__module__"), key := Value.str (Str.ofString "__module__") 203, val := Value.str (Str.ofString "limits.util") 194 }, { hash := PyData.keyHash P (Str.ofString "__firstlineno__"), key := Value.str (Str.ofString "__firstlineno__") 207, val := Value.int 5 206 }, { hash := PyData.keyHash P (Str.ofString "__init__"), key := Value.str (Str.ofString "__init__") 216, val := Value.ref 35 }, { hash := PyData.keyHash P (Str.ofString "__get__"), key := Value.str (Str.ofString "__get__") 225, val := Value.ref 43 }, { hash := PyData.keyHash P (Str.ofString "__set__"), key := Value.str (Str.ofString "__set__") 234, val := Value.ref 50 }, { hash := PyData.keyHash P (Str.ofString "__delete__"), key := Value.str (Str.ofString "__delete__") 242, val := Value.ref 57 }, { hash := PyData.keyHash P (Str.ofString "__static_attributes__"), key := Value.str (Str.ofString "__static_attributes__") 245, val := Value.ref 58 }, { hash := PyData.keyHash P (Str.ofString "__dict__"), key := Value.str (Str.ofString "__dict__") 247, val := Value.ref 61 }, { hash := PyData.keyHash P (Str.ofString "__weakref__"), key := Value.str (Str.ofString "__weakref__") 249, val := Value.ref 62 }, { hash := PyData.keyHash P (Str.ofString "__doc__"), key := Value.str (Str.ofString "__doc__") 250, val := Value.none }] 4 }
noncomputable abbrev hb60 (P : Params) : Obj := { cls := Value.type "type", data := Data.cls { name := Str.ofString "_tuplegetter", bases := [Value.type "object"], mro := [Value.ref 60, Value.type "object"], ns := 59, qualname := Str.ofString "_tuplegetter" }, slots := #[none, none, some (Value.str (Str.ofString "_tuplegetter") 196), some (Value.str (Str.ofString "_tuplegetter") 204), some (Value.builtin "object.__new__"), some (Value.bool true)] }
noncomputable abbrev hb61 (P : Params) : Obj := { cls := Value.type "getset_descriptor", data := Data.fields #[Value.str (Str.ofString "__dict__") 246, Value.ref 60, Value.builtin "function.__dict__", Value.builtin "function.__dict__#set"] }
noncomputable abbrev hb62 (P : Params) : Obj := { cls := Value.type "getset_descriptor", data := Data.fields #[Value.str (Str.ofString "__weakref__") 248, Value.ref 60, Value.builtin "ExceptionGroup.__weakref__", Value.none] }
noncomputable abbrev hb63 (P : Params) : Obj := { cls := Value.type "super", data := Data.fields #[Value.ref 60, Value.ref 60, Value.ref 60] }
noncomputable abbrev hb64 (P : Params) : Obj := { cls := Value.type "builtin_function_or_method", data := Data.fields #[Value.builtin "object.__init_subclass__", Value.ref 60] }
noncomputable abbrev hb65 (P : Params) : Obj := { cls := Value.type "tuple", data := Data.seq #[Value.type "tuple"] }
noncomputable abbrev hb66 (P : Params) : Obj := { cls := Value.type "builtin_function_or_method", data := Data.fields #[Value.builtin "type.__prepare__", Value.type "type"] }
noncomputable abbrev hb67 (P : Params) : Obj := { cls := Value.type "dict", data := Data.dict #[{ hash := PyData.keyHash P (Str.ofString "__module__"), key := Value.str (Str.ofString "__module__") 261, val := Value.str (Str.ofString "limits.util") 194 }, { hash := PyData.keyHash P (Str.ofString "__qualname__"), key := Value.str (Str.ofString "__qualname__") 263, val := Value.str (Str.ofString "WindowStats") 262 }, { hash := PyData.keyHash P (Str.ofString "__firstlineno__"), key := Value.str (Str.ofString "__firstlineno__") 265, val := Value.int 24 264 }, { hash := PyData.keyHash P (Str.ofString "__doc__"), key := Value.str (Str.ofString "__doc__") 267, val := Value.str ((hdCDoc 4).getD default) 266 }, { hash := PyData.keyHash P (Str.ofString "__slots__"), key := Value.str (Str.ofString "__slots__") 269, val := Value.ref 73 }, { hash := PyData.keyHash P (Str.ofString "_fields"), key := Value.str (Str.ofString "_fields") 272, val := Value.ref 74 }, { hash := PyData.keyHash P (Str.ofString "_field_defaults"), key := Value.str (Str.ofString "_field_defaults") 273, val := Value.ref 75 }, { hash := PyData.keyHash P (Str.ofString "__new__"), key := Value.str (Str.ofString "__new__") 283, val := Value.ref 82 }, { hash := PyData.keyHash P (Str.ofString "_make"), key := Value.str (Str.ofString "_make") 305, val := Value.ref 91 }, { hash := PyData.keyHash P (Str.ofString "_replace"), key := Value.str (Str.ofString "_replace") 316, val := Value.ref 100 }, { hash := PyData.keyHash P (Str.ofString "__replace__"), key := Value.str (Str.ofString "__replace__") 317, val := Value.ref 100 }, { hash := PyData.keyHash P (Str.ofString "__repr__"), key := Value.str (Str.ofString "__repr__") 325, val := Value.ref 107 }, { hash := PyData.keyHash P (Str.ofString "_asdict"), key := Value.str (Str.ofString "_asdict") 332, val := Value.ref 114 }, { hash := PyData.keyHash P (Str.ofString "__getnewargs__"), key := Value.str (Str.ofString "__getnewargs__") 340, val := Value.ref 121 }, { hash := PyData.keyHash P (Str.ofString "__match_args__"), key := Value.str (Str.ofString "__match_args__") 343, val := Value.ref 122 }, { hash := PyData.keyHash P (Str.ofString "reset_time"), key := Value.str (Str.ofString "reset_time") 353, val := Value.ref 124 }, { hash := PyData.keyHash P (Str.ofString "remaining"), key := Value.str (Str.ofString "remaining") 363, val := Value.ref 127 }, { hash := PyData.keyHash P (Str.ofString "__static_attributes__"), key := Value.str (Str.ofString "__static_attributes__") 364, val := Value.ref 129 }, { hash := PyData.keyHash P (Str.ofString "__classcell__"), key := Value.str (Str.ofString "__classcell__") 365, val := Value.ref 68 }] 19 }
noncomputable abbrev hb68 (P : Params) : Obj := { cls := Value.type "cell", data := Data.cell (some (Value.ref 132)) }
noncomputable abbrev hb69 (P : Params) : Obj := { cls := Value.type "tuple", data := Data.seq #[] }
noncomputable abbrev hb70 (P : Params) : Obj := { cls := Value.none, data := Data.fields #[Value.int 30 0, Value.int 4 0, Value.ref 81, Value.int 35 0, Value.int 4 0, Value.ref 88, Value.int 42 0, Value.int 4 0, Value.ref 99, Value.int 53 0, Value.int 4 0, Value.ref 106, Value.int 57 0, Value.int 4 0, Value.ref 113, Value.int 60 0, Value.int 4 0, Value.ref 120] }
noncomputable abbrev hb71 (P : Params) : Obj := { cls := Value.type "code", data := Data.fields #[Value.str (Str.ofString "WindowStats") 256, Value.str (Str.ofString "WindowStats") 257, Value.str (Str.ofString "/claim/cut.py") 258, Value.int 24 0, Value.int 0 0, Value.int 0 0, Value.int 0 0, Value.int 0 0, Value.ref 69, Value.bool false, Value.int 181 0, Value.ref 70, Value.none, Value.none, Value.none, Value.none, Value.int 259 0, Value.int 24 0, Value.str (Str.ofString "/claim/cut.py") 260] }
noncomputable abbrev hb72 (P : Params) : Obj := { cls := Value.type "frame", slots := #[some (Value.ref 71), some (Value.ref 3), some (Value.ref 67), none, some (Value.str (Str.ofString "limits.util") 194), none, some (Value.ref 0)] }
noncomputable abbrev hb73 (P : Params) : Obj := { cls := Value.type "tuple", data := Data.seq #[] }
noncomputable abbrev hb74 (P : Params) : Obj := { cls := Value.type "tuple", data := Data.seq #[Value.str (Str.ofString "reset_time") 270, Value.str (Str.ofString "remaining") 271] }
noncomputable abbrev hb75 (P : Params) : Obj := { cls := Value.type "dict", data := Data.dict #[] }
noncomputable abbrev hb76 (P : Params) : Obj := { cls := Value.type "tuple", data := Data.seq #[] }
noncomputable abbrev hb77 (P : Params) : Obj := { cls := Value.none, data := Data.fields #[] }
noncomputable abbrev hb78 (P : Params) : Obj := { cls := Value.type "tuple", data := Data.seq #[Value.str (Str.ofString "_cls") 277, Value.str (Str.ofString "reset_time") 278, Value.str (Str.ofString "remaining") 279] }
noncomputable abbrev hb79 (P : Params) : Obj := { cls := Value.type "tuple", data := Data.seq #[] }
noncomputable abbrev hb80 (P : Params) : Obj := { cls := Value.none, data := Data.func { name := Str.ofString "__new__", qualname := Str.ofString "WindowStats.__new__", params := (hdM 4 4).fst, body := (hdM 4 4).snd.fst, scope := (hdM 4 4).snd.snd, globals := 0, closure := [], defaults := Value.none, kwdefaults := Value.none } }
noncomputable abbrev hb81 (P : Params) : Obj := { cls := Value.type "code", data := Data.fields #[Value.str (Str.ofString "__new__") 274, Value.str (Str.ofString "WindowStats.__new__") 275, Value.str (Str.ofString "/claim/cut.py") 276, Value.int 30 0, Value.int 3 0, Value.int 0 0, Value.int 0 0, Value.int 3 0, Value.ref 76, Value.bool true, Value.int 181 0, Value.ref 77, Value.none, Value.ref 78, Value.ref 79, Value.ref 80, Value.int 280 0, Value.int 30 0, Value.str (Str.ofString "/claim/cut.py") 281] }
noncomputable abbrev hb82 (P : Params) : Obj := { cls := Value.type "function", data := Data.func { name := Str.ofString "__new__", qualname := Str.ofString "WindowStats.__new__", params := (hdM 4 4).fst, body := (hdM 4 4).snd.fst, scope := (hdM 4 4).snd.snd, globals := 3, closure := [], defaults := Value.none, kwdefaults := Value.none, doc := Value.str ((hdDoc (hdM 4 4).snd.fst).getD default) 282, pyModule := Value.str (Str.ofString "limits.util") 194, code := Value.ref 81 } }
noncomputable abbrev hb83 (P : Params) : Obj := { cls := Value.type "tuple", data := Data.seq #[] }
noncomputable abbrev hb84 (P : Params) : Obj := { cls := Value.none, data := Data.fields #[] }
noncomputable abbrev hb85 (P : Params) : Obj := { cls := Value.type "tuple", data := Data.seq #[Value.str (Str.ofString "cls") 287, Value.str (Str.ofString "iterable") 288, Value.str (Str.ofString "result") 289] }
noncomputable abbrev hb86 (P : Params) : Obj := { cls := Value.type "tuple", data := Data.seq #[] }
noncomputable abbrev hb87 (P : Params) : Obj := { cls := Value.none, data := Data.func { name := Str.ofString "_make", qualname := Str.ofString "WindowStats._make", params := (hdM 4 5).fst, body := (hdM 4 5).snd.fst, scope := (hdM 4 5).snd.snd, globals := 0, closure := [], defaults := Value.none, kwdefaults := Value.none } }
noncomputable abbrev hb88 (P : Params) : Obj := { cls := Value.type "code", data := Data.fields #[Value.str (Str.ofString "_make") 284, Value.str (Str.ofString "WindowStats._make") 285, Value.str (Str.ofString "/claim/cut.py") 286, Value.int 34 0, Value.int 2 0, Value.int 0 0, Value.int 0 0, Value.int 3 0, Value.ref 83, Value.bool true, Value.int 181 0, Value.ref 84, Value.none, Value.ref 85, Value.ref 86, Value.ref 87, Value.int 290 0, Value.int 34 0, Value.str (Str.ofString "/claim/cut.py") 291] }
noncomputable abbrev hb89 (P : Params) : Obj := { cls := Value.type "function", data := Data.func { name := Str.ofString "_make", qualname := Str.ofString "WindowStats._make", params := (hdM 4 5).fst, body := (hdM 4 5).snd.fst, scope := (hdM 4 5).snd.snd, globals := 3, closure := [], defaults := Value.none, kwdefaults := Value.none, doc := Value.str ((hdDoc (hdM 4 5).snd.fst).getD default) 292, pyModule := Value.str (Str.ofString "limits.util") 194, annotations := some 92, code := Value.ref 88 } }
noncomputable abbrev hb90 (P : Params) : Obj := { cls := Value.type "dict", data := Data.dict #[{ hash := PyData.keyHash P (Str.ofString "__module__"), key := Value.str (Str.ofString "__module__") 294, val := Value.str (Str.ofString "limits.util") 194 }, { hash := PyData.keyHash P (Str.ofString "__name__"), key := Value.str (Str.ofString "__name__") 297, val := Value.str (Str.ofString "_make") 296 }, { hash := PyData.keyHash P (Str.ofString "__qualname__"), key := Value.str (Str.ofString "__qualname__") 300, val := Value.str (Str.ofString "WindowStats._make") 299 }, { hash := PyData.keyHash P (Str.ofString "__doc__"), key := Value.str (Str.ofString "__doc__") 302, val := Value.str ((hdDoc (hdM 4 5).snd.fst).getD default) 292 }, { hash := PyData.keyHash P (Str.ofString "__annotations__"), key := Value.str (Str.ofString "__annotations__") 304, val := Value.ref 92 }] 5 }
noncomputable abbrev hb91 (P : Params) : Obj := { cls := Value.type "classmethod", dict := some 90, data := Data.fields #[Value.ref 89, Value.bool false] }
noncomputable abbrev hb92 (P : Params) : Obj := { cls := Value.type "dict", data := Data.dict #[] }
noncomputable abbrev hb93 (P : Params) : Obj := { cls := Value.type "tuple", data := Data.seq #[Value.ref 68] }
noncomputable abbrev hb94 (P : Params) : Obj := { cls := Value.type "tuple", data := Data.seq #[Value.str (Str.ofString "__class__") 309] }
noncomputable abbrev hb95 (P : Params) : Obj := { cls := Value.none, data := Data.fields #[] }
noncomputable abbrev hb96 (P : Params) : Obj := { cls := Value.type "tuple", data := Data.seq #[Value.str (Str.ofString "self") 310, Value.str (Str.ofString "kwds") 311, Value.str (Str.ofString "result") 312] }
noncomputable abbrev hb97 (P : Params) : Obj := { cls := Value.type "tuple", data := Data.seq #[] }
noncomputable abbrev hb98 (P : Params) : Obj := { cls := Value.none, data := Data.func { name := Str.ofString "_replace", qualname := Str.ofString "WindowStats._replace", params := (hdM 4 6).fst, body := (hdM 4 6).snd.fst, scope := (hdM 4 6).snd.snd, globals := 0, closure := [], defaults := Value.none, kwdefaults := Value.none } }
noncomputable abbrev hb99 (P : Params) : Obj := { cls := Value.type "code", data := Data.fields #[Value.str (Str.ofString "_replace") 306, Value.str (Str.ofString "WindowStats._replace") 307, Value.str (Str.ofString "/claim/cut.py") 308, Value.int 42 0, Value.int 1 0, Value.int 1 0, Value.int 0 0, Value.int 11 0, Value.ref 94, Value.bool true, Value.int 181 0, Value.ref 95, Value.none, Value.ref 96, Value.ref 97, Value.ref 98, Value.int 313 0, Value.int 42 0, Value.str (Str.ofString "/claim/cut.py") 314] }
noncomputable abbrev hb100 (P : Params) : Obj := { cls := Value.type "function", data := Data.func { name := Str.ofString "_replace", qualname := Str.ofString "WindowStats._replace", params := (hdM 4 6).fst, body := (hdM 4 6).snd.fst, scope := (hdM 4 6).snd.snd, globals := 3, closure := [(Str.ofString "__class__", 68)], defaults := Value.none, kwdefaults := Value.none, doc := Value.str ((hdDoc (hdM 4 6).snd.fst).getD default) 315, pyModule := Value.str (Str.ofString "limits.util") 194, code := Value.ref 99, closureTuple := Value.ref 93 } }
noncomputable abbrev hb101 (P : Params) : Obj := { cls := Value.type "tuple", data := Data.seq #[] }
noncomputable abbrev hb102 (P : Params) : Obj := { cls := Value.none, data := Data.fields #[] }
noncomputable abbrev hb103 (P : Params) : Obj := { cls := Value.type "tuple", data := Data.seq #[Value.str (Str.ofString "self") 321] }
noncomputable abbrev hb104 (P : Params) : Obj := { cls := Value.type "tuple", data := Data.seq #[] }
noncomputable abbrev hb105 (P : Params) : Obj := { cls := Value.none, data := Data.func { name := Str.ofString "__repr__", qualname := Str.ofString "WindowStats.__repr__", params := (hdM 4 8).fst, body := (hdM 4 8).snd.fst, scope := (hdM 4 8).snd.snd, globals := 0, closure := [], defaults := Value.none, kwdefaults := Value.none } }
noncomputable abbrev hb106 (P : Params) : Obj := { cls := Value.type "code", data := Data.fields #[Value.str (Str.ofString "__repr__") 318, Value.str (Str.ofString "WindowStats.__repr__") 319, Value.str (Str.ofString "/claim/cut.py") 320, Value.int 53 0, Value.int 1 0, Value.int 0 0, Value.int 0 0, Value.int 3 0, Value.ref 101, Value.bool true, Value.int 181 0, Value.ref 102, Value.none, Value.ref 103, Value.ref 104, Value.ref 105, Value.int 322 0, Value.int 53 0, Value.str (Str.ofString "/claim/cut.py") 323] }
noncomputable abbrev hb107 (P : Params) : Obj := { cls := Value.type "function", data := Data.func { name := Str.ofString "__repr__", qualname := Str.ofString "WindowStats.__repr__", params := (hdM 4 8).fst, body := (hdM 4 8).snd.fst, scope := (hdM 4 8).snd.snd, globals := 3, closure := [], defaults := Value.none, kwdefaults := Value.none, doc := Value.str ((hdDoc (hdM 4 8).snd.fst).getD default) 324, pyModule := Value.str (Str.ofString "limits.util") 194, code := Value.ref 106 } }
noncomputable abbrev hb108 (P : Params) : Obj := { cls := Value.type "tuple", data := Data.seq #[] }
noncomputable abbrev hb109 (P : Params) : Obj := { cls := Value.none, data := Data.fields #[] }
noncomputable abbrev hb110 (P : Params) : Obj := { cls := Value.type "tuple", data := Data.seq #[Value.str (Str.ofString "self") 329] }
noncomputable abbrev hb111 (P : Params) : Obj := { cls := Value.type "tuple", data := Data.seq #[] }
noncomputable abbrev hb112 (P : Params) : Obj := { cls := Value.none, data := Data.func { name := Str.ofString "_asdict", qualname := Str.ofString "WindowStats._asdict", params := (hdM 4 9).fst, body := (hdM 4 9).snd.fst, scope := (hdM 4 9).snd.snd, globals := 0, closure := [], defaults := Value.none, kwdefaults := Value.none } }
noncomputable abbrev hb113 (P : Params) : Obj := { cls := Value.type "code", data := Data.fields #[Value.str (Str.ofString "_asdict") 326, Value.str (Str.ofString "WindowStats._asdict") 327, Value.str (Str.ofString "/claim/cut.py") 328, Value.int 57 0, Value.int 1 0, Value.int 0 0, Value.int 0 0, Value.int 3 0, Value.ref 108, Value.bool true, Value.int 181 0, Value.ref 109, Value.none, Value.ref 110, Value.ref 111, Value.ref 112, Value.int 330 0, Value.int 57 0, Value.str (Str.ofString "/claim/cut.py") 331] }
noncomputable abbrev hb114 (P : Params) : Obj := { cls := Value.type "function", data := Data.func { name := Str.ofString "_asdict", qualname := Str.ofString "WindowStats._asdict", params := (hdM 4 9).fst, body := (hdM 4 9).snd.fst, scope := (hdM 4 9).snd.snd, globals := 3, closure := [], defaults := Value.none, kwdefaults := Value.none, pyModule := Value.str (Str.ofString "limits.util") 194, code := Value.ref 113 } }
noncomputable abbrev hb115 (P : Params) : Obj := { cls := Value.type "tuple", data := Data.seq #[] }
noncomputable abbrev hb116 (P : Params) : Obj := { cls := Value.none, data := Data.fields #[] }
noncomputable abbrev hb117 (P : Params) : Obj := { cls := Value.type "tuple", data := Data.seq #[Value.str (Str.ofString "self") 336] }
noncomputable abbrev hb118 (P : Params) : Obj := { cls := Value.type "tuple", data := Data.seq #[] }
noncomputable abbrev hb119 (P : Params) : Obj := { cls := Value.none, data := Data.func { name := Str.ofString "__getnewargs__", qualname := Str.ofString "WindowStats.__getnewargs__", params := (hdM 4 10).fst, body := (hdM 4 10).snd.fst, scope := (hdM 4 10).snd.snd, globals := 0, closure := [], defaults := Value.none, kwdefaults := Value.none } }
noncomputable abbrev hb120 (P : Params) : Obj := { cls := Value.type "code", data := Data.fields #[Value.str (Str.ofString "__getnewargs__") 333, Value.str (Str.ofString "WindowStats.__getnewargs__") 334, Value.str (Str.ofString "/claim/cut.py") 335, Value.int 60 0, Value.int 1 0, Value.int 0 0, Value.int 0 0, Value.int 3 0, Value.ref 115, Value.bool true, Value.int 181 0, Value.ref 116, Value.none, Value.ref 117, Value.ref 118, Value.ref 119, Value.int 337 0, Value.int 60 0, Value.str (Str.ofString "/claim/cut.py") 338] }
noncomputable abbrev hb121 (P : Params) : Obj := { cls := Value.type "function", data := Data.func { name := Str.ofString "__getnewargs__", qualname := Str.ofString "WindowStats.__getnewargs__", params := (hdM 4 10).fst, body := (hdM 4 10).snd.fst, scope := (hdM 4 10).snd.snd, globals := 3, closure := [], defaults := Value.none, kwdefaults := Value.none, doc := Value.str ((hdDoc (hdM 4 10).snd.fst).getD default) 339, pyModule := Value.str (Str.ofString "limits.util") 194, code := Value.ref 120 } }
noncomputable abbrev hb122 (P : Params) : Obj := { cls := Value.type "tuple", data := Data.seq #[Value.str (Str.ofString "reset_time") 341, Value.str (Str.ofString "remaining") 342] }
noncomputable abbrev hb123 (P : Params) : Obj := { cls := Value.type "dict", data := Data.dict #[{ hash := PyData.keyHash P (Str.ofString "index"), key := Value.str (Str.ofString "index") 350, val := Value.int 0 344 }, { hash := PyData.keyHash P (Str.ofString "__doc__"), key := Value.str (Str.ofString "__doc__") 352, val := Value.str (Str.ofString "Alias for field number 0") 345 }] 2 }
noncomputable abbrev hb124 (P : Params) : Obj := { cls := Value.ref 60, dict := some 123 }
noncomputable abbrev hb125 (P : Params) : Obj := { cls := Value.type "frame", data := Data.dict #[{ hash := PyData.keyHash P (Str.ofString "self"), key := Value.str (Str.ofString "self") 346, val := Value.ref 124 }, { hash := PyData.keyHash P (Str.ofString "index"), key := Value.str (Str.ofString "index") 347, val := Value.int 0 344 }, { hash := PyData.keyHash P (Str.ofString "doc"), key := Value.str (Str.ofString "doc") 348, val := Value.str (Str.ofString "Alias for field number 0") 345 }] 3 }
noncomputable abbrev hb126 (P : Params) : Obj := { cls := Value.type "dict", data := Data.dict #[{ hash := PyData.keyHash P (Str.ofString "index"), key := Value.str (Str.ofString "index") 360, val := Value.int 1 354 }, { hash := PyData.keyHash P (Str.ofString "__doc__"), key := Value.str (Str.ofString "__doc__") 362, val := Value.str (Str.ofString "Alias for field number 1") 355 }] 2 }
noncomputable abbrev hb127 (P : Params) : Obj := { cls := Value.ref 60, dict := some 126 }
noncomputable abbrev hb128 (P : Params) : Obj := { cls := Value.type "frame", data := Data.dict #[{ hash := PyData.keyHash P (Str.ofString "self"), key := Value.str (Str.ofString "self") 356, val := Value.ref 127 }, { hash := PyData.keyHash P (Str.ofString "index"), key := Value.str (Str.ofString "index") 357, val := Value.int 1 354 }, { hash := PyData.keyHash P (Str.ofString "doc"), key := Value.str (Str.ofString "doc") 358, val := Value.str (Str.ofString "Alias for field number 1") 355 }] 3 }
noncomputable abbrev hb129 (P : Params) : Obj := { cls := Value.type "tuple", data := Data.seq #[] }
noncomputable abbrev hb130 (P : Params) : Obj := { cls := Value.type "list", data := Data.seq #[] }
noncomputable abbrev hb131 (P : Params) : Obj := { cls := Value.type "dict", data := Data.dict #[{ hash := PyData.keyHash P (Str.ofString "__module__"), key := Value.str (Str.ofString "__module__") 261, val := Value.str (Str.ofString "limits.util") 194 }, { hash := PyData.keyHash P (Str.ofString "__firstlineno__"), key := Value.str (Str.ofString "__firstlineno__") 265, val := Value.int 24 264 }, { hash := PyData.keyHash P (Str.ofString "__doc__"), key := Value.str (Str.ofString "__doc__") 267, val := Value.str ((hdCDoc 4).getD default) 266 }, { hash := PyData.keyHash P (Str.ofString "__slots__"), key := Value.str (Str.ofString "__slots__") 269, val := Value.ref 73 }, { hash := PyData.keyHash P (Str.ofString "_fields"), key := Value.str (Str.ofString "_fields") 272, val := Value.ref 74 }, { hash := PyData.keyHash P (Str.ofString "_field_defaults"), key := Value.str (Str.ofString "_field_defaults") 273, val := Value.ref 75 }, { hash := PyData.keyHash P (Str.ofString "__new__"), key := Value.str (Str.ofString "__new__") 283, val := Value.ref 133 }, { hash := PyData.keyHash P (Str.ofString "_make"), key := Value.str (Str.ofString "_make") 305, val := Value.ref 91 }, { hash := PyData.keyHash P (Str.ofString "_replace"), key := Value.str (Str.ofString "_replace") 316, val := Value.ref 100 }, { hash := PyData.keyHash P (Str.ofString "__replace__"), key := Value.str (Str.ofString "__replace__") 317, val := Value.ref 100 }, { hash := PyData.keyHash P (Str.ofString "__repr__"), key := Value.str (Str.ofString "__repr__") 325, val := Value.ref 107 }, { hash := PyData.keyHash P (Str.ofString "_asdict"), key := Value.str (Str.ofString "_asdict") 332, val := Value.ref 114 }, { hash := PyData.keyHash P (Str.ofString "__getnewargs__"), key := Value.str (Str.ofString "__getnewargs__") 340, val := Value.ref 121 }, { hash := PyData.keyHash P (Str.ofString "__match_args__"), key := Value.str (Str.ofString "__match_args__") 343, val := Value.ref 122 }, { hash := PyData.keyHash P (Str.ofString "reset_time"), key := Value.str (Str.ofString "reset_time") 353, val := Value.ref 124 }, { hash := PyData.keyHash P (Str.ofString "remaining"), key := Value.str (Str.ofString "remaining") 363, val := Value.ref 127 }, { hash := PyData.keyHash P (Str.ofString "__static_attributes__"), key := Value.str (Str.ofString "__static_attributes__") 364, val := Value.ref 129 }] 2 }
noncomputable abbrev hb132 (P : Params) : Obj := { cls := Value.type "type", data := Data.cls { name := Str.ofString "WindowStats", bases := [Value.type "tuple"], mro := [Value.ref 132, Value.type "tuple", Value.type "object"], ns := 131, qualname := Str.ofString "WindowStats", hasDict := false }, slots := #[some (Value.ref 65), none, some (Value.str (Str.ofString "WindowStats") 254), some (Value.str (Str.ofString "WindowStats") 262), some Value.none, some (Value.bool false)] }
noncomputable abbrev hb133 (P : Params) : Obj := { cls := Value.type "staticmethod", data := Data.fields #[Value.ref 82] }
noncomputable abbrev hb134 (P : Params) : Obj := { cls := Value.type "super", data := Data.fields #[Value.ref 132, Value.ref 132, Value.ref 132] }
noncomputable abbrev hb135 (P : Params) : Obj := { cls := Value.type "builtin_function_or_method", data := Data.fields #[Value.builtin "object.__init_subclass__", Value.ref 132] }
noncomputable abbrev hb136 (P : Params) : Obj := { cls := Value.type "tuple", data := Data.seq #[] }
noncomputable abbrev hb137 (P : Params) : Obj := { cls := Value.type "builtin_function_or_method", data := Data.fields #[Value.builtin "type.__prepare__", Value.type "type"] }
noncomputable abbrev hb138 (P : Params) : Obj := { cls := Value.type "dict", data := Data.dict #[{ hash := PyData.keyHash P (Str.ofString "__module__"), key := Value.str (Str.ofString "__module__") 378, val := Value.str (Str.ofString "limits.strategies") 369 }, { hash := PyData.keyHash P (Str.ofString "__qualname__"), key := Value.str (Str.ofString "__qualname__") 380, val := Value.str (Str.ofString "RateLimiter") 379 }, { hash := PyData.keyHash P (Str.ofString "__firstlineno__"), key := Value.str (Str.ofString "__firstlineno__") 382, val := Value.int 67 381 }, { hash := PyData.keyHash P (Str.ofString "__init__"), key := Value.str (Str.ofString "__init__") 390, val := Value.ref 149 }, { hash := PyData.keyHash P (Str.ofString "clear"), key := Value.str (Str.ofString "clear") 399, val := Value.ref 158 }, { hash := PyData.keyHash P (Str.ofString "__static_attributes__"), key := Value.str (Str.ofString "__static_attributes__") 401, val := Value.ref 159 }] 6 }
noncomputable abbrev hb139 (P : Params) : Obj := { cls := Value.type "tuple", data := Data.seq #[] }
noncomputable abbrev hb140 (P : Params) : Obj := { cls := Value.none, data := Data.fields #[Value.int 69 0, Value.int 4 0, Value.ref 148, Value.int 72 0, Value.int 4 0, Value.ref 157] }
noncomputable abbrev hb141 (P : Params) : Obj := { cls := Value.type "code", data := Data.fields #[Value.str (Str.ofString "RateLimiter") 373, Value.str (Str.ofString "RateLimiter") 374, Value.str (Str.ofString "/claim/cut.py") 375, Value.int 67 0, Value.int 0 0, Value.int 0 0, Value.int 0 0, Value.int 0 0, Value.ref 139, Value.bool false, Value.int 181 0, Value.ref 140, Value.none, Value.none, Value.none, Value.none, Value.int 376 0, Value.int 67 0, Value.str (Str.ofString "/claim/cut.py") 377] }
noncomputable abbrev hb142 (P : Params) : Obj := { cls := Value.type "frame", slots := #[some (Value.ref 141), some (Value.ref 3), some (Value.ref 138), none, some (Value.str (Str.ofString "limits.strategies") 369), none, some (Value.ref 0)] }
noncomputable abbrev hb143 (P : Params) : Obj := { cls := Value.type "tuple", data := Data.seq #[] }
noncomputable abbrev hb144 (P : Params) : Obj := { cls := Value.none, data := Data.fields #[] }
noncomputable abbrev hb145 (P : Params) : Obj := { cls := Value.type "tuple", data := Data.seq #[Value.str (Str.ofString "self") 386, Value.str (Str.ofString "storage") 387] }
noncomputable abbrev hb146 (P : Params) : Obj := { cls := Value.type "tuple", data := Data.seq #[] }
noncomputable abbrev hb147 (P : Params) : Obj := { cls := Value.none, data := Data.func { name := Str.ofString "__init__", qualname := Str.ofString "RateLimiter.__init__", params := (hdM 6 0).fst, body := (hdM 6 0).snd.fst, scope := (hdM 6 0).snd.snd, globals := 0, closure := [], defaults := Value.none, kwdefaults := Value.none } }
noncomputable abbrev hb148 (P : Params) : Obj := { cls := Value.type "code", data := Data.fields #[Value.str (Str.ofString "__init__") 383, Value.str (Str.ofString "RateLimiter.__init__") 384, Value.str (Str.ofString "/claim/cut.py") 385, Value.int 69 0, Value.int 2 0, Value.int 0 0, Value.int 0 0, Value.int 3 0, Value.ref 143, Value.bool true, Value.int 181 0, Value.ref 144, Value.none, Value.ref 145, Value.ref 146, Value.ref 147, Value.int 388 0, Value.int 69 0, Value.str (Str.ofString "/claim/cut.py") 389] }
noncomputable abbrev hb149 (P : Params) : Obj := { cls := Value.type "function", data := Data.func { name := Str.ofString "__init__", qualname := Str.ofString "RateLimiter.__init__", params := (hdM 6 0).fst, body := (hdM 6 0).snd.fst, scope := (hdM 6 0).snd.snd, globals := 3, closure := [], defaults := Value.none, kwdefaults := Value.none, pyModule := Value.str (Str.ofString "limits.strategies") 369, code := Value.ref 148 } }
noncomputable abbrev hb150 (P : Params) : Obj := { cls := Value.type "tuple", data := Data.seq #[] }
noncomputable abbrev hb151 (P : Params) : Obj := { cls := Value.type "tuple", data := Data.seq #[Value.ref 150] }
noncomputable abbrev hb152 (P : Params) : Obj := { cls := Value.type "tuple", data := Data.seq #[] }
noncomputable abbrev hb153 (P : Params) : Obj := { cls := Value.none, data := Data.fields #[] }
noncomputable abbrev hb154 (P : Params) : Obj := { cls := Value.type "tuple", data := Data.seq #[Value.str (Str.ofString "self") 394, Value.str (Str.ofString "item") 395, Value.str (Str.ofString "identifiers") 396] }
noncomputable abbrev hb155 (P : Params) : Obj := { cls := Value.type "tuple", data := Data.seq #[] }
noncomputable abbrev hb156 (P : Params) : Obj := { cls := Value.none, data := Data.func { name := Str.ofString "clear", qualname := Str.ofString "RateLimiter.clear", params := (hdM 6 1).fst, body := (hdM 6 1).snd.fst, scope := (hdM 6 1).snd.snd, globals := 0, closure := [], defaults := Value.none, kwdefaults := Value.none } }
noncomputable abbrev hb157 (P : Params) : Obj := { cls := Value.type "code", data := Data.fields #[Value.str (Str.ofString "clear") 391, Value.str (Str.ofString "RateLimiter.clear") 392, Value.str (Str.ofString "/claim/cut.py") 393, Value.int 72 0, Value.int 3 0, Value.int 0 0, Value.int 0 0, Value.int 3 0, Value.ref 152, Value.bool true, Value.int 181 0, Value.ref 153, Value.none, Value.ref 154, Value.ref 155, Value.ref 156, Value.int 397 0, Value.int 72 0, Value.str (Str.ofString "/claim/cut.py") 398] }
noncomputable abbrev hb158 (P : Params) : Obj := { cls := Value.type "function", data := Data.func { name := Str.ofString "clear", qualname := Str.ofString "RateLimiter.clear", params := (hdM 6 1).fst, body := (hdM 6 1).snd.fst, scope := (hdM 6 1).snd.snd, globals := 3, closure := [], defaults := Value.ref 151, kwdefaults := Value.none, pyModule := Value.str (Str.ofString "limits.strategies") 369, code := Value.ref 157 } }
noncomputable abbrev hb159 (P : Params) : Obj := { cls := Value.type "tuple", data := Data.seq #[Value.str (Str.ofString "storage") 400] }
noncomputable abbrev hb160 (P : Params) : Obj := { cls := Value.type "dict", data := Data.dict #[{ hash := PyData.keyHash P (Str.ofString "__module__"), key := Value.str (Str.ofString "__module__") 378, val := Value.str (Str.ofString "limits.strategies") 369 }, { hash := PyData.keyHash P (Str.ofString "__firstlineno__"), key := Value.str (Str.ofString "__firstlineno__") 382, val := Value.int 67 381 }, { hash := PyData.keyHash P (Str.ofString "__init__"), key := Value.str (Str.ofString "__init__") 390, val := Value.ref 149 }, { hash := PyData.keyHash P (Str.ofString "clear"), key := Value.str (Str.ofString "clear") 399, val := Value.ref 158 }, { hash := PyData.keyHash P (Str.ofString "__static_attributes__"), key := Value.str (Str.ofString "__static_attributes__") 401, val := Value.ref 159 }, { hash := PyData.keyHash P (Str.ofString "__dict__"), key := Value.str (Str.ofString "__dict__") 403, val := Value.ref 162 }, { hash := PyData.keyHash P (Str.ofString "__weakref__"), key := Value.str (Str.ofString "__weakref__") 405, val := Value.ref 163 }, { hash := PyData.keyHash P (Str.ofString "__doc__"), key := Value.str (Str.ofString "__doc__") 406, val := Value.none }] 4 }
noncomputable abbrev hb161 (P : Params) : Obj := { cls := Value.type "type", data := Data.cls { name := Str.ofString "RateLimiter", bases := [Value.type "object"], mro := [Value.ref 161, Value.type "object"], ns := 160, qualname := Str.ofString "RateLimiter", subclasses := [Value.ref 218] }, slots := #[none, none, some (Value.str (Str.ofString "RateLimiter") 371), some (Value.str (Str.ofString "RateLimiter") 379), some (Value.builtin "object.__new__"), some (Value.bool true)] }
noncomputable abbrev hb162 (P : Params) : Obj := { cls := Value.type "getset_descriptor", data := Data.fields #[Value.str (Str.ofString "__dict__") 402, Value.ref 161, Value.builtin "function.__dict__", Value.builtin "function.__dict__#set"] }
noncomputable abbrev hb163 (P : Params) : Obj := { cls := Value.type "getset_descriptor", data := Data.fields #[Value.str (Str.ofString "__weakref__") 404, Value.ref 161, Value.builtin "ExceptionGroup.__weakref__", Value.none] }
noncomputable abbrev hb164 (P : Params) : Obj := { cls := Value.type "super", data := Data.fields #[Value.ref 161, Value.ref 161, Value.ref 161] }
noncomputable abbrev hb165 (P : Params) : Obj := { cls := Value.type "builtin_function_or_method", data := Data.fields #[Value.builtin "object.__init_subclass__", Value.ref 161] }
noncomputable abbrev hb166 (P : Params) : Obj := { cls := Value.type "tuple", data := Data.seq #[Value.ref 161] }
noncomputable abbrev hb167 (P : Params) : Obj := { cls := Value.type "builtin_function_or_method", data := Data.fields #[Value.builtin "type.__prepare__", Value.type "type"] }
noncomputable abbrev hb168 (P : Params) : Obj := { cls := Value.type "dict", data := Data.dict #[{ hash := PyData.keyHash P (Str.ofString "__module__"), key := Value.str (Str.ofString "__module__") 416, val := Value.str (Str.ofString "limits.strategies") 369 }, { hash := PyData.keyHash P (Str.ofString "__qualname__"), key := Value.str (Str.ofString "__qualname__") 418, val := Value.str (Str.ofString "SlidingWindowCounterRateLimiter") 417 }, { hash := PyData.keyHash P (Str.ofString "__firstlineno__"), key := Value.str (Str.ofString "__firstlineno__") 420, val := Value.int 74 419 }, { hash := PyData.keyHash P (Str.ofString "__doc__"), key := Value.str (Str.ofString "__doc__") 422, val := Value.str ((hdCDoc 7).getD default) 421 }, { hash := PyData.keyHash P (Str.ofString "_weighted_count"), key := Value.str (Str.ofString "_weighted_count") 435, val := Value.ref 179 }, { hash := PyData.keyHash P (Str.ofString "hit"), key := Value.str (Str.ofString "hit") 447, val := Value.ref 188 }, { hash := PyData.keyHash P (Str.ofString "test"), key := Value.str (Str.ofString "test") 463, val := Value.ref 197 }, { hash := PyData.keyHash P (Str.ofString "get_window_stats"), key := Value.str (Str.ofString "get_window_stats") 481, val := Value.ref 206 }, { hash := PyData.keyHash P (Str.ofString "clear"), key := Value.str (Str.ofString "clear") 490, val := Value.ref 215 }, { hash := PyData.keyHash P (Str.ofString "__static_attributes__"), key := Value.str (Str.ofString "__static_attributes__") 491, val := Value.ref 216 }] 10 }
noncomputable abbrev hb169 (P : Params) : Obj := { cls := Value.type "tuple", data := Data.seq #[] }
noncomputable abbrev hb170 (P : Params) : Obj := { cls := Value.none, data := Data.fields #[Value.int 79 0, Value.int 4 0, Value.ref 178, Value.int 85 0, Value.int 4 0, Value.ref 187, Value.int 98 0, Value.int 4 0, Value.ref 196, Value.int 112 0, Value.int 4 0, Value.ref 205, Value.int 134 0, Value.int 4 0, Value.ref 214] }
noncomputable abbrev hb171 (P : Params) : Obj := { cls := Value.type "code", data := Data.fields #[Value.str (Str.ofString "SlidingWindowCounterRateLimiter") 411, Value.str (Str.ofString "SlidingWindowCounterRateLimiter") 412, Value.str (Str.ofString "/claim/cut.py") 413, Value.int 74 0, Value.int 0 0, Value.int 0 0, Value.int 0 0, Value.int 0 0, Value.ref 169, Value.bool false, Value.int 181 0, Value.ref 170, Value.none, Value.none, Value.none, Value.none, Value.int 414 0, Value.int 74 0, Value.str (Str.ofString "/claim/cut.py") 415] }
noncomputable abbrev hb172 (P : Params) : Obj := { cls := Value.type "frame", slots := #[some (Value.ref 171), some (Value.ref 3), some (Value.ref 168), none, some (Value.str (Str.ofString "limits.strategies") 369), none, some (Value.ref 0)] }
noncomputable abbrev hb173 (P : Params) : Obj := { cls := Value.type "tuple", data := Data.seq #[] }
noncomputable abbrev hb174 (P : Params) : Obj := { cls := Value.none, data := Data.fields #[] }
noncomputable abbrev hb175 (P : Params) : Obj := { cls := Value.type "tuple", data := Data.seq #[Value.str (Str.ofString "self") 427, Value.str (Str.ofString "item") 428, Value.str (Str.ofString "previous_count") 429, Value.str (Str.ofString "previous_expires_in") 430, Value.str (Str.ofString "current_count") 431] }
noncomputable abbrev hb176 (P : Params) : Obj := { cls := Value.type "tuple", data := Data.seq #[] }
noncomputable abbrev hb177 (P : Params) : Obj := { cls := Value.none, data := Data.func { name := Str.ofString "_weighted_count", qualname := Str.ofString "SlidingWindowCounterRateLimiter._weighted_count", params := (hdM 7 1).fst, body := (hdM 7 1).snd.fst, scope := (hdM 7 1).snd.snd, globals := 0, closure := [], defaults := Value.none, kwdefaults := Value.none } }
noncomputable abbrev hb178 (P : Params) : Obj := { cls := Value.type "code", data := Data.fields #[Value.str (Str.ofString "_weighted_count") 424, Value.str (Str.ofString "SlidingWindowCounterRateLimiter._weighted_count") 425, Value.str (Str.ofString "/claim/cut.py") 426, Value.int 79 0, Value.int 5 0, Value.int 0 0, Value.int 0 0, Value.int 3 0, Value.ref 173, Value.bool true, Value.int 181 0, Value.ref 174, Value.none, Value.ref 175, Value.ref 176, Value.ref 177, Value.int 432 0, Value.int 79 0, Value.str (Str.ofString "/claim/cut.py") 433] }
noncomputable abbrev hb179 (P : Params) : Obj := { cls := Value.type "function", data := Data.func { name := Str.ofString "_weighted_count", qualname := Str.ofString "SlidingWindowCounterRateLimiter._weighted_count", params := (hdM 7 1).fst, body := (hdM 7 1).snd.fst, scope := (hdM 7 1).snd.snd, globals := 3, closure := [], defaults := Value.none, kwdefaults := Value.none, doc := Value.str ((hdDoc (hdM 7 1).snd.fst).getD default) 434, pyModule := Value.str (Str.ofString "limits.strategies") 369, code := Value.ref 178 } }
noncomputable abbrev hb180 (P : Params) : Obj := { cls := Value.type "tuple", data := Data.seq #[] }
noncomputable abbrev hb181 (P : Params) : Obj := { cls := Value.type "tuple", data := Data.seq #[Value.ref 180, Value.int 1 436] }
noncomputable abbrev hb182 (P : Params) : Obj := { cls := Value.type "tuple", data := Data.seq #[] }
noncomputable abbrev hb183 (P : Params) : Obj := { cls := Value.none, data := Data.fields #[] }
noncomputable abbrev hb184 (P : Params) : Obj := { cls := Value.type "tuple", data := Data.seq #[Value.str (Str.ofString "self") 440, Value.str (Str.ofString "item") 441, Value.str (Str.ofString "identifiers") 442, Value.str (Str.ofString "cost") 443] }
noncomputable abbrev hb185 (P : Params) : Obj := { cls := Value.type "tuple", data := Data.seq #[] }
noncomputable abbrev hb186 (P : Params) : Obj := { cls := Value.none, data := Data.func { name := Str.ofString "hit", qualname := Str.ofString "SlidingWindowCounterRateLimiter.hit", params := (hdM 7 2).fst, body := (hdM 7 2).snd.fst, scope := (hdM 7 2).snd.snd, globals := 0, closure := [], defaults := Value.none, kwdefaults := Value.none } }
noncomputable abbrev hb187 (P : Params) : Obj := { cls := Value.type "code", data := Data.fields #[Value.str (Str.ofString "hit") 437, Value.str (Str.ofString "SlidingWindowCounterRateLimiter.hit") 438, Value.str (Str.ofString "/claim/cut.py") 439, Value.int 85 0, Value.int 4 0, Value.int 0 0, Value.int 0 0, Value.int 3 0, Value.ref 182, Value.bool true, Value.int 181 0, Value.ref 183, Value.none, Value.ref 184, Value.ref 185, Value.ref 186, Value.int 444 0, Value.int 85 0, Value.str (Str.ofString "/claim/cut.py") 445] }
noncomputable abbrev hb188 (P : Params) : Obj := { cls := Value.type "function", data := Data.func { name := Str.ofString "hit", qualname := Str.ofString "SlidingWindowCounterRateLimiter.hit", params := (hdM 7 2).fst, body := (hdM 7 2).snd.fst, scope := (hdM 7 2).snd.snd, globals := 3, closure := [], defaults := Value.ref 181, kwdefaults := Value.none, doc := Value.str ((hdDoc (hdM 7 2).snd.fst).getD default) 446, pyModule := Value.str (Str.ofString "limits.strategies") 369, code := Value.ref 187 } }
noncomputable abbrev hb189 (P : Params) : Obj := { cls := Value.type "tuple", data := Data.seq #[] }
noncomputable abbrev hb190 (P : Params) : Obj := { cls := Value.type "tuple", data := Data.seq #[Value.ref 189, Value.int 1 448] }
noncomputable abbrev hb191 (P : Params) : Obj := { cls := Value.type "tuple", data := Data.seq #[] }
noncomputable abbrev hb192 (P : Params) : Obj := { cls := Value.none, data := Data.fields #[] }
noncomputable abbrev hb193 (P : Params) : Obj := { cls := Value.type "tuple", data := Data.seq #[Value.str (Str.ofString "self") 452, Value.str (Str.ofString "item") 453, Value.str (Str.ofString "identifiers") 454, Value.str (Str.ofString "cost") 455, Value.str (Str.ofString "previous_count") 456, Value.str (Str.ofString "previous_expires_in") 457, Value.str (Str.ofString "current_count") 458, Value.str (Str.ofString "_") 459] }
noncomputable abbrev hb194 (P : Params) : Obj := { cls := Value.type "tuple", data := Data.seq #[] }
noncomputable abbrev hb195 (P : Params) : Obj := { cls := Value.none, data := Data.func { name := Str.ofString "test", qualname := Str.ofString "SlidingWindowCounterRateLimiter.test", params := (hdM 7 3).fst, body := (hdM 7 3).snd.fst, scope := (hdM 7 3).snd.snd, globals := 0, closure := [], defaults := Value.none, kwdefaults := Value.none } }
noncomputable abbrev hb196 (P : Params) : Obj := { cls := Value.type "code", data := Data.fields #[Value.str (Str.ofString "test") 449, Value.str (Str.ofString "SlidingWindowCounterRateLimiter.test") 450, Value.str (Str.ofString "/claim/cut.py") 451, Value.int 98 0, Value.int 4 0, Value.int 0 0, Value.int 0 0, Value.int 3 0, Value.ref 191, Value.bool true, Value.int 181 0, Value.ref 192, Value.none, Value.ref 193, Value.ref 194, Value.ref 195, Value.int 460 0, Value.int 98 0, Value.str (Str.ofString "/claim/cut.py") 461] }
noncomputable abbrev hb197 (P : Params) : Obj := { cls := Value.type "function", data := Data.func { name := Str.ofString "test", qualname := Str.ofString "SlidingWindowCounterRateLimiter.test", params := (hdM 7 3).fst, body := (hdM 7 3).snd.fst, scope := (hdM 7 3).snd.snd, globals := 3, closure := [], defaults := Value.ref 190, kwdefaults := Value.none, doc := Value.str ((hdDoc (hdM 7 3).snd.fst).getD default) 462, pyModule := Value.str (Str.ofString "limits.strategies") 369, code := Value.ref 196 } }
noncomputable abbrev hb198 (P : Params) : Obj := { cls := Value.type "tuple", data := Data.seq #[] }
noncomputable abbrev hb199 (P : Params) : Obj := { cls := Value.type "tuple", data := Data.seq #[Value.ref 198] }
noncomputable abbrev hb200 (P : Params) : Obj := { cls := Value.type "tuple", data := Data.seq #[] }
noncomputable abbrev hb201 (P : Params) : Obj := { cls := Value.none, data := Data.fields #[] }
noncomputable abbrev hb202 (P : Params) : Obj := { cls := Value.type "tuple", data := Data.seq #[Value.str (Str.ofString "self") 467, Value.str (Str.ofString "item") 468, Value.str (Str.ofString "identifiers") 469, Value.str (Str.ofString "previous_count") 470, Value.str (Str.ofString "previous_expires_in") 471, Value.str (Str.ofString "current_count") 472, Value.str (Str.ofString "current_expires_in") 473, Value.str (Str.ofString "remaining") 474, Value.str (Str.ofString "now") 475, Value.str (Str.ofString "expiry") 476, Value.str (Str.ofString "reset_in") 477] }
noncomputable abbrev hb203 (P : Params) : Obj := { cls := Value.type "tuple", data := Data.seq #[] }
noncomputable abbrev hb204 (P : Params) : Obj := { cls := Value.none, data := Data.func { name := Str.ofString "get_window_stats", qualname := Str.ofString "SlidingWindowCounterRateLimiter.get_window_stats", params := (hdM 7 4).fst, body := (hdM 7 4).snd.fst, scope := (hdM 7 4).snd.snd, globals := 0, closure := [], defaults := Value.none, kwdefaults := Value.none } }
noncomputable abbrev hb205 (P : Params) : Obj := { cls := Value.type "code", data := Data.fields #[Value.str (Str.ofString "get_window_stats") 464, Value.str (Str.ofString "SlidingWindowCounterRateLimiter.get_window_stats") 465, Value.str (Str.ofString "/claim/cut.py") 466, Value.int 112 0, Value.int 3 0, Value.int 0 0, Value.int 0 0, Value.int 3 0, Value.ref 200, Value.bool true, Value.int 181 0, Value.ref 201, Value.none, Value.ref 202, Value.ref 203, Value.ref 204, Value.int 478 0, Value.int 112 0, Value.str (Str.ofString "/claim/cut.py") 479] }
noncomputable abbrev hb206 (P : Params) : Obj := { cls := Value.type "function", data := Data.func { name := Str.ofString "get_window_stats", qualname := Str.ofString "SlidingWindowCounterRateLimiter.get_window_stats", params := (hdM 7 4).fst, body := (hdM 7 4).snd.fst, scope := (hdM 7 4).snd.snd, globals := 3, closure := [], defaults := Value.ref 199, kwdefaults := Value.none, doc := Value.str ((hdDoc (hdM 7 4).snd.fst).getD default) 480, pyModule := Value.str (Str.ofString "limits.strategies") 369, code := Value.ref 205 } }
noncomputable abbrev hb207 (P : Params) : Obj := { cls := Value.type "tuple", data := Data.seq #[] }
noncomputable abbrev hb208 (P : Params) : Obj := { cls := Value.type "tuple", data := Data.seq #[Value.ref 207] }
noncomputable abbrev hb209 (P : Params) : Obj := { cls := Value.type "tuple", data := Data.seq #[] }
noncomputable abbrev hb210 (P : Params) : Obj := { cls := Value.none, data := Data.fields #[] }
noncomputable abbrev hb211 (P : Params) : Obj := { cls := Value.type "tuple", data := Data.seq #[Value.str (Str.ofString "self") 485, Value.str (Str.ofString "item") 486, Value.str (Str.ofString "identifiers") 487] }
noncomputable abbrev hb212 (P : Params) : Obj := { cls := Value.type "tuple", data := Data.seq #[] }
noncomputable abbrev hb213 (P : Params) : Obj := { cls := Value.none, data := Data.func { name := Str.ofString "clear", qualname := Str.ofString "SlidingWindowCounterRateLimiter.clear", params := (hdM 7 5).fst, body := (hdM 7 5).snd.fst, scope := (hdM 7 5).snd.snd, globals := 0, closure := [], defaults := Value.none, kwdefaults := Value.none } }
noncomputable abbrev hb214 (P : Params) : Obj := { cls := Value.type "code", data := Data.fields #[Value.str (Str.ofString "clear") 482, Value.str (Str.ofString "SlidingWindowCounterRateLimiter.clear") 483, Value.str (Str.ofString "/claim/cut.py") 484, Value.int 134 0, Value.int 3 0, Value.int 0 0, Value.int 0 0, Value.int 3 0, Value.ref 209, Value.bool true, Value.int 181 0, Value.ref 210, Value.none, Value.ref 211, Value.ref 212, Value.ref 213, Value.int 488 0, Value.int 134 0, Value.str (Str.ofString "/claim/cut.py") 489] }
noncomputable abbrev hb215 (P : Params) : Obj := { cls := Value.type "function", data := Data.func { name := Str.ofString "clear", qualname := Str.ofString "SlidingWindowCounterRateLimiter.clear", params := (hdM 7 5).fst, body := (hdM 7 5).snd.fst, scope := (hdM 7 5).snd.snd, globals := 3, closure := [], defaults := Value.ref 208, kwdefaults := Value.none, pyModule := Value.str (Str.ofString "limits.strategies") 369, code := Value.ref 214 } }
noncomputable abbrev hb216 (P : Params) : Obj := { cls := Value.type "tuple", data := Data.seq #[] }
noncomputable abbrev hb217 (P : Params) : Obj := { cls := Value.type "dict", data := Data.dict #[{ hash := PyData.keyHash P (Str.ofString "__module__"), key := Value.str (Str.ofString "__module__") 416, val := Value.str (Str.ofString "limits.strategies") 369 }, { hash := PyData.keyHash P (Str.ofString "__firstlineno__"), key := Value.str (Str.ofString "__firstlineno__") 420, val := Value.int 74 419 }, { hash := PyData.keyHash P (Str.ofString "__doc__"), key := Value.str (Str.ofString "__doc__") 422, val := Value.str ((hdCDoc 7).getD default) 421 }, { hash := PyData.keyHash P (Str.ofString "_weighted_count"), key := Value.str (Str.ofString "_weighted_count") 435, val := Value.ref 179 }, { hash := PyData.keyHash P (Str.ofString "hit"), key := Value.str (Str.ofString "hit") 447, val := Value.ref 188 }, { hash := PyData.keyHash P (Str.ofString "test"), key := Value.str (Str.ofString "test") 463, val := Value.ref 197 }, { hash := PyData.keyHash P (Str.ofString "get_window_stats"), key := Value.str (Str.ofString "get_window_stats") 481, val := Value.ref 206 }, { hash := PyData.keyHash P (Str.ofString "clear"), key := Value.str (Str.ofString "clear") 490, val := Value.ref 215 }, { hash := PyData.keyHash P (Str.ofString "__static_attributes__"), key := Value.str (Str.ofString "__static_attributes__") 491, val := Value.ref 216 }] 1 }
noncomputable abbrev hb218 (P : Params) : Obj := { cls := Value.type "type", data := Data.cls { name := Str.ofString "SlidingWindowCounterRateLimiter", bases := [Value.ref 161], mro := [Value.ref 218, Value.ref 161, Value.type "object"], ns := 217, qualname := Str.ofString "SlidingWindowCounterRateLimiter" }, slots := #[some (Value.ref 166), none, some (Value.str (Str.ofString "SlidingWindowCounterRateLimiter") 409), some (Value.str (Str.ofString "SlidingWindowCounterRateLimiter") 417), some (Value.builtin "object.__new__"), some (Value.bool true)] }
noncomputable abbrev hb219 (P : Params) : Obj := { cls := Value.type "super", data := Data.fields #[Value.ref 218, Value.ref 218, Value.ref 218] }
noncomputable abbrev hb220 (P : Params) : Obj := { cls := Value.type "builtin_function_or_method", data := Data.fields #[Value.builtin "object.__init_subclass__", Value.ref 218] }
noncomputable abbrev hb3x1 (P : Params) : Obj := { cls := Value.type "dict", data := Data.dict #[{ hash := PyData.keyHash P (Str.ofString "__name__"), key := Value.str (Str.ofString "__name__") 165, val := Value.str (Str.ofString "limits.limits") 494 }, { hash := PyData.keyHash P (Str.ofString "__doc__"), key := Value.str (Str.ofString "__doc__") 166, val := Value.none }, { hash := PyData.keyHash P (Str.ofString "__package__"), key := Value.str (Str.ofString "__package__") 167, val := Value.none }, { hash := PyData.keyHash P (Str.ofString "__loader__"), key := Value.str (Str.ofString "__loader__") 168, val := Value.builtin "__main__.__loader__#opaque" }, { hash := PyData.keyHash P (Str.ofString "__spec__"), key := Value.str (Str.ofString "__spec__") 169, val := Value.none }, { hash := PyData.keyHash P (Str.ofString "__annotations__"), key := Value.str (Str.ofString "__annotations__") 170, val := Value.ref 6 }, { hash := PyData.keyHash P (Str.ofString "__builtins__"), key := Value.str (Str.ofString "__builtins__") 171, val := Value.ref 4 }, { hash := PyData.keyHash P (Str.ofString "__file__"), key := Value.str (Str.ofString "__file__") 173, val := Value.str (Str.ofString "/claim/cut.py") 172 }, { hash := PyData.keyHash P (Str.ofString "__cached__"), key := Value.str (Str.ofString "__cached__") 174, val := Value.none }, { hash := PyData.keyHash P (Str.ofString "_wall"), key := Value.str (Str.ofString "_wall") 193, val := Value.ref 21 }, { hash := PyData.keyHash P (Str.ofString "_tuplegetter"), key := Value.str (Str.ofString "_tuplegetter") 252, val := Value.ref 259 }, { hash := PyData.keyHash P (Str.ofString "tuplegetter_util"), key := Value.str (Str.ofString "tuplegetter_util") 253, val := Value.ref 60 }, { hash := PyData.keyHash P (Str.ofString "WindowStats"), key := Value.str (Str.ofString "WindowStats") 368, val := Value.ref 132 }, { hash := PyData.keyHash P (Str.ofString "RateLimiter"), key := Value.str (Str.ofString "RateLimiter") 408, val := Value.ref 161 }, { hash := PyData.keyHash P (Str.ofString "SlidingWindowCounterRateLimiter"), key := Value.str (Str.ofString "SlidingWindowCounterRateLimiter") 493, val := Value.ref 218 }, { hash := PyData.keyHash P (Str.ofString "tuplegetter_limits"), key := Value.str (Str.ofString "tuplegetter_limits") 553, val := Value.ref 259 }, { hash := PyData.keyHash P (Str.ofString "safe_string"), key := Value.str (Str.ofString "safe_string") 561, val := Value.ref 270 }, { hash := PyData.keyHash P (Str.ofString "Granularity"), key := Value.str (Str.ofString "Granularity") 676, val := Value.ref 338 }, { hash := PyData.keyHash P (Str.ofString "RateLimitItem"), key := Value.str (Str.ofString "RateLimitItem") 773, val := Value.ref 404 }] 19 }
noncomputable abbrev hb12x2 (P : Params) : Obj := { cls := Value.none, data := Data.fields #[Value.int 1 0, Value.int 0 0, Value.ref 20, Value.int 5 0, Value.int 0 0, Value.ref 27, Value.int 24 0, Value.int 0 0, Value.ref 71, Value.int 67 0, Value.int 0 0, Value.ref 141, Value.int 74 0, Value.int 0 0, Value.ref 171, Value.int 137 0, Value.int 0 0, Value.ref 226, Value.int 156 0, Value.int 0 0, Value.ref 269, Value.int 163 0, Value.int 0 0, Value.ref 277, Value.int 205 0, Value.int 0 0, Value.ref 347] }
noncomputable abbrev hb221 (P : Params) : Obj := { cls := Value.type "tuple", data := Data.seq #[] }
noncomputable abbrev hb222 (P : Params) : Obj := { cls := Value.type "builtin_function_or_method", data := Data.fields #[Value.builtin "type.__prepare__", Value.type "type"] }
noncomputable abbrev hb223 (P : Params) : Obj := { cls := Value.type "dict", data := Data.dict #[{ hash := PyData.keyHash P (Str.ofString "__module__"), key := Value.str (Str.ofString "__module__") 503, val := Value.str (Str.ofString "limits.limits") 494 }, { hash := PyData.keyHash P (Str.ofString "__qualname__"), key := Value.str (Str.ofString "__qualname__") 505, val := Value.str (Str.ofString "_tuplegetter") 504 }, { hash := PyData.keyHash P (Str.ofString "__firstlineno__"), key := Value.str (Str.ofString "__firstlineno__") 507, val := Value.int 137 506 }, { hash := PyData.keyHash P (Str.ofString "__init__"), key := Value.str (Str.ofString "__init__") 516, val := Value.ref 234 }, { hash := PyData.keyHash P (Str.ofString "__get__"), key := Value.str (Str.ofString "__get__") 525, val := Value.ref 242 }, { hash := PyData.keyHash P (Str.ofString "__set__"), key := Value.str (Str.ofString "__set__") 534, val := Value.ref 249 }, { hash := PyData.keyHash P (Str.ofString "__delete__"), key := Value.str (Str.ofString "__delete__") 542, val := Value.ref 256 }, { hash := PyData.keyHash P (Str.ofString "__static_attributes__"), key := Value.str (Str.ofString "__static_attributes__") 545, val := Value.ref 257 }] 8 }
noncomputable abbrev hb224 (P : Params) : Obj := { cls := Value.type "tuple", data := Data.seq #[] }
noncomputable abbrev hb225 (P : Params) : Obj := { cls := Value.none, data := Data.fields #[Value.int 139 0, Value.int 4 0, Value.ref 233, Value.int 143 0, Value.int 4 0, Value.ref 241, Value.int 150 0, Value.int 4 0, Value.ref 248, Value.int 153 0, Value.int 4 0, Value.ref 255] }
noncomputable abbrev hb226 (P : Params) : Obj := { cls := Value.type "code", data := Data.fields #[Value.str (Str.ofString "_tuplegetter") 498, Value.str (Str.ofString "_tuplegetter") 499, Value.str (Str.ofString "/claim/cut.py") 500, Value.int 137 0, Value.int 0 0, Value.int 0 0, Value.int 0 0, Value.int 0 0, Value.ref 224, Value.bool false, Value.int 181 0, Value.ref 225, Value.none, Value.none, Value.none, Value.none, Value.int 501 0, Value.int 137 0, Value.str (Str.ofString "/claim/cut.py") 502] }
noncomputable abbrev hb227 (P : Params) : Obj := { cls := Value.type "frame", slots := #[some (Value.ref 226), some (Value.ref 3), some (Value.ref 223), none, some (Value.str (Str.ofString "limits.limits") 494), none, some (Value.ref 0)] }
noncomputable abbrev hb228 (P : Params) : Obj := { cls := Value.type "tuple", data := Data.seq #[] }
noncomputable abbrev hb229 (P : Params) : Obj := { cls := Value.none, data := Data.fields #[] }
noncomputable abbrev hb230 (P : Params) : Obj := { cls := Value.type "tuple", data := Data.seq #[Value.str (Str.ofString "self") 511, Value.str (Str.ofString "index") 512, Value.str (Str.ofString "doc") 513] }
noncomputable abbrev hb231 (P : Params) : Obj := { cls := Value.type "tuple", data := Data.seq #[] }
noncomputable abbrev hb232 (P : Params) : Obj := { cls := Value.none, data := Data.func { name := Str.ofString "__init__", qualname := Str.ofString "_tuplegetter.__init__", params := (hdM 9 0).fst, body := (hdM 9 0).snd.fst, scope := (hdM 9 0).snd.snd, globals := 0, closure := [], defaults := Value.none, kwdefaults := Value.none } }
noncomputable abbrev hb233 (P : Params) : Obj := { cls := Value.type "code", data := Data.fields #[Value.str (Str.ofString "__init__") 508, Value.str (Str.ofString "_tuplegetter.__init__") 509, Value.str (Str.ofString "/claim/cut.py") 510, Value.int 139 0, Value.int 3 0, Value.int 0 0, Value.int 0 0, Value.int 3 0, Value.ref 228, Value.bool true, Value.int 181 0, Value.ref 229, Value.none, Value.ref 230, Value.ref 231, Value.ref 232, Value.int 514 0, Value.int 139 0, Value.str (Str.ofString "/claim/cut.py") 515] }
noncomputable abbrev hb234 (P : Params) : Obj := { cls := Value.type "function", data := Data.func { name := Str.ofString "__init__", qualname := Str.ofString "_tuplegetter.__init__", params := (hdM 9 0).fst, body := (hdM 9 0).snd.fst, scope := (hdM 9 0).snd.snd, globals := 3, closure := [], defaults := Value.none, kwdefaults := Value.none, pyModule := Value.str (Str.ofString "limits.limits") 494, code := Value.ref 233 } }
noncomputable abbrev hb235 (P : Params) : Obj := { cls := Value.type "tuple", data := Data.seq #[Value.none] }
noncomputable abbrev hb236 (P : Params) : Obj := { cls := Value.type "tuple", data := Data.seq #[] }
noncomputable abbrev hb237 (P : Params) : Obj := { cls := Value.none, data := Data.fields #[] }
noncomputable abbrev hb238 (P : Params) : Obj := { cls := Value.type "tuple", data := Data.seq #[Value.str (Str.ofString "self") 520, Value.str (Str.ofString "obj") 521, Value.str (Str.ofString "objtype") 522] }
noncomputable abbrev hb239 (P : Params) : Obj := { cls := Value.type "tuple", data := Data.seq #[] }
noncomputable abbrev hb240 (P : Params) : Obj := { cls := Value.none, data := Data.func { name := Str.ofString "__get__", qualname := Str.ofString "_tuplegetter.__get__", params := (hdM 9 1).fst, body := (hdM 9 1).snd.fst, scope := (hdM 9 1).snd.snd, globals := 0, closure := [], defaults := Value.none, kwdefaults := Value.none } }
noncomputable abbrev hb241 (P : Params) : Obj := { cls := Value.type "code", data := Data.fields #[Value.str (Str.ofString "__get__") 517, Value.str (Str.ofString "_tuplegetter.__get__") 518, Value.str (Str.ofString "/claim/cut.py") 519, Value.int 143 0, Value.int 3 0, Value.int 0 0, Value.int 0 0, Value.int 3 0, Value.ref 236, Value.bool true, Value.int 181 0, Value.ref 237, Value.none, Value.ref 238, Value.ref 239, Value.ref 240, Value.int 523 0, Value.int 143 0, Value.str (Str.ofString "/claim/cut.py") 524] }
noncomputable abbrev hb242 (P : Params) : Obj := { cls := Value.type "function", data := Data.func { name := Str.ofString "__get__", qualname := Str.ofString "_tuplegetter.__get__", params := (hdM 9 1).fst, body := (hdM 9 1).snd.fst, scope := (hdM 9 1).snd.snd, globals := 3, closure := [], defaults := Value.ref 235, kwdefaults := Value.none, pyModule := Value.str (Str.ofString "limits.limits") 494, code := Value.ref 241 } }
noncomputable abbrev hb243 (P : Params) : Obj := { cls := Value.type "tuple", data := Data.seq #[] }
noncomputable abbrev hb244 (P : Params) : Obj := { cls := Value.none, data := Data.fields #[] }
noncomputable abbrev hb245 (P : Params) : Obj := { cls := Value.type "tuple", data := Data.seq #[Value.str (Str.ofString "self") 529, Value.str (Str.ofString "obj") 530, Value.str (Str.ofString "value") 531] }
noncomputable abbrev hb246 (P : Params) : Obj := { cls := Value.type "tuple", data := Data.seq #[] }
noncomputable abbrev hb247 (P : Params) : Obj := { cls := Value.none, data := Data.func { name := Str.ofString "__set__", qualname := Str.ofString "_tuplegetter.__set__", params := (hdM 9 2).fst, body := (hdM 9 2).snd.fst, scope := (hdM 9 2).snd.snd, globals := 0, closure := [], defaults := Value.none, kwdefaults := Value.none } }
noncomputable abbrev hb248 (P : Params) : Obj := { cls := Value.type "code", data := Data.fields #[Value.str (Str.ofString "__set__") 526, Value.str (Str.ofString "_tuplegetter.__set__") 527, Value.str (Str.ofString "/claim/cut.py") 528, Value.int 150 0, Value.int 3 0, Value.int 0 0, Value.int 0 0, Value.int 3 0, Value.ref 243, Value.bool true, Value.int 181 0, Value.ref 244, Value.none, Value.ref 245, Value.ref 246, Value.ref 247, Value.int 532 0, Value.int 150 0, Value.str (Str.ofString "/claim/cut.py") 533] }
noncomputable abbrev hb249 (P : Params) : Obj := { cls := Value.type "function", data := Data.func { name := Str.ofString "__set__", qualname := Str.ofString "_tuplegetter.__set__", params := (hdM 9 2).fst, body := (hdM 9 2).snd.fst, scope := (hdM 9 2).snd.snd, globals := 3, closure := [], defaults := Value.none, kwdefaults := Value.none, pyModule := Value.str (Str.ofString "limits.limits") 494, code := Value.ref 248 } }
noncomputable abbrev hb250 (P : Params) : Obj := { cls := Value.type "tuple", data := Data.seq #[] }
noncomputable abbrev hb251 (P : Params) : Obj := { cls := Value.none, data := Data.fields #[] }
noncomputable abbrev hb252 (P : Params) : Obj := { cls := Value.type "tuple", data := Data.seq #[Value.str (Str.ofString "self") 538, Value.str (Str.ofString "obj") 539] }
noncomputable abbrev hb253 (P : Params) : Obj := { cls := Value.type "tuple", data := Data.seq #[] }
noncomputable abbrev hb254 (P : Params) : Obj := { cls := Value.none, data := Data.func { name := Str.ofString "__delete__", qualname := Str.ofString "_tuplegetter.__delete__", params := (hdM 9 3).fst, body := (hdM 9 3).snd.fst, scope := (hdM 9 3).snd.snd, globals := 0, closure := [], defaults := Value.none, kwdefaults := Value.none } }
noncomputable abbrev hb255 (P : Params) : Obj := { cls := Value.type "code", data := Data.fields #[Value.str (Str.ofString "__delete__") 535, Value.str (Str.ofString "_tuplegetter.__delete__") 536, Value.str (Str.ofString "/claim/cut.py") 537, Value.int 153 0, Value.int 2 0, Value.int 0 0, Value.int 0 0, Value.int 3 0, Value.ref 250, Value.bool true, Value.int 181 0, Value.ref 251, Value.none, Value.ref 252, Value.ref 253, Value.ref 254, Value.int 540 0, Value.int 153 0, Value.str (Str.ofString "/claim/cut.py") 541] }
noncomputable abbrev hb256 (P : Params) : Obj := { cls := Value.type "function", data := Data.func { name := Str.ofString "__delete__", qualname := Str.ofString "_tuplegetter.__delete__", params := (hdM 9 3).fst, body := (hdM 9 3).snd.fst, scope := (hdM 9 3).snd.snd, globals := 3, closure := [], defaults := Value.none, kwdefaults := Value.none, pyModule := Value.str (Str.ofString "limits.limits") 494, code := Value.ref 255 } }
noncomputable abbrev hb257 (P : Params) : Obj := { cls := Value.type "tuple", data := Data.seq #[Value.str (Str.ofString "__doc__") 543, Value.str (Str.ofString "index") 544] }
noncomputable abbrev hb258 (P : Params) : Obj := { cls := Value.type "dict", data := Data.dict #[{ hash := PyData.keyHash P (Str.ofString "__module__"), key := Value.str (Str.ofString "__module__") 503, val := Value.str (Str.ofString "limits.limits") 494 }, { hash := PyData.keyHash P (Str.ofString "__firstlineno__"), key := Value.str (Str.ofString "__firstlineno__") 507, val := Value.int 137 506 }, { hash := PyData.keyHash P (Str.ofString "__init__"), key := Value.str (Str.ofString "__init__") 516, val := Value.ref 234 }, { hash := PyData.keyHash P (Str.ofString "__get__"), key := Value.str (Str.ofString "__get__") 525, val := Value.ref 242 }, { hash := PyData.keyHash P (Str.ofString "__set__"), key := Value.str (Str.ofString "__set__") 534, val := Value.ref 249 }, { hash := PyData.keyHash P (Str.ofString "__delete__"), key := Value.str (Str.ofString "__delete__") 542, val := Value.ref 256 }, { hash := PyData.keyHash P (Str.ofString "__static_attributes__"), key := Value.str (Str.ofString "__static_attributes__") 545, val := Value.ref 257 }, { hash := PyData.keyHash P (Str.ofString "__dict__"), key := Value.str (Str.ofString "__dict__") 547, val := Value.ref 260 }, { hash := PyData.keyHash P (Str.ofString "__weakref__"), key := Value.str (Str.ofString "__weakref__") 549, val := Value.ref 261 }, { hash := PyData.keyHash P (Str.ofString "__doc__"), key := Value.str (Str.ofString "__doc__") 550, val := Value.none }] 4 }
noncomputable abbrev hb259 (P : Params) : Obj := { cls := Value.type "type", data := Data.cls { name := Str.ofString "_tuplegetter", bases := [Value.type "object"], mro := [Value.ref 259, Value.type "object"], ns := 258, qualname := Str.ofString "_tuplegetter" }, slots := #[none, none, some (Value.str (Str.ofString "_tuplegetter") 496), some (Value.str (Str.ofString "_tuplegetter") 504), some (Value.builtin "object.__new__"), some (Value.bool true)] }
noncomputable abbrev hb260 (P : Params) : Obj := { cls := Value.type "getset_descriptor", data := Data.fields #[Value.str (Str.ofString "__dict__") 546, Value.ref 259, Value.builtin "function.__dict__", Value.builtin "function.__dict__#set"] }
noncomputable abbrev hb261 (P : Params) : Obj := { cls := Value.type "getset_descriptor", data := Data.fields #[Value.str (Str.ofString "__weakref__") 548, Value.ref 259, Value.builtin "ExceptionGroup.__weakref__", Value.none] }
noncomputable abbrev hb262 (P : Params) : Obj := { cls := Value.type "super", data := Data.fields #[Value.ref 259, Value.ref 259, Value.ref 259] }
noncomputable abbrev hb263 (P : Params) : Obj := { cls := Value.type "builtin_function_or_method", data := Data.fields #[Value.builtin "object.__init_subclass__", Value.ref 259] }
noncomputable abbrev hb264 (P : Params) : Obj := { cls := Value.type "tuple", data := Data.seq #[] }
noncomputable abbrev hb265 (P : Params) : Obj := { cls := Value.none, data := Data.fields #[] }
noncomputable abbrev hb266 (P : Params) : Obj := { cls := Value.type "tuple", data := Data.seq #[Value.str (Str.ofString "value") 557] }
noncomputable abbrev hb267 (P : Params) : Obj := { cls := Value.type "tuple", data := Data.seq #[] }
noncomputable abbrev hb268 (P : Params) : Obj := { cls := Value.none, data := Data.func { name := Str.ofString "safe_string", qualname := Str.ofString "safe_string", params := (hdT 11).fst, body := (hdT 11).snd.fst, scope := (hdT 11).snd.snd, globals := 0, closure := [], defaults := Value.none, kwdefaults := Value.none } }
noncomputable abbrev hb269 (P : Params) : Obj := { cls := Value.type "code", data := Data.fields #[Value.str (Str.ofString "safe_string") 554, Value.str (Str.ofString "safe_string") 555, Value.str (Str.ofString "/claim/cut.py") 556, Value.int 156 0, Value.int 1 0, Value.int 0 0, Value.int 0 0, Value.int 3 0, Value.ref 264, Value.bool true, Value.int 181 0, Value.ref 265, Value.none, Value.ref 266, Value.ref 267, Value.ref 268, Value.int 558 0, Value.int 156 0, Value.str (Str.ofString "/claim/cut.py") 559] }
noncomputable abbrev hb270 (P : Params) : Obj := { cls := Value.type "function", data := Data.func { name := Str.ofString "safe_string", qualname := Str.ofString "safe_string", params := (hdT 11).fst, body := (hdT 11).snd.fst, scope := (hdT 11).snd.snd, globals := 3, closure := [], defaults := Value.none, kwdefaults := Value.none, doc := Value.str ((hdDoc (hdT 11).snd.fst).getD default) 560, pyModule := Value.str (Str.ofString "limits.limits") 494, code := Value.ref 269 } }
noncomputable abbrev hb271 (P : Params) : Obj := { cls := Value.type "tuple", data := Data.seq #[Value.type "tuple"] }
noncomputable abbrev hb272 (P : Params) : Obj := { cls := Value.type "builtin_function_or_method", data := Data.fields #[Value.builtin "type.__prepare__", Value.type "type"] }
noncomputable abbrev hb273 (P : Params) : Obj := { cls := Value.type "dict", data := Data.dict #[{ hash := PyData.keyHash P (Str.ofString "__module__"), key := Value.str (Str.ofString "__module__") 569, val := Value.str (Str.ofString "limits.limits") 494 }, { hash := PyData.keyHash P (Str.ofString "__qualname__"), key := Value.str (Str.ofString "__qualname__") 571, val := Value.str (Str.ofString "Granularity") 570 }, { hash := PyData.keyHash P (Str.ofString "__firstlineno__"), key := Value.str (Str.ofString "__firstlineno__") 573, val := Value.int 163 572 }, { hash := PyData.keyHash P (Str.ofString "__doc__"), key := Value.str (Str.ofString "__doc__") 575, val := Value.str ((hdCDoc 12).getD default) 574 }, { hash := PyData.keyHash P (Str.ofString "__slots__"), key := Value.str (Str.ofString "__slots__") 577, val := Value.ref 279 }, { hash := PyData.keyHash P (Str.ofString "_fields"), key := Value.str (Str.ofString "_fields") 580, val := Value.ref 280 }, { hash := PyData.keyHash P (Str.ofString "_field_defaults"), key := Value.str (Str.ofString "_field_defaults") 581, val := Value.ref 281 }, { hash := PyData.keyHash P (Str.ofString "__new__"), key := Value.str (Str.ofString "__new__") 591, val := Value.ref 288 }, { hash := PyData.keyHash P (Str.ofString "_make"), key := Value.str (Str.ofString "_make") 613, val := Value.ref 297 }, { hash := PyData.keyHash P (Str.ofString "_replace"), key := Value.str (Str.ofString "_replace") 624, val := Value.ref 306 }, { hash := PyData.keyHash P (Str.ofString "__replace__"), key := Value.str (Str.ofString "__replace__") 625, val := Value.ref 306 }, { hash := PyData.keyHash P (Str.ofString "__repr__"), key := Value.str (Str.ofString "__repr__") 633, val := Value.ref 313 }, { hash := PyData.keyHash P (Str.ofString "_asdict"), key := Value.str (Str.ofString "_asdict") 640, val := Value.ref 320 }, { hash := PyData.keyHash P (Str.ofString "__getnewargs__"), key := Value.str (Str.ofString "__getnewargs__") 648, val := Value.ref 327 }, { hash := PyData.keyHash P (Str.ofString "__match_args__"), key := Value.str (Str.ofString "__match_args__") 651, val := Value.ref 328 }, { hash := PyData.keyHash P (Str.ofString "seconds"), key := Value.str (Str.ofString "seconds") 661, val := Value.ref 330 }, { hash := PyData.keyHash P (Str.ofString "name"), key := Value.str (Str.ofString "name") 671, val := Value.ref 333 }, { hash := PyData.keyHash P (Str.ofString "__static_attributes__"), key := Value.str (Str.ofString "__static_attributes__") 672, val := Value.ref 335 }, { hash := PyData.keyHash P (Str.ofString "__classcell__"), key := Value.str (Str.ofString "__classcell__") 673, val := Value.ref 274 }] 19 }
noncomputable abbrev hb274 (P : Params) : Obj := { cls := Value.type "cell", data := Data.cell (some (Value.ref 338)) }
noncomputable abbrev hb275 (P : Params) : Obj := { cls := Value.type "tuple", data := Data.seq #[] }
noncomputable abbrev hb276 (P : Params) : Obj := { cls := Value.none, data := Data.fields #[Value.int 169 0, Value.int 4 0, Value.ref 287, Value.int 174 0, Value.int 4 0, Value.ref 294, Value.int 181 0, Value.int 4 0, Value.ref 305, Value.int 192 0, Value.int 4 0, Value.ref 312, Value.int 196 0, Value.int 4 0, Value.ref 319, Value.int 199 0, Value.int 4 0, Value.ref 326] }
noncomputable abbrev hb277 (P : Params) : Obj := { cls := Value.type "code", data := Data.fields #[Value.str (Str.ofString "Granularity") 564, Value.str (Str.ofString "Granularity") 565, Value.str (Str.ofString "/claim/cut.py") 566, Value.int 163 0, Value.int 0 0, Value.int 0 0, Value.int 0 0, Value.int 0 0, Value.ref 275, Value.bool false, Value.int 181 0, Value.ref 276, Value.none, Value.none, Value.none, Value.none, Value.int 567 0, Value.int 163 0, Value.str (Str.ofString "/claim/cut.py") 568] }
noncomputable abbrev hb278 (P : Params) : Obj := { cls := Value.type "frame", slots := #[some (Value.ref 277), some (Value.ref 3), some (Value.ref 273), none, some (Value.str (Str.ofString "limits.limits") 494), none, some (Value.ref 0)] }
noncomputable abbrev hb279 (P : Params) : Obj := { cls := Value.type "tuple", data := Data.seq #[] }
noncomputable abbrev hb280 (P : Params) : Obj := { cls := Value.type "tuple", data := Data.seq #[Value.str (Str.ofString "seconds") 578, Value.str (Str.ofString "name") 579] }
noncomputable abbrev hb281 (P : Params) : Obj := { cls := Value.type "dict", data := Data.dict #[] }
noncomputable abbrev hb282 (P : Params) : Obj := { cls := Value.type "tuple", data := Data.seq #[] }
noncomputable abbrev hb283 (P : Params) : Obj := { cls := Value.none, data := Data.fields #[] }
noncomputable abbrev hb284 (P : Params) : Obj := { cls := Value.type "tuple", data := Data.seq #[Value.str (Str.ofString "_cls") 585, Value.str (Str.ofString "seconds") 586, Value.str (Str.ofString "name") 587] }
noncomputable abbrev hb285 (P : Params) : Obj := { cls := Value.type "tuple", data := Data.seq #[] }
noncomputable abbrev hb286 (P : Params) : Obj := { cls := Value.none, data := Data.func { name := Str.ofString "__new__", qualname := Str.ofString "Granularity.__new__", params := (hdM 12 4).fst, body := (hdM 12 4).snd.fst, scope := (hdM 12 4).snd.snd, globals := 0, closure := [], defaults := Value.none, kwdefaults := Value.none } }
noncomputable abbrev hb287 (P : Params) : Obj := { cls := Value.type "code", data := Data.fields #[Value.str (Str.ofString "__new__") 582, Value.str (Str.ofString "Granularity.__new__") 583, Value.str (Str.ofString "/claim/cut.py") 584, Value.int 169 0, Value.int 3 0, Value.int 0 0, Value.int 0 0, Value.int 3 0, Value.ref 282, Value.bool true, Value.int 181 0, Value.ref 283, Value.none, Value.ref 284, Value.ref 285, Value.ref 286, Value.int 588 0, Value.int 169 0, Value.str (Str.ofString "/claim/cut.py") 589] }
noncomputable abbrev hb288 (P : Params) : Obj := { cls := Value.type "function", data := Data.func { name := Str.ofString "__new__", qualname := Str.ofString "Granularity.__new__", params := (hdM 12 4).fst, body := (hdM 12 4).snd.fst, scope := (hdM 12 4).snd.snd, globals := 3, closure := [], defaults := Value.none, kwdefaults := Value.none, doc := Value.str ((hdDoc (hdM 12 4).snd.fst).getD default) 590, pyModule := Value.str (Str.ofString "limits.limits") 494, code := Value.ref 287 } }
noncomputable abbrev hb289 (P : Params) : Obj := { cls := Value.type "tuple", data := Data.seq #[] }
noncomputable abbrev hb290 (P : Params) : Obj := { cls := Value.none, data := Data.fields #[] }
noncomputable abbrev hb291 (P : Params) : Obj := { cls := Value.type "tuple", data := Data.seq #[Value.str (Str.ofString "cls") 595, Value.str (Str.ofString "iterable") 596, Value.str (Str.ofString "result") 597] }
noncomputable abbrev hb292 (P : Params) : Obj := { cls := Value.type "tuple", data := Data.seq #[] }
noncomputable abbrev hb293 (P : Params) : Obj := { cls := Value.none, data := Data.func { name := Str.ofString "_make", qualname := Str.ofString "Granularity._make", params := (hdM 12 5).fst, body := (hdM 12 5).snd.fst, scope := (hdM 12 5).snd.snd, globals := 0, closure := [], defaults := Value.none, kwdefaults := Value.none } }
noncomputable abbrev hb294 (P : Params) : Obj := { cls := Value.type "code", data := Data.fields #[Value.str (Str.ofString "_make") 592, Value.str (Str.ofString "Granularity._make") 593, Value.str (Str.ofString "/claim/cut.py") 594, Value.int 173 0, Value.int 2 0, Value.int 0 0, Value.int 0 0, Value.int 3 0, Value.ref 289, Value.bool true, Value.int 181 0, Value.ref 290, Value.none, Value.ref 291, Value.ref 292, Value.ref 293, Value.int 598 0, Value.int 173 0, Value.str (Str.ofString "/claim/cut.py") 599] }
noncomputable abbrev hb295 (P : Params) : Obj := { cls := Value.type "function", data := Data.func { name := Str.ofString "_make", qualname := Str.ofString "Granularity._make", params := (hdM 12 5).fst, body := (hdM 12 5).snd.fst, scope := (hdM 12 5).snd.snd, globals := 3, closure := [], defaults := Value.none, kwdefaults := Value.none, doc := Value.str ((hdDoc (hdM 12 5).snd.fst).getD default) 600, pyModule := Value.str (Str.ofString "limits.limits") 494, annotations := some 298, code := Value.ref 294 } }
noncomputable abbrev hb296 (P : Params) : Obj := { cls := Value.type "dict", data := Data.dict #[{ hash := PyData.keyHash P (Str.ofString "__module__"), key := Value.str (Str.ofString "__module__") 602, val := Value.str (Str.ofString "limits.limits") 494 }, { hash := PyData.keyHash P (Str.ofString "__name__"), key := Value.str (Str.ofString "__name__") 605, val := Value.str (Str.ofString "_make") 604 }, { hash := PyData.keyHash P (Str.ofString "__qualname__"), key := Value.str (Str.ofString "__qualname__") 608, val := Value.str (Str.ofString "Granularity._make") 607 }, { hash := PyData.keyHash P (Str.ofString "__doc__"), key := Value.str (Str.ofString "__doc__") 610, val := Value.str ((hdDoc (hdM 12 5).snd.fst).getD default) 600 }, { hash := PyData.keyHash P (Str.ofString "__annotations__"), key := Value.str (Str.ofString "__annotations__") 612, val := Value.ref 298 }] 5 }
noncomputable abbrev hb297 (P : Params) : Obj := { cls := Value.type "classmethod", dict := some 296, data := Data.fields #[Value.ref 295, Value.bool false] }
noncomputable abbrev hb298 (P : Params) : Obj := { cls := Value.type "dict", data := Data.dict #[] }
noncomputable abbrev hb299 (P : Params) : Obj := { cls := Value.type "tuple", data := Data.seq #[Value.ref 274] }
noncomputable abbrev hb300 (P : Params) : Obj := { cls := Value.type "tuple", data := Data.seq #[Value.str (Str.ofString "__class__") 617] }
noncomputable abbrev hb301 (P : Params) : Obj := { cls := Value.none, data := Data.fields #[] }
noncomputable abbrev hb302 (P : Params) : Obj := { cls := Value.type "tuple", data := Data.seq #[Value.str (Str.ofString "self") 618, Value.str (Str.ofString "kwds") 619, Value.str (Str.ofString "result") 620] }
noncomputable abbrev hb303 (P : Params) : Obj := { cls := Value.type "tuple", data := Data.seq #[] }
noncomputable abbrev hb304 (P : Params) : Obj := { cls := Value.none, data := Data.func { name := Str.ofString "_replace", qualname := Str.ofString "Granularity._replace", params := (hdM 12 6).fst, body := (hdM 12 6).snd.fst, scope := (hdM 12 6).snd.snd, globals := 0, closure := [], defaults := Value.none, kwdefaults := Value.none } }
noncomputable abbrev hb305 (P : Params) : Obj := { cls := Value.type "code", data := Data.fields #[Value.str (Str.ofString "_replace") 614, Value.str (Str.ofString "Granularity._replace") 615, Value.str (Str.ofString "/claim/cut.py") 616, Value.int 181 0, Value.int 1 0, Value.int 1 0, Value.int 0 0, Value.int 11 0, Value.ref 300, Value.bool true, Value.int 181 0, Value.ref 301, Value.none, Value.ref 302, Value.ref 303, Value.ref 304, Value.int 621 0, Value.int 181 0, Value.str (Str.ofString "/claim/cut.py") 622] }
noncomputable abbrev hb306 (P : Params) : Obj := { cls := Value.type "function", data := Data.func { name := Str.ofString "_replace", qualname := Str.ofString "Granularity._replace", params := (hdM 12 6).fst, body := (hdM 12 6).snd.fst, scope := (hdM 12 6).snd.snd, globals := 3, closure := [(Str.ofString "__class__", 274)], defaults := Value.none, kwdefaults := Value.none, doc := Value.str ((hdDoc (hdM 12 6).snd.fst).getD default) 623, pyModule := Value.str (Str.ofString "limits.limits") 494, code := Value.ref 305, closureTuple := Value.ref 299 } }
noncomputable abbrev hb307 (P : Params) : Obj := { cls := Value.type "tuple", data := Data.seq #[] }
noncomputable abbrev hb308 (P : Params) : Obj := { cls := Value.none, data := Data.fields #[] }
noncomputable abbrev hb309 (P : Params) : Obj := { cls := Value.type "tuple", data := Data.seq #[Value.str (Str.ofString "self") 629] }
noncomputable abbrev hb310 (P : Params) : Obj := { cls := Value.type "tuple", data := Data.seq #[] }
noncomputable abbrev hb311 (P : Params) : Obj := { cls := Value.none, data := Data.func { name := Str.ofString "__repr__", qualname := Str.ofString "Granularity.__repr__", params := (hdM 12 8).fst, body := (hdM 12 8).snd.fst, scope := (hdM 12 8).snd.snd, globals := 0, closure := [], defaults := Value.none, kwdefaults := Value.none } }
noncomputable abbrev hb312 (P : Params) : Obj := { cls := Value.type "code", data := Data.fields #[Value.str (Str.ofString "__repr__") 626, Value.str (Str.ofString "Granularity.__repr__") 627, Value.str (Str.ofString "/claim/cut.py") 628, Value.int 192 0, Value.int 1 0, Value.int 0 0, Value.int 0 0, Value.int 3 0, Value.ref 307, Value.bool true, Value.int 181 0, Value.ref 308, Value.none, Value.ref 309, Value.ref 310, Value.ref 311, Value.int 630 0, Value.int 192 0, Value.str (Str.ofString "/claim/cut.py") 631] }
noncomputable abbrev hb313 (P : Params) : Obj := { cls := Value.type "function", data := Data.func { name := Str.ofString "__repr__", qualname := Str.ofString "Granularity.__repr__", params := (hdM 12 8).fst, body := (hdM 12 8).snd.fst, scope := (hdM 12 8).snd.snd, globals := 3, closure := [], defaults := Value.none, kwdefaults := Value.none, doc := Value.str ((hdDoc (hdM 4 8).snd.fst).getD default) 632, pyModule := Value.str (Str.ofString "limits.limits") 494, code := Value.ref 312 } }
noncomputable abbrev hb314 (P : Params) : Obj := { cls := Value.type "tuple", data := Data.seq #[] }
noncomputable abbrev hb315 (P : Params) : Obj := { cls := Value.none, data := Data.fields #[] }
noncomputable abbrev hb316 (P : Params) : Obj := { cls := Value.type "tuple", data := Data.seq #[Value.str (Str.ofString "self") 637] }
noncomputable abbrev hb317 (P : Params) : Obj := { cls := Value.type "tuple", data := Data.seq #[] }
noncomputable abbrev hb318 (P : Params) : Obj := { cls := Value.none, data := Data.func { name := Str.ofString "_asdict", qualname := Str.ofString "Granularity._asdict", params := (hdM 12 9).fst, body := (hdM 12 9).snd.fst, scope := (hdM 12 9).snd.snd, globals := 0, closure := [], defaults := Value.none, kwdefaults := Value.none } }
noncomputable abbrev hb319 (P : Params) : Obj := { cls := Value.type "code", data := Data.fields #[Value.str (Str.ofString "_asdict") 634, Value.str (Str.ofString "Granularity._asdict") 635, Value.str (Str.ofString "/claim/cut.py") 636, Value.int 196 0, Value.int 1 0, Value.int 0 0, Value.int 0 0, Value.int 3 0, Value.ref 314, Value.bool true, Value.int 181 0, Value.ref 315, Value.none, Value.ref 316, Value.ref 317, Value.ref 318, Value.int 638 0, Value.int 196 0, Value.str (Str.ofString "/claim/cut.py") 639] }
noncomputable abbrev hb320 (P : Params) : Obj := { cls := Value.type "function", data := Data.func { name := Str.ofString "_asdict", qualname := Str.ofString "Granularity._asdict", params := (hdM 12 9).fst, body := (hdM 12 9).snd.fst, scope := (hdM 12 9).snd.snd, globals := 3, closure := [], defaults := Value.none, kwdefaults := Value.none, pyModule := Value.str (Str.ofString "limits.limits") 494, code := Value.ref 319 } }
noncomputable abbrev hb321 (P : Params) : Obj := { cls := Value.type "tuple", data := Data.seq #[] }
noncomputable abbrev hb322 (P : Params) : Obj := { cls := Value.none, data := Data.fields #[] }
noncomputable abbrev hb323 (P : Params) : Obj := { cls := Value.type "tuple", data := Data.seq #[Value.str (Str.ofString "self") 644] }
noncomputable abbrev hb324 (P : Params) : Obj := { cls := Value.type "tuple", data := Data.seq #[] }
noncomputable abbrev hb325 (P : Params) : Obj := { cls := Value.none, data := Data.func { name := Str.ofString "__getnewargs__", qualname := Str.ofString "Granularity.__getnewargs__", params := (hdM 12 10).fst, body := (hdM 12 10).snd.fst, scope := (hdM 12 10).snd.snd, globals := 0, closure := [], defaults := Value.none, kwdefaults := Value.none } }
noncomputable abbrev hb326 (P : Params) : Obj := { cls := Value.type "code", data := Data.fields #[Value.str (Str.ofString "__getnewargs__") 641, Value.str (Str.ofString "Granularity.__getnewargs__") 642, Value.str (Str.ofString "/claim/cut.py") 643, Value.int 199 0, Value.int 1 0, Value.int 0 0, Value.int 0 0, Value.int 3 0, Value.ref 321, Value.bool true, Value.int 181 0, Value.ref 322, Value.none, Value.ref 323, Value.ref 324, Value.ref 325, Value.int 645 0, Value.int 199 0, Value.str (Str.ofString "/claim/cut.py") 646] }
noncomputable abbrev hb327 (P : Params) : Obj := { cls := Value.type "function", data := Data.func { name := Str.ofString "__getnewargs__", qualname := Str.ofString "Granularity.__getnewargs__", params := (hdM 12 10).fst, body := (hdM 12 10).snd.fst, scope := (hdM 12 10).snd.snd, globals := 3, closure := [], defaults := Value.none, kwdefaults := Value.none, doc := Value.str ((hdDoc (hdM 4 10).snd.fst).getD default) 647, pyModule := Value.str (Str.ofString "limits.limits") 494, code := Value.ref 326 } }
noncomputable abbrev hb328 (P : Params) : Obj := { cls := Value.type "tuple", data := Data.seq #[Value.str (Str.ofString "seconds") 649, Value.str (Str.ofString "name") 650] }
noncomputable abbrev hb329 (P : Params) : Obj := { cls := Value.type "dict", data := Data.dict #[{ hash := PyData.keyHash P (Str.ofString "index"), key := Value.str (Str.ofString "index") 658, val := Value.int 0 652 }, { hash := PyData.keyHash P (Str.ofString "__doc__"), key := Value.str (Str.ofString "__doc__") 660, val := Value.str (Str.ofString "Alias for field number 0") 653 }] 2 }
noncomputable abbrev hb330 (P : Params) : Obj := { cls := Value.ref 259, dict := some 329 }
noncomputable abbrev hb331 (P : Params) : Obj := { cls := Value.type "frame", data := Data.dict #[{ hash := PyData.keyHash P (Str.ofString "self"), key := Value.str (Str.ofString "self") 654, val := Value.ref 330 }, { hash := PyData.keyHash P (Str.ofString "index"), key := Value.str (Str.ofString "index") 655, val := Value.int 0 652 }, { hash := PyData.keyHash P (Str.ofString "doc"), key := Value.str (Str.ofString "doc") 656, val := Value.str (Str.ofString "Alias for field number 0") 653 }] 3 }
noncomputable abbrev hb332 (P : Params) : Obj := { cls := Value.type "dict", data := Data.dict #[{ hash := PyData.keyHash P (Str.ofString "index"), key := Value.str (Str.ofString "index") 668, val := Value.int 1 662 }, { hash := PyData.keyHash P (Str.ofString "__doc__"), key := Value.str (Str.ofString "__doc__") 670, val := Value.str (Str.ofString "Alias for field number 1") 663 }] 2 }
noncomputable abbrev hb333 (P : Params) : Obj := { cls := Value.ref 259, dict := some 332 }
noncomputable abbrev hb334 (P : Params) : Obj := { cls := Value.type "frame", data := Data.dict #[{ hash := PyData.keyHash P (Str.ofString "self"), key := Value.str (Str.ofString "self") 664, val := Value.ref 333 }, { hash := PyData.keyHash P (Str.ofString "index"), key := Value.str (Str.ofString "index") 665, val := Value.int 1 662 }, { hash := PyData.keyHash P (Str.ofString "doc"), key := Value.str (Str.ofString "doc") 666, val := Value.str (Str.ofString "Alias for field number 1") 663 }] 3 }
noncomputable abbrev hb335 (P : Params) : Obj := { cls := Value.type "tuple", data := Data.seq #[] }
noncomputable abbrev hb336 (P : Params) : Obj := { cls := Value.type "list", data := Data.seq #[] }
noncomputable abbrev hb337 (P : Params) : Obj := { cls := Value.type "dict", data := Data.dict #[{ hash := PyData.keyHash P (Str.ofString "__module__"), key := Value.str (Str.ofString "__module__") 569, val := Value.str (Str.ofString "limits.limits") 494 }, { hash := PyData.keyHash P (Str.ofString "__firstlineno__"), key := Value.str (Str.ofString "__firstlineno__") 573, val := Value.int 163 572 }, { hash := PyData.keyHash P (Str.ofString "__doc__"), key := Value.str (Str.ofString "__doc__") 575, val := Value.str ((hdCDoc 12).getD default) 574 }, { hash := PyData.keyHash P (Str.ofString "__slots__"), key := Value.str (Str.ofString "__slots__") 577, val := Value.ref 279 }, { hash := PyData.keyHash P (Str.ofString "_fields"), key := Value.str (Str.ofString "_fields") 580, val := Value.ref 280 }, { hash := PyData.keyHash P (Str.ofString "_field_defaults"), key := Value.str (Str.ofString "_field_defaults") 581, val := Value.ref 281 }, { hash := PyData.keyHash P (Str.ofString "__new__"), key := Value.str (Str.ofString "__new__") 591, val := Value.ref 339 }, { hash := PyData.keyHash P (Str.ofString "_make"), key := Value.str (Str.ofString "_make") 613, val := Value.ref 297 }, { hash := PyData.keyHash P (Str.ofString "_replace"), key := Value.str (Str.ofString "_replace") 624, val := Value.ref 306 }, { hash := PyData.keyHash P (Str.ofString "__replace__"), key := Value.str (Str.ofString "__replace__") 625, val := Value.ref 306 }, { hash := PyData.keyHash P (Str.ofString "__repr__"), key := Value.str (Str.ofString "__repr__") 633, val := Value.ref 313 }, { hash := PyData.keyHash P (Str.ofString "_asdict"), key := Value.str (Str.ofString "_asdict") 640, val := Value.ref 320 }, { hash := PyData.keyHash P (Str.ofString "__getnewargs__"), key := Value.str (Str.ofString "__getnewargs__") 648, val := Value.ref 327 }, { hash := PyData.keyHash P (Str.ofString "__match_args__"), key := Value.str (Str.ofString "__match_args__") 651, val := Value.ref 328 }, { hash := PyData.keyHash P (Str.ofString "seconds"), key := Value.str (Str.ofString "seconds") 661, val := Value.ref 330 }, { hash := PyData.keyHash P (Str.ofString "name"), key := Value.str (Str.ofString "name") 671, val := Value.ref 333 }, { hash := PyData.keyHash P (Str.ofString "__static_attributes__"), key := Value.str (Str.ofString "__static_attributes__") 672, val := Value.ref 335 }] 2 }
noncomputable abbrev hb338 (P : Params) : Obj := { cls := Value.type "type", data := Data.cls { name := Str.ofString "Granularity", bases := [Value.type "tuple"], mro := [Value.ref 338, Value.type "tuple", Value.type "object"], ns := 337, qualname := Str.ofString "Granularity", hasDict := false }, slots := #[some (Value.ref 271), none, some (Value.str (Str.ofString "Granularity") 562), some (Value.str (Str.ofString "Granularity") 570), some Value.none, some (Value.bool false)] }
noncomputable abbrev hb339 (P : Params) : Obj := { cls := Value.type "staticmethod", data := Data.fields #[Value.ref 288] }
noncomputable abbrev hb340 (P : Params) : Obj := { cls := Value.type "super", data := Data.fields #[Value.ref 338, Value.ref 338, Value.ref 338] }
noncomputable abbrev hb341 (P : Params) : Obj := { cls := Value.type "builtin_function_or_method", data := Data.fields #[Value.builtin "object.__init_subclass__", Value.ref 338] }
noncomputable abbrev hb342 (P : Params) : Obj := { cls := Value.type "tuple", data := Data.seq #[] }
noncomputable abbrev hb343 (P : Params) : Obj := { cls := Value.type "builtin_function_or_method", data := Data.fields #[Value.builtin "type.__prepare__", Value.type "type"] }
noncomputable abbrev hb344 (P : Params) : Obj := { cls := Value.type "dict", data := Data.dict #[{ hash := PyData.keyHash P (Str.ofString "__module__"), key := Value.str (Str.ofString "__module__") 684, val := Value.str (Str.ofString "limits.limits") 494 }, { hash := PyData.keyHash P (Str.ofString "__qualname__"), key := Value.str (Str.ofString "__qualname__") 686, val := Value.str (Str.ofString "RateLimitItem") 685 }, { hash := PyData.keyHash P (Str.ofString "__firstlineno__"), key := Value.str (Str.ofString "__firstlineno__") 688, val := Value.int 205 687 }, { hash := PyData.keyHash P (Str.ofString "__doc__"), key := Value.str (Str.ofString "__doc__") 690, val := Value.str ((hdCDoc 13).getD default) 689 }, { hash := PyData.keyHash P (Str.ofString "__init__"), key := Value.str (Str.ofString "__init__") 704, val := Value.ref 356 }, { hash := PyData.keyHash P (Str.ofString "check_granularity_string"), key := Value.str (Str.ofString "check_granularity_string") 724, val := Value.ref 365 }, { hash := PyData.keyHash P (Str.ofString "get_expiry"), key := Value.str (Str.ofString "get_expiry") 732, val := Value.ref 373 }, { hash := PyData.keyHash P (Str.ofString "key_for"), key := Value.str (Str.ofString "key_for") 739, val := Value.ref 380 }, { hash := PyData.keyHash P (Str.ofString "__eq__"), key := Value.str (Str.ofString "__eq__") 747, val := Value.ref 387 }, { hash := PyData.keyHash P (Str.ofString "__repr__"), key := Value.str (Str.ofString "__repr__") 754, val := Value.ref 394 }, { hash := PyData.keyHash P (Str.ofString "__lt__"), key := Value.str (Str.ofString "__lt__") 762, val := Value.ref 401 }, { hash := PyData.keyHash P (Str.ofString "__static_attributes__"), key := Value.str (Str.ofString "__static_attributes__") 766, val := Value.ref 402 }] 12 }
noncomputable abbrev hb345 (P : Params) : Obj := { cls := Value.type "tuple", data := Data.seq #[] }
noncomputable abbrev hb346 (P : Params) : Obj := { cls := Value.none, data := Data.fields #[Value.int 217 0, Value.int 4 0, Value.ref 355, Value.int 223 0, Value.int 4 0, Value.ref 362, Value.int 226 0, Value.int 4 0, Value.ref 372, Value.int 232 0, Value.int 4 0, Value.ref 379, Value.int 244 0, Value.int 4 0, Value.ref 386, Value.int 249 0, Value.int 4 0, Value.ref 393, Value.int 252 0, Value.int 4 0, Value.ref 400] }
noncomputable abbrev hb347 (P : Params) : Obj := { cls := Value.type "code", data := Data.fields #[Value.str (Str.ofString "RateLimitItem") 679, Value.str (Str.ofString "RateLimitItem") 680, Value.str (Str.ofString "/claim/cut.py") 681, Value.int 205 0, Value.int 0 0, Value.int 0 0, Value.int 0 0, Value.int 0 0, Value.ref 345, Value.bool false, Value.int 181 0, Value.ref 346, Value.none, Value.none, Value.none, Value.none, Value.int 682 0, Value.int 205 0, Value.str (Str.ofString "/claim/cut.py") 683] }
noncomputable abbrev hb348 (P : Params) : Obj := { cls := Value.type "frame", slots := #[some (Value.ref 347), some (Value.ref 3), some (Value.ref 344), none, some (Value.str (Str.ofString "limits.limits") 494), none, some (Value.ref 0)] }
noncomputable abbrev hb349 (P : Params) : Obj := { cls := Value.type "tuple", data := Data.seq #[Value.int 1 693, Value.str (Str.ofString "LIMITER") 694] }
noncomputable abbrev hb350 (P : Params) : Obj := { cls := Value.type "tuple", data := Data.seq #[] }
noncomputable abbrev hb351 (P : Params) : Obj := { cls := Value.none, data := Data.fields #[] }
noncomputable abbrev hb352 (P : Params) : Obj := { cls := Value.type "tuple", data := Data.seq #[Value.str (Str.ofString "self") 698, Value.str (Str.ofString "amount") 699, Value.str (Str.ofString "multiples") 700, Value.str (Str.ofString "namespace") 701] }
noncomputable abbrev hb353 (P : Params) : Obj := { cls := Value.type "tuple", data := Data.seq #[] }
noncomputable abbrev hb354 (P : Params) : Obj := { cls := Value.none, data := Data.func { name := Str.ofString "__init__", qualname := Str.ofString "RateLimitItem.__init__", params := (hdM 13 2).fst, body := (hdM 13 2).snd.fst, scope := (hdM 13 2).snd.snd, globals := 0, closure := [], defaults := Value.none, kwdefaults := Value.none } }
noncomputable abbrev hb355 (P : Params) : Obj := { cls := Value.type "code", data := Data.fields #[Value.str (Str.ofString "__init__") 695, Value.str (Str.ofString "RateLimitItem.__init__") 696, Value.str (Str.ofString "/claim/cut.py") 697, Value.int 217 0, Value.int 4 0, Value.int 0 0, Value.int 0 0, Value.int 3 0, Value.ref 350, Value.bool true, Value.int 181 0, Value.ref 351, Value.none, Value.ref 352, Value.ref 353, Value.ref 354, Value.int 702 0, Value.int 217 0, Value.str (Str.ofString "/claim/cut.py") 703] }
noncomputable abbrev hb356 (P : Params) : Obj := { cls := Value.type "function", data := Data.func { name := Str.ofString "__init__", qualname := Str.ofString "RateLimitItem.__init__", params := (hdM 13 2).fst, body := (hdM 13 2).snd.fst, scope := (hdM 13 2).snd.snd, globals := 3, closure := [], defaults := Value.ref 349, kwdefaults := Value.none, pyModule := Value.str (Str.ofString "limits.limits") 494, code := Value.ref 355 } }
noncomputable abbrev hb357 (P : Params) : Obj := { cls := Value.type "tuple", data := Data.seq #[] }
noncomputable abbrev hb358 (P : Params) : Obj := { cls := Value.none, data := Data.fields #[] }
noncomputable abbrev hb359 (P : Params) : Obj := { cls := Value.type "tuple", data := Data.seq #[Value.str (Str.ofString "cls") 708, Value.str (Str.ofString "granularity_string") 709] }
noncomputable abbrev hb360 (P : Params) : Obj := { cls := Value.type "tuple", data := Data.seq #[] }
noncomputable abbrev hb361 (P : Params) : Obj := { cls := Value.none, data := Data.func { name := Str.ofString "check_granularity_string", qualname := Str.ofString "RateLimitItem.check_granularity_string", params := (hdM 13 3).fst, body := (hdM 13 3).snd.fst, scope := (hdM 13 3).snd.snd, globals := 0, closure := [], defaults := Value.none, kwdefaults := Value.none } }
noncomputable abbrev hb362 (P : Params) : Obj := { cls := Value.type "code", data := Data.fields #[Value.str (Str.ofString "check_granularity_string") 705, Value.str (Str.ofString "RateLimitItem.check_granularity_string") 706, Value.str (Str.ofString "/claim/cut.py") 707, Value.int 222 0, Value.int 2 0, Value.int 0 0, Value.int 0 0, Value.int 3 0, Value.ref 357, Value.bool true, Value.int 181 0, Value.ref 358, Value.none, Value.ref 359, Value.ref 360, Value.ref 361, Value.int 710 0, Value.int 222 0, Value.str (Str.ofString "/claim/cut.py") 711] }
noncomputable abbrev hb363 (P : Params) : Obj := { cls := Value.type "function", data := Data.func { name := Str.ofString "check_granularity_string", qualname := Str.ofString "RateLimitItem.check_granularity_string", params := (hdM 13 3).fst, body := (hdM 13 3).snd.fst, scope := (hdM 13 3).snd.snd, globals := 3, closure := [], defaults := Value.none, kwdefaults := Value.none, pyModule := Value.str (Str.ofString "limits.limits") 494, annotations := some 366, code := Value.ref 362 } }
noncomputable abbrev hb364 (P : Params) : Obj := { cls := Value.type "dict", data := Data.dict #[{ hash := PyData.keyHash P (Str.ofString "__module__"), key := Value.str (Str.ofString "__module__") 713, val := Value.str (Str.ofString "limits.limits") 494 }, { hash := PyData.keyHash P (Str.ofString "__name__"), key := Value.str (Str.ofString "__name__") 716, val := Value.str (Str.ofString "check_granularity_string") 715 }, { hash := PyData.keyHash P (Str.ofString "__qualname__"), key := Value.str (Str.ofString "__qualname__") 719, val := Value.str (Str.ofString "RateLimitItem.check_granularity_string") 718 }, { hash := PyData.keyHash P (Str.ofString "__doc__"), key := Value.str (Str.ofString "__doc__") 721, val := Value.none }, { hash := PyData.keyHash P (Str.ofString "__annotations__"), key := Value.str (Str.ofString "__annotations__") 723, val := Value.ref 366 }] 5 }
noncomputable abbrev hb365 (P : Params) : Obj := { cls := Value.type "classmethod", dict := some 364, data := Data.fields #[Value.ref 363, Value.bool false] }
noncomputable abbrev hb366 (P : Params) : Obj := { cls := Value.type "dict", data := Data.dict #[] }
noncomputable abbrev hb367 (P : Params) : Obj := { cls := Value.type "tuple", data := Data.seq #[] }
noncomputable abbrev hb368 (P : Params) : Obj := { cls := Value.none, data := Data.fields #[] }
noncomputable abbrev hb369 (P : Params) : Obj := { cls := Value.type "tuple", data := Data.seq #[Value.str (Str.ofString "self") 728] }
noncomputable abbrev hb370 (P : Params) : Obj := { cls := Value.type "tuple", data := Data.seq #[] }
noncomputable abbrev hb371 (P : Params) : Obj := { cls := Value.none, data := Data.func { name := Str.ofString "get_expiry", qualname := Str.ofString "RateLimitItem.get_expiry", params := (hdM 13 4).fst, body := (hdM 13 4).snd.fst, scope := (hdM 13 4).snd.snd, globals := 0, closure := [], defaults := Value.none, kwdefaults := Value.none } }
noncomputable abbrev hb372 (P : Params) : Obj := { cls := Value.type "code", data := Data.fields #[Value.str (Str.ofString "get_expiry") 725, Value.str (Str.ofString "RateLimitItem.get_expiry") 726, Value.str (Str.ofString "/claim/cut.py") 727, Value.int 226 0, Value.int 1 0, Value.int 0 0, Value.int 0 0, Value.int 3 0, Value.ref 367, Value.bool true, Value.int 181 0, Value.ref 368, Value.none, Value.ref 369, Value.ref 370, Value.ref 371, Value.int 729 0, Value.int 226 0, Value.str (Str.ofString "/claim/cut.py") 730] }
noncomputable abbrev hb373 (P : Params) : Obj := { cls := Value.type "function", data := Data.func { name := Str.ofString "get_expiry", qualname := Str.ofString "RateLimitItem.get_expiry", params := (hdM 13 4).fst, body := (hdM 13 4).snd.fst, scope := (hdM 13 4).snd.snd, globals := 3, closure := [], defaults := Value.none, kwdefaults := Value.none, doc := Value.str ((hdDoc (hdM 13 4).snd.fst).getD default) 731, pyModule := Value.str (Str.ofString "limits.limits") 494, code := Value.ref 372 } }
noncomputable abbrev hb374 (P : Params) : Obj := { cls := Value.type "tuple", data := Data.seq #[] }
noncomputable abbrev hb375 (P : Params) : Obj := { cls := Value.type "tuple", data := Data.seq #[Value.ref 374] }
noncomputable abbrev hb376 (P : Params) : Obj := { cls := Value.type "tuple", data := Data.seq #[] }
noncomputable abbrev hb377 (P : Params) : Obj := { cls := Value.none, data := Data.fields #[] }
noncomputable abbrev hb378 (P : Params) : Obj := { cls := Value.none, data := Data.func { name := Str.ofString "key_for", qualname := Str.ofString "RateLimitItem.key_for", params := (hdM 13 5).fst, body := (hdM 13 5).snd.fst, scope := (hdM 13 5).snd.snd, globals := 0, closure := [], defaults := Value.none, kwdefaults := Value.none } }
noncomputable abbrev hb379 (P : Params) : Obj := { cls := Value.type "code", data := Data.fields #[Value.str (Str.ofString "key_for") 733, Value.str (Str.ofString "RateLimitItem.key_for") 734, Value.str (Str.ofString "/claim/cut.py") 735, Value.int 232 0, Value.int 2 0, Value.int 0 0, Value.int 0 0, Value.int 3 0, Value.ref 376, Value.bool true, Value.int 181 0, Value.ref 377, Value.none, Value.none, Value.none, Value.ref 378, Value.int 736 0, Value.int 232 0, Value.str (Str.ofString "/claim/cut.py") 737] }
noncomputable abbrev hb380 (P : Params) : Obj := { cls := Value.type "function", data := Data.func { name := Str.ofString "key_for", qualname := Str.ofString "RateLimitItem.key_for", params := (hdM 13 5).fst, body := (hdM 13 5).snd.fst, scope := (hdM 13 5).snd.snd, globals := 3, closure := [], defaults := Value.ref 375, kwdefaults := Value.none, doc := Value.str ((hdDoc (hdM 13 5).snd.fst).getD default) 738, pyModule := Value.str (Str.ofString "limits.limits") 494, code := Value.ref 379 } }
noncomputable abbrev hb381 (P : Params) : Obj := { cls := Value.type "tuple", data := Data.seq #[] }
noncomputable abbrev hb382 (P : Params) : Obj := { cls := Value.none, data := Data.fields #[] }
noncomputable abbrev hb383 (P : Params) : Obj := { cls := Value.type "tuple", data := Data.seq #[Value.str (Str.ofString "self") 743, Value.str (Str.ofString "other") 744] }
noncomputable abbrev hb384 (P : Params) : Obj := { cls := Value.type "tuple", data := Data.seq #[] }
noncomputable abbrev hb385 (P : Params) : Obj := { cls := Value.none, data := Data.func { name := Str.ofString "__eq__", qualname := Str.ofString "RateLimitItem.__eq__", params := (hdM 13 6).fst, body := (hdM 13 6).snd.fst, scope := (hdM 13 6).snd.snd, globals := 0, closure := [], defaults := Value.none, kwdefaults := Value.none } }
noncomputable abbrev hb386 (P : Params) : Obj := { cls := Value.type "code", data := Data.fields #[Value.str (Str.ofString "__eq__") 740, Value.str (Str.ofString "RateLimitItem.__eq__") 741, Value.str (Str.ofString "/claim/cut.py") 742, Value.int 244 0, Value.int 2 0, Value.int 0 0, Value.int 0 0, Value.int 3 0, Value.ref 381, Value.bool true, Value.int 181 0, Value.ref 382, Value.none, Value.ref 383, Value.ref 384, Value.ref 385, Value.int 745 0, Value.int 244 0, Value.str (Str.ofString "/claim/cut.py") 746] }
noncomputable abbrev hb387 (P : Params) : Obj := { cls := Value.type "function", data := Data.func { name := Str.ofString "__eq__", qualname := Str.ofString "RateLimitItem.__eq__", params := (hdM 13 6).fst, body := (hdM 13 6).snd.fst, scope := (hdM 13 6).snd.snd, globals := 3, closure := [], defaults := Value.none, kwdefaults := Value.none, pyModule := Value.str (Str.ofString "limits.limits") 494, code := Value.ref 386 } }
noncomputable abbrev hb388 (P : Params) : Obj := { cls := Value.type "tuple", data := Data.seq #[] }
noncomputable abbrev hb389 (P : Params) : Obj := { cls := Value.none, data := Data.fields #[] }
noncomputable abbrev hb390 (P : Params) : Obj := { cls := Value.type "tuple", data := Data.seq #[Value.str (Str.ofString "self") 751] }
noncomputable abbrev hb391 (P : Params) : Obj := { cls := Value.type "tuple", data := Data.seq #[] }
noncomputable abbrev hb392 (P : Params) : Obj := { cls := Value.none, data := Data.func { name := Str.ofString "__repr__", qualname := Str.ofString "RateLimitItem.__repr__", params := (hdM 13 7).fst, body := (hdM 13 7).snd.fst, scope := (hdM 13 7).snd.snd, globals := 0, closure := [], defaults := Value.none, kwdefaults := Value.none } }
noncomputable abbrev hb393 (P : Params) : Obj := { cls := Value.type "code", data := Data.fields #[Value.str (Str.ofString "__repr__") 748, Value.str (Str.ofString "RateLimitItem.__repr__") 749, Value.str (Str.ofString "/claim/cut.py") 750, Value.int 249 0, Value.int 1 0, Value.int 0 0, Value.int 0 0, Value.int 3 0, Value.ref 388, Value.bool true, Value.int 181 0, Value.ref 389, Value.none, Value.ref 390, Value.ref 391, Value.ref 392, Value.int 752 0, Value.int 249 0, Value.str (Str.ofString "/claim/cut.py") 753] }
noncomputable abbrev hb394 (P : Params) : Obj := { cls := Value.type "function", data := Data.func { name := Str.ofString "__repr__", qualname := Str.ofString "RateLimitItem.__repr__", params := (hdM 13 7).fst, body := (hdM 13 7).snd.fst, scope := (hdM 13 7).snd.snd, globals := 3, closure := [], defaults := Value.none, kwdefaults := Value.none, pyModule := Value.str (Str.ofString "limits.limits") 494, code := Value.ref 393 } }
noncomputable abbrev hb395 (P : Params) : Obj := { cls := Value.type "tuple", data := Data.seq #[] }
noncomputable abbrev hb396 (P : Params) : Obj := { cls := Value.none, data := Data.fields #[] }
noncomputable abbrev hb397 (P : Params) : Obj := { cls := Value.type "tuple", data := Data.seq #[Value.str (Str.ofString "self") 758, Value.str (Str.ofString "other") 759] }
noncomputable abbrev hb398 (P : Params) : Obj := { cls := Value.type "tuple", data := Data.seq #[] }
noncomputable abbrev hb399 (P : Params) : Obj := { cls := Value.none, data := Data.func { name := Str.ofString "__lt__", qualname := Str.ofString "RateLimitItem.__lt__", params := (hdM 13 8).fst, body := (hdM 13 8).snd.fst, scope := (hdM 13 8).snd.snd, globals := 0, closure := [], defaults := Value.none, kwdefaults := Value.none } }
noncomputable abbrev hb400 (P : Params) : Obj := { cls := Value.type "code", data := Data.fields #[Value.str (Str.ofString "__lt__") 755, Value.str (Str.ofString "RateLimitItem.__lt__") 756, Value.str (Str.ofString "/claim/cut.py") 757, Value.int 252 0, Value.int 2 0, Value.int 0 0, Value.int 0 0, Value.int 3 0, Value.ref 395, Value.bool true, Value.int 181 0, Value.ref 396, Value.none, Value.ref 397, Value.ref 398, Value.ref 399, Value.int 760 0, Value.int 252 0, Value.str (Str.ofString "/claim/cut.py") 761] }
noncomputable abbrev hb401 (P : Params) : Obj := { cls := Value.type "function", data := Data.func { name := Str.ofString "__lt__", qualname := Str.ofString "RateLimitItem.__lt__", params := (hdM 13 8).fst, body := (hdM 13 8).snd.fst, scope := (hdM 13 8).snd.snd, globals := 3, closure := [], defaults := Value.none, kwdefaults := Value.none, pyModule := Value.str (Str.ofString "limits.limits") 494, code := Value.ref 400 } }
noncomputable abbrev hb402 (P : Params) : Obj := { cls := Value.type "tuple", data := Data.seq #[Value.str (Str.ofString "amount") 763, Value.str (Str.ofString "multiples") 764, Value.str (Str.ofString "namespace") 765] }
noncomputable abbrev hb403 (P : Params) : Obj := { cls := Value.type "dict", data := Data.dict #[{ hash := PyData.keyHash P (Str.ofString "__module__"), key := Value.str (Str.ofString "__module__") 684, val := Value.str (Str.ofString "limits.limits") 494 }, { hash := PyData.keyHash P (Str.ofString "__firstlineno__"), key := Value.str (Str.ofString "__firstlineno__") 688, val := Value.int 205 687 }, { hash := PyData.keyHash P (Str.ofString "__doc__"), key := Value.str (Str.ofString "__doc__") 690, val := Value.str ((hdCDoc 13).getD default) 689 }, { hash := PyData.keyHash P (Str.ofString "__init__"), key := Value.str (Str.ofString "__init__") 704, val := Value.ref 356 }, { hash := PyData.keyHash P (Str.ofString "check_granularity_string"), key := Value.str (Str.ofString "check_granularity_string") 724, val := Value.ref 365 }, { hash := PyData.keyHash P (Str.ofString "get_expiry"), key := Value.str (Str.ofString "get_expiry") 732, val := Value.ref 373 }, { hash := PyData.keyHash P (Str.ofString "key_for"), key := Value.str (Str.ofString "key_for") 739, val := Value.ref 380 }, { hash := PyData.keyHash P (Str.ofString "__eq__"), key := Value.str (Str.ofString "__eq__") 747, val := Value.ref 387 }, { hash := PyData.keyHash P (Str.ofString "__repr__"), key := Value.str (Str.ofString "__repr__") 754, val := Value.ref 394 }, { hash := PyData.keyHash P (Str.ofString "__lt__"), key := Value.str (Str.ofString "__lt__") 762, val := Value.ref 401 }, { hash := PyData.keyHash P (Str.ofString "__static_attributes__"), key := Value.str (Str.ofString "__static_attributes__") 766, val := Value.ref 402 }, { hash := PyData.keyHash P (Str.ofString "__dict__"), key := Value.str (Str.ofString "__dict__") 768, val := Value.ref 405 }, { hash := PyData.keyHash P (Str.ofString "__weakref__"), key := Value.str (Str.ofString "__weakref__") 770, val := Value.ref 406 }, { hash := PyData.keyHash P (Str.ofString "__hash__"), key := Value.str (Str.ofString "__hash__") 771, val := Value.none }] 4 }
noncomputable abbrev hb404 (P : Params) : Obj := { cls := Value.type "type", data := Data.cls { name := Str.ofString "RateLimitItem", bases := [Value.type "object"], mro := [Value.ref 404, Value.type "object"], ns := 403, qualname := Str.ofString "RateLimitItem" }, slots := #[none, none, some (Value.str (Str.ofString "RateLimitItem") 677), some (Value.str (Str.ofString "RateLimitItem") 685), some (Value.builtin "object.__new__"), some (Value.bool true)] }
noncomputable abbrev hb405 (P : Params) : Obj := { cls := Value.type "getset_descriptor", data := Data.fields #[Value.str (Str.ofString "__dict__") 767, Value.ref 404, Value.builtin "function.__dict__", Value.builtin "function.__dict__#set"] }
noncomputable abbrev hb406 (P : Params) : Obj := { cls := Value.type "getset_descriptor", data := Data.fields #[Value.str (Str.ofString "__weakref__") 769, Value.ref 404, Value.builtin "ExceptionGroup.__weakref__", Value.none] }
noncomputable abbrev hb407 (P : Params) : Obj := { cls := Value.type "super", data := Data.fields #[Value.ref 404, Value.ref 404, Value.ref 404] }
noncomputable abbrev hb408 (P : Params) : Obj := { cls := Value.type "builtin_function_or_method", data := Data.fields #[Value.builtin "object.__init_subclass__", Value.ref 404] }
noncomputable abbrev hb3x2 (P : Params) : Obj := { cls := Value.type "dict", data := Data.dict #[{ hash := PyData.keyHash P (Str.ofString "__name__"), key := Value.str (Str.ofString "__name__") 165, val := Value.str (Str.ofString "law_ji0057_01") 1035 }, { hash := PyData.keyHash P (Str.ofString "__doc__"), key := Value.str (Str.ofString "__doc__") 166, val := Value.none }, { hash := PyData.keyHash P (Str.ofString "__package__"), key := Value.str (Str.ofString "__package__") 167, val := Value.none }, { hash := PyData.keyHash P (Str.ofString "__loader__"), key := Value.str (Str.ofString "__loader__") 168, val := Value.builtin "__main__.__loader__#opaque" }, { hash := PyData.keyHash P (Str.ofString "__spec__"), key := Value.str (Str.ofString "__spec__") 169, val := Value.none }, { hash := PyData.keyHash P (Str.ofString "__annotations__"), key := Value.str (Str.ofString "__annotations__") 170, val := Value.ref 6 }, { hash := PyData.keyHash P (Str.ofString "__builtins__"), key := Value.str (Str.ofString "__builtins__") 171, val := Value.ref 4 }, { hash := PyData.keyHash P (Str.ofString "__file__"), key := Value.str (Str.ofString "__file__") 173, val := Value.str (Str.ofString "/claim/cut.py") 172 }, { hash := PyData.keyHash P (Str.ofString "__cached__"), key := Value.str (Str.ofString "__cached__") 174, val := Value.none }, { hash := PyData.keyHash P (Str.ofString "_wall"), key := Value.str (Str.ofString "_wall") 193, val := Value.ref 21 }, { hash := PyData.keyHash P (Str.ofString "_tuplegetter"), key := Value.str (Str.ofString "_tuplegetter") 252, val := Value.ref 259 }, { hash := PyData.keyHash P (Str.ofString "tuplegetter_util"), key := Value.str (Str.ofString "tuplegetter_util") 253, val := Value.ref 60 }, { hash := PyData.keyHash P (Str.ofString "WindowStats"), key := Value.str (Str.ofString "WindowStats") 368, val := Value.ref 132 }, { hash := PyData.keyHash P (Str.ofString "RateLimiter"), key := Value.str (Str.ofString "RateLimiter") 408, val := Value.ref 161 }, { hash := PyData.keyHash P (Str.ofString "SlidingWindowCounterRateLimiter"), key := Value.str (Str.ofString "SlidingWindowCounterRateLimiter") 493, val := Value.ref 218 }, { hash := PyData.keyHash P (Str.ofString "tuplegetter_limits"), key := Value.str (Str.ofString "tuplegetter_limits") 553, val := Value.ref 259 }, { hash := PyData.keyHash P (Str.ofString "safe_string"), key := Value.str (Str.ofString "safe_string") 561, val := Value.ref 270 }, { hash := PyData.keyHash P (Str.ofString "Granularity"), key := Value.str (Str.ofString "Granularity") 676, val := Value.ref 338 }, { hash := PyData.keyHash P (Str.ofString "RateLimitItem"), key := Value.str (Str.ofString "RateLimitItem") 773, val := Value.ref 404 }, { hash := PyData.keyHash P (Str.ofString "RateLimitItemPerSecond"), key := Value.str (Str.ofString "RateLimitItemPerSecond") 801, val := Value.ref 423 }, { hash := PyData.keyHash P (Str.ofString "TimestampedSlidingWindow"), key := Value.str (Str.ofString "TimestampedSlidingWindow") 849, val := Value.ref 445 }, { hash := PyData.keyHash P (Str.ofString "MemoryStorage"), key := Value.str (Str.ofString "MemoryStorage") 1034, val := Value.ref 568 }, { hash := PyData.keyHash P (Str.ofString "law"), key := Value.str (Str.ofString "law") 1071, val := Value.ref 577 }] 23 }
noncomputable abbrev hb12x3 (P : Params) : Obj := { cls := Value.none, data := Data.fields #[Value.int 1 0, Value.int 0 0, Value.ref 20, Value.int 5 0, Value.int 0 0, Value.ref 27, Value.int 24 0, Value.int 0 0, Value.ref 71, Value.int 67 0, Value.int 0 0, Value.ref 141, Value.int 74 0, Value.int 0 0, Value.ref 171, Value.int 137 0, Value.int 0 0, Value.ref 226, Value.int 156 0, Value.int 0 0, Value.ref 269, Value.int 163 0, Value.int 0 0, Value.ref 277, Value.int 205 0, Value.int 0 0, Value.ref 347, Value.int 254 0, Value.int 0 0, Value.ref 414, Value.int 261 0, Value.int 0 0, Value.ref 431, Value.int 288 0, Value.int 0 0, Value.ref 455, Value.int 407 0, Value.int 0 0, Value.ref 576] }
noncomputable abbrev hb404x1 (P : Params) : Obj := { cls := Value.type "type", data := Data.cls { name := Str.ofString "RateLimitItem", bases := [Value.type "object"], mro := [Value.ref 404, Value.type "object"], ns := 403, qualname := Str.ofString "RateLimitItem", subclasses := [Value.ref 423] }, slots := #[none, none, some (Value.str (Str.ofString "RateLimitItem") 677), some (Value.str (Str.ofString "RateLimitItem") 685), some (Value.builtin "object.__new__"), some (Value.bool true)] }
noncomputable abbrev hb409 (P : Params) : Obj := { cls := Value.type "tuple", data := Data.seq #[Value.ref 404] }
noncomputable abbrev hb410 (P : Params) : Obj := { cls := Value.type "builtin_function_or_method", data := Data.fields #[Value.builtin "type.__prepare__", Value.type "type"] }
noncomputable abbrev hb411 (P : Params) : Obj := { cls := Value.type "dict", data := Data.dict #[{ hash := PyData.keyHash P (Str.ofString "__module__"), key := Value.str (Str.ofString "__module__") 781, val := Value.str (Str.ofString "limits.limits") 494 }, { hash := PyData.keyHash P (Str.ofString "__qualname__"), key := Value.str (Str.ofString "__qualname__") 783, val := Value.str (Str.ofString "RateLimitItemPerSecond") 782 }, { hash := PyData.keyHash P (Str.ofString "__firstlineno__"), key := Value.str (Str.ofString "__firstlineno__") 785, val := Value.int 254 784 }, { hash := PyData.keyHash P (Str.ofString "__doc__"), key := Value.str (Str.ofString "__doc__") 787, val := Value.str ((hdCDoc 14).getD default) 786 }, { hash := PyData.keyHash P (Str.ofString "GRANULARITY"), key := Value.str (Str.ofString "GRANULARITY") 797, val := Value.ref 420 }, { hash := PyData.keyHash P (Str.ofString "__static_attributes__"), key := Value.str (Str.ofString "__static_attributes__") 799, val := Value.ref 421 }] 6 }
noncomputable abbrev hb412 (P : Params) : Obj := { cls := Value.type "tuple", data := Data.seq #[] }
noncomputable abbrev hb413 (P : Params) : Obj := { cls := Value.none, data := Data.fields #[] }
noncomputable abbrev hb414 (P : Params) : Obj := { cls := Value.type "code", data := Data.fields #[Value.str (Str.ofString "RateLimitItemPerSecond") 776, Value.str (Str.ofString "RateLimitItemPerSecond") 777, Value.str (Str.ofString "/claim/cut.py") 778, Value.int 254 0, Value.int 0 0, Value.int 0 0, Value.int 0 0, Value.int 0 0, Value.ref 412, Value.bool false, Value.int 181 0, Value.ref 413, Value.none, Value.none, Value.none, Value.none, Value.int 779 0, Value.int 254 0, Value.str (Str.ofString "/claim/cut.py") 780] }
noncomputable abbrev hb415 (P : Params) : Obj := { cls := Value.type "frame", slots := #[some (Value.ref 414), some (Value.ref 3), some (Value.ref 411), none, some (Value.str (Str.ofString "limits.limits") 494), none, some (Value.ref 0)] }
noncomputable abbrev hb416 (P : Params) : Obj := { cls := Value.type "frame", data := Data.dict #[{ hash := PyData.keyHash P (Str.ofString "_cls"), key := Value.str (Str.ofString "_cls") 792, val := Value.ref 338 }, { hash := PyData.keyHash P (Str.ofString "seconds"), key := Value.str (Str.ofString "seconds") 793, val := Value.int 1 789 }, { hash := PyData.keyHash P (Str.ofString "name"), key := Value.str (Str.ofString "name") 794, val := Value.str (Str.ofString "second") 790 }] 3 }
noncomputable abbrev hb417 (P : Params) : Obj := { cls := Value.type "tuple", data := Data.seq #[Value.int 1 789, Value.str (Str.ofString "second") 790] }
noncomputable abbrev hb418 (P : Params) : Obj := { cls := Value.type "list", data := Data.seq #[Value.int 1 789, Value.str (Str.ofString "second") 790] 1 }
noncomputable abbrev hb419 (P : Params) : Obj := { cls := Value.type "dict", data := Data.dict #[] }
noncomputable abbrev hb420 (P : Params) : Obj := { cls := Value.ref 338, dict := some 419, data := Data.seq #[Value.int 1 789, Value.str (Str.ofString "second") 790] }
noncomputable abbrev hb421 (P : Params) : Obj := { cls := Value.type "tuple", data := Data.seq #[] }
noncomputable abbrev hb422 (P : Params) : Obj := { cls := Value.type "dict", data := Data.dict #[{ hash := PyData.keyHash P (Str.ofString "__module__"), key := Value.str (Str.ofString "__module__") 781, val := Value.str (Str.ofString "limits.limits") 494 }, { hash := PyData.keyHash P (Str.ofString "__firstlineno__"), key := Value.str (Str.ofString "__firstlineno__") 785, val := Value.int 254 784 }, { hash := PyData.keyHash P (Str.ofString "__doc__"), key := Value.str (Str.ofString "__doc__") 787, val := Value.str ((hdCDoc 14).getD default) 786 }, { hash := PyData.keyHash P (Str.ofString "GRANULARITY"), key := Value.str (Str.ofString "GRANULARITY") 797, val := Value.ref 420 }, { hash := PyData.keyHash P (Str.ofString "__static_attributes__"), key := Value.str (Str.ofString "__static_attributes__") 799, val := Value.ref 421 }] 1 }
noncomputable abbrev hb423 (P : Params) : Obj := { cls := Value.type "type", data := Data.cls { name := Str.ofString "RateLimitItemPerSecond", bases := [Value.ref 404], mro := [Value.ref 423, Value.ref 404, Value.type "object"], ns := 422, qualname := Str.ofString "RateLimitItemPerSecond" }, slots := #[some (Value.ref 409), none, some (Value.str (Str.ofString "RateLimitItemPerSecond") 774), some (Value.str (Str.ofString "RateLimitItemPerSecond") 782), some (Value.builtin "object.__new__"), some (Value.bool true)] }
noncomputable abbrev hb424 (P : Params) : Obj := { cls := Value.type "super", data := Data.fields #[Value.ref 423, Value.ref 423, Value.ref 423] }
noncomputable abbrev hb425 (P : Params) : Obj := { cls := Value.type "builtin_function_or_method", data := Data.fields #[Value.builtin "object.__init_subclass__", Value.ref 423] }
noncomputable abbrev hb426 (P : Params) : Obj := { cls := Value.type "tuple", data := Data.seq #[] }
noncomputable abbrev hb427 (P : Params) : Obj := { cls := Value.type "builtin_function_or_method", data := Data.fields #[Value.builtin "type.__prepare__", Value.type "type"] }
noncomputable abbrev hb428 (P : Params) : Obj := { cls := Value.type "dict", data := Data.dict #[{ hash := PyData.keyHash P (Str.ofString "__module__"), key := Value.str (Str.ofString "__module__") 811, val := Value.str (Str.ofString "limits.storage.base") 802 }, { hash := PyData.keyHash P (Str.ofString "__qualname__"), key := Value.str (Str.ofString "__qualname__") 813, val := Value.str (Str.ofString "TimestampedSlidingWindow") 812 }, { hash := PyData.keyHash P (Str.ofString "__firstlineno__"), key := Value.str (Str.ofString "__firstlineno__") 815, val := Value.int 261 814 }, { hash := PyData.keyHash P (Str.ofString "__doc__"), key := Value.str (Str.ofString "__doc__") 817, val := Value.str ((hdCDoc 16).getD default) 816 }, { hash := PyData.keyHash P (Str.ofString "sliding_window_keys"), key := Value.str (Str.ofString "sliding_window_keys") 842, val := Value.ref 441 }, { hash := PyData.keyHash P (Str.ofString "__static_attributes__"), key := Value.str (Str.ofString "__static_attributes__") 843, val := Value.ref 443 }] 6 }
noncomputable abbrev hb429 (P : Params) : Obj := { cls := Value.type "tuple", data := Data.seq #[] }
noncomputable abbrev hb430 (P : Params) : Obj := { cls := Value.none, data := Data.fields #[Value.int 265 0, Value.int 4 0, Value.ref 438] }
noncomputable abbrev hb431 (P : Params) : Obj := { cls := Value.type "code", data := Data.fields #[Value.str (Str.ofString "TimestampedSlidingWindow") 806, Value.str (Str.ofString "TimestampedSlidingWindow") 807, Value.str (Str.ofString "/claim/cut.py") 808, Value.int 261 0, Value.int 0 0, Value.int 0 0, Value.int 0 0, Value.int 0 0, Value.ref 429, Value.bool false, Value.int 181 0, Value.ref 430, Value.none, Value.none, Value.none, Value.none, Value.int 809 0, Value.int 261 0, Value.str (Str.ofString "/claim/cut.py") 810] }
noncomputable abbrev hb432 (P : Params) : Obj := { cls := Value.type "frame", slots := #[some (Value.ref 431), some (Value.ref 3), some (Value.ref 428), none, some (Value.str (Str.ofString "limits.storage.base") 802), none, some (Value.ref 0)] }
noncomputable abbrev hb433 (P : Params) : Obj := { cls := Value.type "tuple", data := Data.seq #[] }
noncomputable abbrev hb434 (P : Params) : Obj := { cls := Value.none, data := Data.fields #[] }
noncomputable abbrev hb435 (P : Params) : Obj := { cls := Value.type "tuple", data := Data.seq #[Value.str (Str.ofString "cls") 822, Value.str (Str.ofString "key") 823, Value.str (Str.ofString "expiry") 824, Value.str (Str.ofString "at") 825, Value.str (Str.ofString "previous") 826] }
noncomputable abbrev hb436 (P : Params) : Obj := { cls := Value.type "tuple", data := Data.seq #[] }
noncomputable abbrev hb437 (P : Params) : Obj := { cls := Value.none, data := Data.func { name := Str.ofString "sliding_window_keys", qualname := Str.ofString "TimestampedSlidingWindow.sliding_window_keys", params := (hdM 16 1).fst, body := (hdM 16 1).snd.fst, scope := (hdM 16 1).snd.snd, globals := 0, closure := [], defaults := Value.none, kwdefaults := Value.none } }
noncomputable abbrev hb438 (P : Params) : Obj := { cls := Value.type "code", data := Data.fields #[Value.str (Str.ofString "sliding_window_keys") 819, Value.str (Str.ofString "TimestampedSlidingWindow.sliding_window_keys") 820, Value.str (Str.ofString "/claim/cut.py") 821, Value.int 264 0, Value.int 4 0, Value.int 0 0, Value.int 0 0, Value.int 3 0, Value.ref 433, Value.bool true, Value.int 181 0, Value.ref 434, Value.none, Value.ref 435, Value.ref 436, Value.ref 437, Value.int 827 0, Value.int 264 0, Value.str (Str.ofString "/claim/cut.py") 828] }
noncomputable abbrev hb439 (P : Params) : Obj := { cls := Value.type "function", data := Data.func { name := Str.ofString "sliding_window_keys", qualname := Str.ofString "TimestampedSlidingWindow.sliding_window_keys", params := (hdM 16 1).fst, body := (hdM 16 1).snd.fst, scope := (hdM 16 1).snd.snd, globals := 3, closure := [], defaults := Value.none, kwdefaults := Value.none, doc := Value.str ((hdDoc (hdM 16 1).snd.fst).getD default) 829, pyModule := Value.str (Str.ofString "limits.storage.base") 802, annotations := some 442, code := Value.ref 438 } }
noncomputable abbrev hb440 (P : Params) : Obj := { cls := Value.type "dict", data := Data.dict #[{ hash := PyData.keyHash P (Str.ofString "__module__"), key := Value.str (Str.ofString "__module__") 831, val := Value.str (Str.ofString "limits.storage.base") 802 }, { hash := PyData.keyHash P (Str.ofString "__name__"), key := Value.str (Str.ofString "__name__") 834, val := Value.str (Str.ofString "sliding_window_keys") 833 }, { hash := PyData.keyHash P (Str.ofString "__qualname__"), key := Value.str (Str.ofString "__qualname__") 837, val := Value.str (Str.ofString "TimestampedSlidingWindow.sliding_window_keys") 836 }, { hash := PyData.keyHash P (Str.ofString "__doc__"), key := Value.str (Str.ofString "__doc__") 839, val := Value.str ((hdDoc (hdM 16 1).snd.fst).getD default) 829 }, { hash := PyData.keyHash P (Str.ofString "__annotations__"), key := Value.str (Str.ofString "__annotations__") 841, val := Value.ref 442 }] 5 }
noncomputable abbrev hb441 (P : Params) : Obj := { cls := Value.type "classmethod", dict := some 440, data := Data.fields #[Value.ref 439, Value.bool false] }
noncomputable abbrev hb442 (P : Params) : Obj := { cls := Value.type "dict", data := Data.dict #[] }
noncomputable abbrev hb443 (P : Params) : Obj := { cls := Value.type "tuple", data := Data.seq #[] }
noncomputable abbrev hb444 (P : Params) : Obj := { cls := Value.type "dict", data := Data.dict #[{ hash := PyData.keyHash P (Str.ofString "__module__"), key := Value.str (Str.ofString "__module__") 811, val := Value.str (Str.ofString "limits.storage.base") 802 }, { hash := PyData.keyHash P (Str.ofString "__firstlineno__"), key := Value.str (Str.ofString "__firstlineno__") 815, val := Value.int 261 814 }, { hash := PyData.keyHash P (Str.ofString "__doc__"), key := Value.str (Str.ofString "__doc__") 817, val := Value.str ((hdCDoc 16).getD default) 816 }, { hash := PyData.keyHash P (Str.ofString "sliding_window_keys"), key := Value.str (Str.ofString "sliding_window_keys") 842, val := Value.ref 441 }, { hash := PyData.keyHash P (Str.ofString "__static_attributes__"), key := Value.str (Str.ofString "__static_attributes__") 843, val := Value.ref 443 }, { hash := PyData.keyHash P (Str.ofString "__dict__"), key := Value.str (Str.ofString "__dict__") 845, val := Value.ref 446 }, { hash := PyData.keyHash P (Str.ofString "__weakref__"), key := Value.str (Str.ofString "__weakref__") 847, val := Value.ref 447 }] 3 }
noncomputable abbrev hb445 (P : Params) : Obj := { cls := Value.type "type", data := Data.cls { name := Str.ofString "TimestampedSlidingWindow", bases := [Value.type "object"], mro := [Value.ref 445, Value.type "object"], ns := 444, qualname := Str.ofString "TimestampedSlidingWindow", subclasses := [Value.ref 568] }, slots := #[none, none, some (Value.str (Str.ofString "TimestampedSlidingWindow") 804), some (Value.str (Str.ofString "TimestampedSlidingWindow") 812), some (Value.builtin "object.__new__"), some (Value.bool true)] }
noncomputable abbrev hb446 (P : Params) : Obj := { cls := Value.type "getset_descriptor", data := Data.fields #[Value.str (Str.ofString "__dict__") 844, Value.ref 445, Value.builtin "function.__dict__", Value.builtin "function.__dict__#set"] }
noncomputable abbrev hb447 (P : Params) : Obj := { cls := Value.type "getset_descriptor", data := Data.fields #[Value.str (Str.ofString "__weakref__") 846, Value.ref 445, Value.builtin "ExceptionGroup.__weakref__", Value.none] }
noncomputable abbrev hb448 (P : Params) : Obj := { cls := Value.type "super", data := Data.fields #[Value.ref 445, Value.ref 445, Value.ref 445] }
noncomputable abbrev hb449 (P : Params) : Obj := { cls := Value.type "builtin_function_or_method", data := Data.fields #[Value.builtin "object.__init_subclass__", Value.ref 445] }
noncomputable abbrev hb450 (P : Params) : Obj := { cls := Value.type "tuple", data := Data.seq #[Value.ref 445] }
noncomputable abbrev hb451 (P : Params) : Obj := { cls := Value.type "builtin_function_or_method", data := Data.fields #[Value.builtin "type.__prepare__", Value.type "type"] }
noncomputable abbrev hb452 (P : Params) : Obj := { cls := Value.type "dict", data := Data.dict #[{ hash := PyData.keyHash P (Str.ofString "__module__"), key := Value.str (Str.ofString "__module__") 859, val := Value.str (Str.ofString "limits.storage.memory") 850 }, { hash := PyData.keyHash P (Str.ofString "__qualname__"), key := Value.str (Str.ofString "__qualname__") 861, val := Value.str (Str.ofString "MemoryStorage") 860 }, { hash := PyData.keyHash P (Str.ofString "__firstlineno__"), key := Value.str (Str.ofString "__firstlineno__") 863, val := Value.int 288 862 }, { hash := PyData.keyHash P (Str.ofString "__doc__"), key := Value.str (Str.ofString "__doc__") 865, val := Value.str ((hdCDoc 18).getD default) 864 }, { hash := PyData.keyHash P (Str.ofString "__init__"), key := Value.str (Str.ofString "__init__") 874, val := Value.ref 463 }, { hash := PyData.keyHash P (Str.ofString "expire_events"), key := Value.str (Str.ofString "expire_events") 881, val := Value.ref 470 }, { hash := PyData.keyHash P (Str.ofString "incr"), key := Value.str (Str.ofString "incr") 893, val := Value.ref 478 }, { hash := PyData.keyHash P (Str.ofString "decr"), key := Value.str (Str.ofString "decr") 904, val := Value.ref 486 }, { hash := PyData.keyHash P (Str.ofString "get"), key := Value.str (Str.ofString "get") 913, val := Value.ref 493 }, { hash := PyData.keyHash P (Str.ofString "clear"), key := Value.str (Str.ofString "clear") 922, val := Value.ref 500 }, { hash := PyData.keyHash P (Str.ofString "acquire_entry"), key := Value.str (Str.ofString "acquire_entry") 934, val := Value.ref 508 }, { hash := PyData.keyHash P (Str.ofString "get_expiry"), key := Value.str (Str.ofString "get_expiry") 943, val := Value.ref 515 }, { hash := PyData.keyHash P (Str.ofString "get_moving_window"), key := Value.str (Str.ofString "get_moving_window") 953, val := Value.ref 522 }, { hash := PyData.keyHash P (Str.ofString "acquire_sliding_window_entry"), key := Value.str (Str.ofString "acquire_sliding_window_entry") 973, val := Value.ref 530 }, { hash := PyData.keyHash P (Str.ofString "_get_sliding_window_info"), key := Value.str (Str.ofString "_get_sliding_window_info") 988, val := Value.ref 537 }, { hash := PyData.keyHash P (Str.ofString "get_sliding_window"), key := Value.str (Str.ofString "get_sliding_window") 1000, val := Value.ref 544 }, { hash := PyData.keyHash P (Str.ofString "clear_sliding_window"), key := Value.str (Str.ofString "clear_sliding_window") 1012, val := Value.ref 551 }, { hash := PyData.keyHash P (Str.ofString "check"), key := Value.str (Str.ofString "check") 1019, val := Value.ref 558 }, { hash := PyData.keyHash P (Str.ofString "reset"), key := Value.str (Str.ofString "reset") 1027, val := Value.ref 565 }, { hash := PyData.keyHash P (Str.ofString "__static_attributes__"), key := Value.str (Str.ofString "__static_attributes__") 1032, val := Value.ref 566 }] 20 }
noncomputable abbrev hb453 (P : Params) : Obj := { cls := Value.type "tuple", data := Data.seq #[] }
noncomputable abbrev hb454 (P : Params) : Obj := { cls := Value.none, data := Data.fields #[Value.int 296 0, Value.int 4 0, Value.ref 462, Value.int 302 0, Value.int 4 0, Value.ref 469, Value.int 305 0, Value.int 4 0, Value.ref 477, Value.int 319 0, Value.int 4 0, Value.ref 485, Value.int 330 0, Value.int 4 0, Value.ref 492, Value.int 339 0, Value.int 4 0, Value.ref 499, Value.int 347 0, Value.int 4 0, Value.ref 507, Value.int 350 0, Value.int 4 0, Value.ref 514, Value.int 356 0, Value.int 4 0, Value.ref 521, Value.int 359 0, Value.int 4 0, Value.ref 529, Value.int 376 0, Value.int 4 0, Value.ref 536, Value.int 386 0, Value.int 4 0, Value.ref 543, Value.int 391 0, Value.int 4 0, Value.ref 550, Value.int 397 0, Value.int 4 0, Value.ref 557, Value.int 400 0, Value.int 4 0, Value.ref 564] }
noncomputable abbrev hb455 (P : Params) : Obj := { cls := Value.type "code", data := Data.fields #[Value.str (Str.ofString "MemoryStorage") 854, Value.str (Str.ofString "MemoryStorage") 855, Value.str (Str.ofString "/claim/cut.py") 856, Value.int 288 0, Value.int 0 0, Value.int 0 0, Value.int 0 0, Value.int 0 0, Value.ref 453, Value.bool false, Value.int 181 0, Value.ref 454, Value.none, Value.none, Value.none, Value.none, Value.int 857 0, Value.int 288 0, Value.str (Str.ofString "/claim/cut.py") 858] }
noncomputable abbrev hb456 (P : Params) : Obj := { cls := Value.type "frame", slots := #[some (Value.ref 455), some (Value.ref 3), some (Value.ref 452), none, some (Value.str (Str.ofString "limits.storage.memory") 850), none, some (Value.ref 0)] }
noncomputable abbrev hb457 (P : Params) : Obj := { cls := Value.type "tuple", data := Data.seq #[] }
noncomputable abbrev hb458 (P : Params) : Obj := { cls := Value.none, data := Data.fields #[] }
noncomputable abbrev hb459 (P : Params) : Obj := { cls := Value.type "tuple", data := Data.seq #[Value.str (Str.ofString "self") 870, Value.str (Str.ofString "clock") 871] }
noncomputable abbrev hb460 (P : Params) : Obj := { cls := Value.type "tuple", data := Data.seq #[] }
noncomputable abbrev hb461 (P : Params) : Obj := { cls := Value.none, data := Data.func { name := Str.ofString "__init__", qualname := Str.ofString "MemoryStorage.__init__", params := (hdM 18 1).fst, body := (hdM 18 1).snd.fst, scope := (hdM 18 1).snd.snd, globals := 0, closure := [], defaults := Value.none, kwdefaults := Value.none } }
noncomputable abbrev hb462 (P : Params) : Obj := { cls := Value.type "code", data := Data.fields #[Value.str (Str.ofString "__init__") 867, Value.str (Str.ofString "MemoryStorage.__init__") 868, Value.str (Str.ofString "/claim/cut.py") 869, Value.int 296 0, Value.int 2 0, Value.int 0 0, Value.int 0 0, Value.int 3 0, Value.ref 457, Value.bool true, Value.int 181 0, Value.ref 458, Value.none, Value.ref 459, Value.ref 460, Value.ref 461, Value.int 872 0, Value.int 296 0, Value.str (Str.ofString "/claim/cut.py") 873] }
noncomputable abbrev hb463 (P : Params) : Obj := { cls := Value.type "function", data := Data.func { name := Str.ofString "__init__", qualname := Str.ofString "MemoryStorage.__init__", params := (hdM 18 1).fst, body := (hdM 18 1).snd.fst, scope := (hdM 18 1).snd.snd, globals := 3, closure := [], defaults := Value.none, kwdefaults := Value.none, pyModule := Value.str (Str.ofString "limits.storage.memory") 850, code := Value.ref 462 } }
noncomputable abbrev hb464 (P : Params) : Obj := { cls := Value.type "tuple", data := Data.seq #[] }
noncomputable abbrev hb465 (P : Params) : Obj := { cls := Value.none, data := Data.fields #[] }
noncomputable abbrev hb466 (P : Params) : Obj := { cls := Value.type "tuple", data := Data.seq #[Value.str (Str.ofString "self") 878] }
noncomputable abbrev hb467 (P : Params) : Obj := { cls := Value.type "tuple", data := Data.seq #[] }
noncomputable abbrev hb468 (P : Params) : Obj := { cls := Value.none, data := Data.func { name := Str.ofString "expire_events", qualname := Str.ofString "MemoryStorage.expire_events", params := (hdM 18 2).fst, body := (hdM 18 2).snd.fst, scope := (hdM 18 2).snd.snd, globals := 0, closure := [], defaults := Value.none, kwdefaults := Value.none } }
noncomputable abbrev hb469 (P : Params) : Obj := { cls := Value.type "code", data := Data.fields #[Value.str (Str.ofString "expire_events") 875, Value.str (Str.ofString "MemoryStorage.expire_events") 876, Value.str (Str.ofString "/claim/cut.py") 877, Value.int 302 0, Value.int 1 0, Value.int 0 0, Value.int 0 0, Value.int 3 0, Value.ref 464, Value.bool true, Value.int 181 0, Value.ref 465, Value.none, Value.ref 466, Value.ref 467, Value.ref 468, Value.int 879 0, Value.int 302 0, Value.str (Str.ofString "/claim/cut.py") 880] }
noncomputable abbrev hb470 (P : Params) : Obj := { cls := Value.type "function", data := Data.func { name := Str.ofString "expire_events", qualname := Str.ofString "MemoryStorage.expire_events", params := (hdM 18 2).fst, body := (hdM 18 2).snd.fst, scope := (hdM 18 2).snd.snd, globals := 3, closure := [], defaults := Value.none, kwdefaults := Value.none, pyModule := Value.str (Str.ofString "limits.storage.memory") 850, code := Value.ref 469 } }
noncomputable abbrev hb471 (P : Params) : Obj := { cls := Value.type "tuple", data := Data.seq #[Value.int 1 882] }
noncomputable abbrev hb472 (P : Params) : Obj := { cls := Value.type "tuple", data := Data.seq #[] }
noncomputable abbrev hb473 (P : Params) : Obj := { cls := Value.none, data := Data.fields #[] }
noncomputable abbrev hb474 (P : Params) : Obj := { cls := Value.type "tuple", data := Data.seq #[Value.str (Str.ofString "self") 886, Value.str (Str.ofString "key") 887, Value.str (Str.ofString "expiry") 888, Value.str (Str.ofString "amount") 889] }
noncomputable abbrev hb475 (P : Params) : Obj := { cls := Value.type "tuple", data := Data.seq #[] }
noncomputable abbrev hb476 (P : Params) : Obj := { cls := Value.none, data := Data.func { name := Str.ofString "incr", qualname := Str.ofString "MemoryStorage.incr", params := (hdM 18 3).fst, body := (hdM 18 3).snd.fst, scope := (hdM 18 3).snd.snd, globals := 0, closure := [], defaults := Value.none, kwdefaults := Value.none } }
noncomputable abbrev hb477 (P : Params) : Obj := { cls := Value.type "code", data := Data.fields #[Value.str (Str.ofString "incr") 883, Value.str (Str.ofString "MemoryStorage.incr") 884, Value.str (Str.ofString "/claim/cut.py") 885, Value.int 305 0, Value.int 4 0, Value.int 0 0, Value.int 0 0, Value.int 3 0, Value.ref 472, Value.bool true, Value.int 181 0, Value.ref 473, Value.none, Value.ref 474, Value.ref 475, Value.ref 476, Value.int 890 0, Value.int 305 0, Value.str (Str.ofString "/claim/cut.py") 891] }
noncomputable abbrev hb478 (P : Params) : Obj := { cls := Value.type "function", data := Data.func { name := Str.ofString "incr", qualname := Str.ofString "MemoryStorage.incr", params := (hdM 18 3).fst, body := (hdM 18 3).snd.fst, scope := (hdM 18 3).snd.snd, globals := 3, closure := [], defaults := Value.ref 471, kwdefaults := Value.none, doc := Value.str ((hdDoc (hdM 18 3).snd.fst).getD default) 892, pyModule := Value.str (Str.ofString "limits.storage.memory") 850, code := Value.ref 477 } }
noncomputable abbrev hb479 (P : Params) : Obj := { cls := Value.type "tuple", data := Data.seq #[Value.int 1 894] }
noncomputable abbrev hb480 (P : Params) : Obj := { cls := Value.type "tuple", data := Data.seq #[] }
noncomputable abbrev hb481 (P : Params) : Obj := { cls := Value.none, data := Data.fields #[] }
noncomputable abbrev hb482 (P : Params) : Obj := { cls := Value.type "tuple", data := Data.seq #[Value.str (Str.ofString "self") 898, Value.str (Str.ofString "key") 899, Value.str (Str.ofString "amount") 900] }
noncomputable abbrev hb483 (P : Params) : Obj := { cls := Value.type "tuple", data := Data.seq #[] }
noncomputable abbrev hb484 (P : Params) : Obj := { cls := Value.none, data := Data.func { name := Str.ofString "decr", qualname := Str.ofString "MemoryStorage.decr", params := (hdM 18 4).fst, body := (hdM 18 4).snd.fst, scope := (hdM 18 4).snd.snd, globals := 0, closure := [], defaults := Value.none, kwdefaults := Value.none } }
noncomputable abbrev hb485 (P : Params) : Obj := { cls := Value.type "code", data := Data.fields #[Value.str (Str.ofString "decr") 895, Value.str (Str.ofString "MemoryStorage.decr") 896, Value.str (Str.ofString "/claim/cut.py") 897, Value.int 319 0, Value.int 3 0, Value.int 0 0, Value.int 0 0, Value.int 3 0, Value.ref 480, Value.bool true, Value.int 181 0, Value.ref 481, Value.none, Value.ref 482, Value.ref 483, Value.ref 484, Value.int 901 0, Value.int 319 0, Value.str (Str.ofString "/claim/cut.py") 902] }
noncomputable abbrev hb486 (P : Params) : Obj := { cls := Value.type "function", data := Data.func { name := Str.ofString "decr", qualname := Str.ofString "MemoryStorage.decr", params := (hdM 18 4).fst, body := (hdM 18 4).snd.fst, scope := (hdM 18 4).snd.snd, globals := 3, closure := [], defaults := Value.ref 479, kwdefaults := Value.none, doc := Value.str ((hdDoc (hdM 18 4).snd.fst).getD default) 903, pyModule := Value.str (Str.ofString "limits.storage.memory") 850, code := Value.ref 485 } }
noncomputable abbrev hb487 (P : Params) : Obj := { cls := Value.type "tuple", data := Data.seq #[] }
noncomputable abbrev hb488 (P : Params) : Obj := { cls := Value.none, data := Data.fields #[] }
noncomputable abbrev hb489 (P : Params) : Obj := { cls := Value.type "tuple", data := Data.seq #[Value.str (Str.ofString "self") 908, Value.str (Str.ofString "key") 909] }
noncomputable abbrev hb490 (P : Params) : Obj := { cls := Value.type "tuple", data := Data.seq #[] }
noncomputable abbrev hb491 (P : Params) : Obj := { cls := Value.none, data := Data.func { name := Str.ofString "get", qualname := Str.ofString "MemoryStorage.get", params := (hdM 18 5).fst, body := (hdM 18 5).snd.fst, scope := (hdM 18 5).snd.snd, globals := 0, closure := [], defaults := Value.none, kwdefaults := Value.none } }
noncomputable abbrev hb492 (P : Params) : Obj := { cls := Value.type "code", data := Data.fields #[Value.str (Str.ofString "get") 905, Value.str (Str.ofString "MemoryStorage.get") 906, Value.str (Str.ofString "/claim/cut.py") 907, Value.int 330 0, Value.int 2 0, Value.int 0 0, Value.int 0 0, Value.int 3 0, Value.ref 487, Value.bool true, Value.int 181 0, Value.ref 488, Value.none, Value.ref 489, Value.ref 490, Value.ref 491, Value.int 910 0, Value.int 330 0, Value.str (Str.ofString "/claim/cut.py") 911] }
noncomputable abbrev hb493 (P : Params) : Obj := { cls := Value.type "function", data := Data.func { name := Str.ofString "get", qualname := Str.ofString "MemoryStorage.get", params := (hdM 18 5).fst, body := (hdM 18 5).snd.fst, scope := (hdM 18 5).snd.snd, globals := 3, closure := [], defaults := Value.none, kwdefaults := Value.none, doc := Value.str ((hdDoc (hdM 18 5).snd.fst).getD default) 912, pyModule := Value.str (Str.ofString "limits.storage.memory") 850, code := Value.ref 492 } }
noncomputable abbrev hb494 (P : Params) : Obj := { cls := Value.type "tuple", data := Data.seq #[] }
noncomputable abbrev hb495 (P : Params) : Obj := { cls := Value.none, data := Data.fields #[] }
noncomputable abbrev hb496 (P : Params) : Obj := { cls := Value.type "tuple", data := Data.seq #[Value.str (Str.ofString "self") 917, Value.str (Str.ofString "key") 918] }
noncomputable abbrev hb497 (P : Params) : Obj := { cls := Value.type "tuple", data := Data.seq #[] }
noncomputable abbrev hb498 (P : Params) : Obj := { cls := Value.none, data := Data.func { name := Str.ofString "clear", qualname := Str.ofString "MemoryStorage.clear", params := (hdM 18 6).fst, body := (hdM 18 6).snd.fst, scope := (hdM 18 6).snd.snd, globals := 0, closure := [], defaults := Value.none, kwdefaults := Value.none } }
noncomputable abbrev hb499 (P : Params) : Obj := { cls := Value.type "code", data := Data.fields #[Value.str (Str.ofString "clear") 914, Value.str (Str.ofString "MemoryStorage.clear") 915, Value.str (Str.ofString "/claim/cut.py") 916, Value.int 339 0, Value.int 2 0, Value.int 0 0, Value.int 0 0, Value.int 3 0, Value.ref 494, Value.bool true, Value.int 181 0, Value.ref 495, Value.none, Value.ref 496, Value.ref 497, Value.ref 498, Value.int 919 0, Value.int 339 0, Value.str (Str.ofString "/claim/cut.py") 920] }
noncomputable abbrev hb500 (P : Params) : Obj := { cls := Value.type "function", data := Data.func { name := Str.ofString "clear", qualname := Str.ofString "MemoryStorage.clear", params := (hdM 18 6).fst, body := (hdM 18 6).snd.fst, scope := (hdM 18 6).snd.snd, globals := 3, closure := [], defaults := Value.none, kwdefaults := Value.none, doc := Value.str ((hdDoc (hdM 18 6).snd.fst).getD default) 921, pyModule := Value.str (Str.ofString "limits.storage.memory") 850, code := Value.ref 499 } }
noncomputable abbrev hb501 (P : Params) : Obj := { cls := Value.type "tuple", data := Data.seq #[Value.int 1 923] }
noncomputable abbrev hb502 (P : Params) : Obj := { cls := Value.type "tuple", data := Data.seq #[] }
noncomputable abbrev hb503 (P : Params) : Obj := { cls := Value.none, data := Data.fields #[] }
noncomputable abbrev hb504 (P : Params) : Obj := { cls := Value.type "tuple", data := Data.seq #[Value.str (Str.ofString "self") 927, Value.str (Str.ofString "key") 928, Value.str (Str.ofString "limit") 929, Value.str (Str.ofString "expiry") 930, Value.str (Str.ofString "amount") 931] }
noncomputable abbrev hb505 (P : Params) : Obj := { cls := Value.type "tuple", data := Data.seq #[] }
noncomputable abbrev hb506 (P : Params) : Obj := { cls := Value.none, data := Data.func { name := Str.ofString "acquire_entry", qualname := Str.ofString "MemoryStorage.acquire_entry", params := (hdM 18 7).fst, body := (hdM 18 7).snd.fst, scope := (hdM 18 7).snd.snd, globals := 0, closure := [], defaults := Value.none, kwdefaults := Value.none } }
noncomputable abbrev hb507 (P : Params) : Obj := { cls := Value.type "code", data := Data.fields #[Value.str (Str.ofString "acquire_entry") 924, Value.str (Str.ofString "MemoryStorage.acquire_entry") 925, Value.str (Str.ofString "/claim/cut.py") 926, Value.int 347 0, Value.int 5 0, Value.int 0 0, Value.int 0 0, Value.int 3 0, Value.ref 502, Value.bool true, Value.int 181 0, Value.ref 503, Value.none, Value.ref 504, Value.ref 505, Value.ref 506, Value.int 932 0, Value.int 347 0, Value.str (Str.ofString "/claim/cut.py") 933] }
noncomputable abbrev hb508 (P : Params) : Obj := { cls := Value.type "function", data := Data.func { name := Str.ofString "acquire_entry", qualname := Str.ofString "MemoryStorage.acquire_entry", params := (hdM 18 7).fst, body := (hdM 18 7).snd.fst, scope := (hdM 18 7).snd.snd, globals := 3, closure := [], defaults := Value.ref 501, kwdefaults := Value.none, pyModule := Value.str (Str.ofString "limits.storage.memory") 850, code := Value.ref 507 } }
noncomputable abbrev hb509 (P : Params) : Obj := { cls := Value.type "tuple", data := Data.seq #[] }
noncomputable abbrev hb510 (P : Params) : Obj := { cls := Value.none, data := Data.fields #[] }
noncomputable abbrev hb511 (P : Params) : Obj := { cls := Value.type "tuple", data := Data.seq #[Value.str (Str.ofString "self") 938, Value.str (Str.ofString "key") 939] }
noncomputable abbrev hb512 (P : Params) : Obj := { cls := Value.type "tuple", data := Data.seq #[] }
noncomputable abbrev hb513 (P : Params) : Obj := { cls := Value.none, data := Data.func { name := Str.ofString "get_expiry", qualname := Str.ofString "MemoryStorage.get_expiry", params := (hdM 18 8).fst, body := (hdM 18 8).snd.fst, scope := (hdM 18 8).snd.snd, globals := 0, closure := [], defaults := Value.none, kwdefaults := Value.none } }
noncomputable abbrev hb514 (P : Params) : Obj := { cls := Value.type "code", data := Data.fields #[Value.str (Str.ofString "get_expiry") 935, Value.str (Str.ofString "MemoryStorage.get_expiry") 936, Value.str (Str.ofString "/claim/cut.py") 937, Value.int 350 0, Value.int 2 0, Value.int 0 0, Value.int 0 0, Value.int 3 0, Value.ref 509, Value.bool true, Value.int 181 0, Value.ref 510, Value.none, Value.ref 511, Value.ref 512, Value.ref 513, Value.int 940 0, Value.int 350 0, Value.str (Str.ofString "/claim/cut.py") 941] }
noncomputable abbrev hb515 (P : Params) : Obj := { cls := Value.type "function", data := Data.func { name := Str.ofString "get_expiry", qualname := Str.ofString "MemoryStorage.get_expiry", params := (hdM 18 8).fst, body := (hdM 18 8).snd.fst, scope := (hdM 18 8).snd.snd, globals := 3, closure := [], defaults := Value.none, kwdefaults := Value.none, doc := Value.str ((hdDoc (hdM 18 8).snd.fst).getD default) 942, pyModule := Value.str (Str.ofString "limits.storage.memory") 850, code := Value.ref 514 } }
noncomputable abbrev hb516 (P : Params) : Obj := { cls := Value.type "tuple", data := Data.seq #[] }
noncomputable abbrev hb517 (P : Params) : Obj := { cls := Value.none, data := Data.fields #[] }
noncomputable abbrev hb518 (P : Params) : Obj := { cls := Value.type "tuple", data := Data.seq #[Value.str (Str.ofString "self") 947, Value.str (Str.ofString "key") 948, Value.str (Str.ofString "limit") 949, Value.str (Str.ofString "expiry") 950] }
noncomputable abbrev hb519 (P : Params) : Obj := { cls := Value.type "tuple", data := Data.seq #[] }
noncomputable abbrev hb520 (P : Params) : Obj := { cls := Value.none, data := Data.func { name := Str.ofString "get_moving_window", qualname := Str.ofString "MemoryStorage.get_moving_window", params := (hdM 18 9).fst, body := (hdM 18 9).snd.fst, scope := (hdM 18 9).snd.snd, globals := 0, closure := [], defaults := Value.none, kwdefaults := Value.none } }
noncomputable abbrev hb521 (P : Params) : Obj := { cls := Value.type "code", data := Data.fields #[Value.str (Str.ofString "get_moving_window") 944, Value.str (Str.ofString "MemoryStorage.get_moving_window") 945, Value.str (Str.ofString "/claim/cut.py") 946, Value.int 356 0, Value.int 4 0, Value.int 0 0, Value.int 0 0, Value.int 3 0, Value.ref 516, Value.bool true, Value.int 181 0, Value.ref 517, Value.none, Value.ref 518, Value.ref 519, Value.ref 520, Value.int 951 0, Value.int 356 0, Value.str (Str.ofString "/claim/cut.py") 952] }
noncomputable abbrev hb522 (P : Params) : Obj := { cls := Value.type "function", data := Data.func { name := Str.ofString "get_moving_window", qualname := Str.ofString "MemoryStorage.get_moving_window", params := (hdM 18 9).fst, body := (hdM 18 9).snd.fst, scope := (hdM 18 9).snd.snd, globals := 3, closure := [], defaults := Value.none, kwdefaults := Value.none, pyModule := Value.str (Str.ofString "limits.storage.memory") 850, code := Value.ref 521 } }
noncomputable abbrev hb523 (P : Params) : Obj := { cls := Value.type "tuple", data := Data.seq #[Value.int 1 954] }
noncomputable abbrev hb524 (P : Params) : Obj := { cls := Value.type "tuple", data := Data.seq #[] }
noncomputable abbrev hb525 (P : Params) : Obj := { cls := Value.none, data := Data.fields #[] }
noncomputable abbrev hb526 (P : Params) : Obj := { cls := Value.type "tuple", data := Data.seq #[Value.str (Str.ofString "self") 958, Value.str (Str.ofString "key") 959, Value.str (Str.ofString "limit") 960, Value.str (Str.ofString "expiry") 961, Value.str (Str.ofString "amount") 962, Value.str (Str.ofString "now") 963, Value.str (Str.ofString "previous_key") 964, Value.str (Str.ofString "current_key") 965, Value.str (Str.ofString "previous_count") 966, Value.str (Str.ofString "previous_ttl") 967, Value.str (Str.ofString "current_count") 968, Value.str (Str.ofString "_") 969, Value.str (Str.ofString "weighted_count") 970] }
noncomputable abbrev hb527 (P : Params) : Obj := { cls := Value.type "tuple", data := Data.seq #[] }
noncomputable abbrev hb528 (P : Params) : Obj := { cls := Value.none, data := Data.func { name := Str.ofString "acquire_sliding_window_entry", qualname := Str.ofString "MemoryStorage.acquire_sliding_window_entry", params := (hdM 18 10).fst, body := (hdM 18 10).snd.fst, scope := (hdM 18 10).snd.snd, globals := 0, closure := [], defaults := Value.none, kwdefaults := Value.none } }
noncomputable abbrev hb529 (P : Params) : Obj := { cls := Value.type "code", data := Data.fields #[Value.str (Str.ofString "acquire_sliding_window_entry") 955, Value.str (Str.ofString "MemoryStorage.acquire_sliding_window_entry") 956, Value.str (Str.ofString "/claim/cut.py") 957, Value.int 359 0, Value.int 5 0, Value.int 0 0, Value.int 0 0, Value.int 3 0, Value.ref 524, Value.bool true, Value.int 181 0, Value.ref 525, Value.none, Value.ref 526, Value.ref 527, Value.ref 528, Value.int 971 0, Value.int 359 0, Value.str (Str.ofString "/claim/cut.py") 972] }
noncomputable abbrev hb530 (P : Params) : Obj := { cls := Value.type "function", data := Data.func { name := Str.ofString "acquire_sliding_window_entry", qualname := Str.ofString "MemoryStorage.acquire_sliding_window_entry", params := (hdM 18 10).fst, body := (hdM 18 10).snd.fst, scope := (hdM 18 10).snd.snd, globals := 3, closure := [], defaults := Value.ref 523, kwdefaults := Value.none, pyModule := Value.str (Str.ofString "limits.storage.memory") 850, code := Value.ref 529 } }
noncomputable abbrev hb531 (P : Params) : Obj := { cls := Value.type "tuple", data := Data.seq #[] }
noncomputable abbrev hb532 (P : Params) : Obj := { cls := Value.none, data := Data.fields #[] }
noncomputable abbrev hb533 (P : Params) : Obj := { cls := Value.type "tuple", data := Data.seq #[Value.str (Str.ofString "self") 977, Value.str (Str.ofString "previous_key") 978, Value.str (Str.ofString "current_key") 979, Value.str (Str.ofString "expiry") 980, Value.str (Str.ofString "now") 981, Value.str (Str.ofString "previous_count") 982, Value.str (Str.ofString "current_count") 983, Value.str (Str.ofString "previous_ttl") 984, Value.str (Str.ofString "current_ttl") 985] }
noncomputable abbrev hb534 (P : Params) : Obj := { cls := Value.type "tuple", data := Data.seq #[] }
noncomputable abbrev hb535 (P : Params) : Obj := { cls := Value.none, data := Data.func { name := Str.ofString "_get_sliding_window_info", qualname := Str.ofString "MemoryStorage._get_sliding_window_info", params := (hdM 18 11).fst, body := (hdM 18 11).snd.fst, scope := (hdM 18 11).snd.snd, globals := 0, closure := [], defaults := Value.none, kwdefaults := Value.none } }
noncomputable abbrev hb536 (P : Params) : Obj := { cls := Value.type "code", data := Data.fields #[Value.str (Str.ofString "_get_sliding_window_info") 974, Value.str (Str.ofString "MemoryStorage._get_sliding_window_info") 975, Value.str (Str.ofString "/claim/cut.py") 976, Value.int 376 0, Value.int 5 0, Value.int 0 0, Value.int 0 0, Value.int 3 0, Value.ref 531, Value.bool true, Value.int 181 0, Value.ref 532, Value.none, Value.ref 533, Value.ref 534, Value.ref 535, Value.int 986 0, Value.int 376 0, Value.str (Str.ofString "/claim/cut.py") 987] }
noncomputable abbrev hb537 (P : Params) : Obj := { cls := Value.type "function", data := Data.func { name := Str.ofString "_get_sliding_window_info", qualname := Str.ofString "MemoryStorage._get_sliding_window_info", params := (hdM 18 11).fst, body := (hdM 18 11).snd.fst, scope := (hdM 18 11).snd.snd, globals := 3, closure := [], defaults := Value.none, kwdefaults := Value.none, pyModule := Value.str (Str.ofString "limits.storage.memory") 850, code := Value.ref 536 } }
noncomputable abbrev hb538 (P : Params) : Obj := { cls := Value.type "tuple", data := Data.seq #[] }
noncomputable abbrev hb539 (P : Params) : Obj := { cls := Value.none, data := Data.fields #[] }
noncomputable abbrev hb540 (P : Params) : Obj := { cls := Value.type "tuple", data := Data.seq #[Value.str (Str.ofString "self") 992, Value.str (Str.ofString "key") 993, Value.str (Str.ofString "expiry") 994, Value.str (Str.ofString "now") 995, Value.str (Str.ofString "previous_key") 996, Value.str (Str.ofString "current_key") 997] }
noncomputable abbrev hb541 (P : Params) : Obj := { cls := Value.type "tuple", data := Data.seq #[] }
noncomputable abbrev hb542 (P : Params) : Obj := { cls := Value.none, data := Data.func { name := Str.ofString "get_sliding_window", qualname := Str.ofString "MemoryStorage.get_sliding_window", params := (hdM 18 12).fst, body := (hdM 18 12).snd.fst, scope := (hdM 18 12).snd.snd, globals := 0, closure := [], defaults := Value.none, kwdefaults := Value.none } }
noncomputable abbrev hb543 (P : Params) : Obj := { cls := Value.type "code", data := Data.fields #[Value.str (Str.ofString "get_sliding_window") 989, Value.str (Str.ofString "MemoryStorage.get_sliding_window") 990, Value.str (Str.ofString "/claim/cut.py") 991, Value.int 386 0, Value.int 3 0, Value.int 0 0, Value.int 0 0, Value.int 3 0, Value.ref 538, Value.bool true, Value.int 181 0, Value.ref 539, Value.none, Value.ref 540, Value.ref 541, Value.ref 542, Value.int 998 0, Value.int 386 0, Value.str (Str.ofString "/claim/cut.py") 999] }
noncomputable abbrev hb544 (P : Params) : Obj := { cls := Value.type "function", data := Data.func { name := Str.ofString "get_sliding_window", qualname := Str.ofString "MemoryStorage.get_sliding_window", params := (hdM 18 12).fst, body := (hdM 18 12).snd.fst, scope := (hdM 18 12).snd.snd, globals := 3, closure := [], defaults := Value.none, kwdefaults := Value.none, pyModule := Value.str (Str.ofString "limits.storage.memory") 850, code := Value.ref 543 } }
noncomputable abbrev hb545 (P : Params) : Obj := { cls := Value.type "tuple", data := Data.seq #[] }
noncomputable abbrev hb546 (P : Params) : Obj := { cls := Value.none, data := Data.fields #[] }
noncomputable abbrev hb547 (P : Params) : Obj := { cls := Value.type "tuple", data := Data.seq #[Value.str (Str.ofString "self") 1004, Value.str (Str.ofString "key") 1005, Value.str (Str.ofString "expiry") 1006, Value.str (Str.ofString "now") 1007, Value.str (Str.ofString "previous_key") 1008, Value.str (Str.ofString "current_key") 1009] }
noncomputable abbrev hb548 (P : Params) : Obj := { cls := Value.type "tuple", data := Data.seq #[] }
noncomputable abbrev hb549 (P : Params) : Obj := { cls := Value.none, data := Data.func { name := Str.ofString "clear_sliding_window", qualname := Str.ofString "MemoryStorage.clear_sliding_window", params := (hdM 18 13).fst, body := (hdM 18 13).snd.fst, scope := (hdM 18 13).snd.snd, globals := 0, closure := [], defaults := Value.none, kwdefaults := Value.none } }
noncomputable abbrev hb550 (P : Params) : Obj := { cls := Value.type "code", data := Data.fields #[Value.str (Str.ofString "clear_sliding_window") 1001, Value.str (Str.ofString "MemoryStorage.clear_sliding_window") 1002, Value.str (Str.ofString "/claim/cut.py") 1003, Value.int 391 0, Value.int 3 0, Value.int 0 0, Value.int 0 0, Value.int 3 0, Value.ref 545, Value.bool true, Value.int 181 0, Value.ref 546, Value.none, Value.ref 547, Value.ref 548, Value.ref 549, Value.int 1010 0, Value.int 391 0, Value.str (Str.ofString "/claim/cut.py") 1011] }
noncomputable abbrev hb551 (P : Params) : Obj := { cls := Value.type "function", data := Data.func { name := Str.ofString "clear_sliding_window", qualname := Str.ofString "MemoryStorage.clear_sliding_window", params := (hdM 18 13).fst, body := (hdM 18 13).snd.fst, scope := (hdM 18 13).snd.snd, globals := 3, closure := [], defaults := Value.none, kwdefaults := Value.none, pyModule := Value.str (Str.ofString "limits.storage.memory") 850, code := Value.ref 550 } }
noncomputable abbrev hb552 (P : Params) : Obj := { cls := Value.type "tuple", data := Data.seq #[] }
noncomputable abbrev hb553 (P : Params) : Obj := { cls := Value.none, data := Data.fields #[] }
noncomputable abbrev hb554 (P : Params) : Obj := { cls := Value.type "tuple", data := Data.seq #[Value.str (Str.ofString "self") 1016] }
noncomputable abbrev hb555 (P : Params) : Obj := { cls := Value.type "tuple", data := Data.seq #[] }
noncomputable abbrev hb556 (P : Params) : Obj := { cls := Value.none, data := Data.func { name := Str.ofString "check", qualname := Str.ofString "MemoryStorage.check", params := (hdM 18 14).fst, body := (hdM 18 14).snd.fst, scope := (hdM 18 14).snd.snd, globals := 0, closure := [], defaults := Value.none, kwdefaults := Value.none } }
noncomputable abbrev hb557 (P : Params) : Obj := { cls := Value.type "code", data := Data.fields #[Value.str (Str.ofString "check") 1013, Value.str (Str.ofString "MemoryStorage.check") 1014, Value.str (Str.ofString "/claim/cut.py") 1015, Value.int 397 0, Value.int 1 0, Value.int 0 0, Value.int 0 0, Value.int 3 0, Value.ref 552, Value.bool true, Value.int 181 0, Value.ref 553, Value.none, Value.ref 554, Value.ref 555, Value.ref 556, Value.int 1017 0, Value.int 397 0, Value.str (Str.ofString "/claim/cut.py") 1018] }
noncomputable abbrev hb558 (P : Params) : Obj := { cls := Value.type "function", data := Data.func { name := Str.ofString "check", qualname := Str.ofString "MemoryStorage.check", params := (hdM 18 14).fst, body := (hdM 18 14).snd.fst, scope := (hdM 18 14).snd.snd, globals := 3, closure := [], defaults := Value.none, kwdefaults := Value.none, pyModule := Value.str (Str.ofString "limits.storage.memory") 850, code := Value.ref 557 } }
noncomputable abbrev hb559 (P : Params) : Obj := { cls := Value.type "tuple", data := Data.seq #[] }
noncomputable abbrev hb560 (P : Params) : Obj := { cls := Value.none, data := Data.fields #[] }
noncomputable abbrev hb561 (P : Params) : Obj := { cls := Value.type "tuple", data := Data.seq #[Value.str (Str.ofString "self") 1023, Value.str (Str.ofString "num_items") 1024] }
noncomputable abbrev hb562 (P : Params) : Obj := { cls := Value.type "tuple", data := Data.seq #[] }
noncomputable abbrev hb563 (P : Params) : Obj := { cls := Value.none, data := Data.func { name := Str.ofString "reset", qualname := Str.ofString "MemoryStorage.reset", params := (hdM 18 15).fst, body := (hdM 18 15).snd.fst, scope := (hdM 18 15).snd.snd, globals := 0, closure := [], defaults := Value.none, kwdefaults := Value.none } }
noncomputable abbrev hb564 (P : Params) : Obj := { cls := Value.type "code", data := Data.fields #[Value.str (Str.ofString "reset") 1020, Value.str (Str.ofString "MemoryStorage.reset") 1021, Value.str (Str.ofString "/claim/cut.py") 1022, Value.int 400 0, Value.int 1 0, Value.int 0 0, Value.int 0 0, Value.int 3 0, Value.ref 559, Value.bool true, Value.int 181 0, Value.ref 560, Value.none, Value.ref 561, Value.ref 562, Value.ref 563, Value.int 1025 0, Value.int 400 0, Value.str (Str.ofString "/claim/cut.py") 1026] }
noncomputable abbrev hb565 (P : Params) : Obj := { cls := Value.type "function", data := Data.func { name := Str.ofString "reset", qualname := Str.ofString "MemoryStorage.reset", params := (hdM 18 15).fst, body := (hdM 18 15).snd.fst, scope := (hdM 18 15).snd.snd, globals := 3, closure := [], defaults := Value.none, kwdefaults := Value.none, pyModule := Value.str (Str.ofString "limits.storage.memory") 850, code := Value.ref 564 } }
noncomputable abbrev hb566 (P : Params) : Obj := { cls := Value.type "tuple", data := Data.seq #[Value.str (Str.ofString "clock") 1028, Value.str (Str.ofString "events") 1029, Value.str (Str.ofString "expirations") 1030, Value.str (Str.ofString "storage") 1031] }
noncomputable abbrev hb567 (P : Params) : Obj := { cls := Value.type "dict", data := Data.dict #[{ hash := PyData.keyHash P (Str.ofString "__module__"), key := Value.str (Str.ofString "__module__") 859, val := Value.str (Str.ofString "limits.storage.memory") 850 }, { hash := PyData.keyHash P (Str.ofString "__firstlineno__"), key := Value.str (Str.ofString "__firstlineno__") 863, val := Value.int 288 862 }, { hash := PyData.keyHash P (Str.ofString "__doc__"), key := Value.str (Str.ofString "__doc__") 865, val := Value.str ((hdCDoc 18).getD default) 864 }, { hash := PyData.keyHash P (Str.ofString "__init__"), key := Value.str (Str.ofString "__init__") 874, val := Value.ref 463 }, { hash := PyData.keyHash P (Str.ofString "expire_events"), key := Value.str (Str.ofString "expire_events") 881, val := Value.ref 470 }, { hash := PyData.keyHash P (Str.ofString "incr"), key := Value.str (Str.ofString "incr") 893, val := Value.ref 478 }, { hash := PyData.keyHash P (Str.ofString "decr"), key := Value.str (Str.ofString "decr") 904, val := Value.ref 486 }, { hash := PyData.keyHash P (Str.ofString "get"), key := Value.str (Str.ofString "get") 913, val := Value.ref 493 }, { hash := PyData.keyHash P (Str.ofString "clear"), key := Value.str (Str.ofString "clear") 922, val := Value.ref 500 }, { hash := PyData.keyHash P (Str.ofString "acquire_entry"), key := Value.str (Str.ofString "acquire_entry") 934, val := Value.ref 508 }, { hash := PyData.keyHash P (Str.ofString "get_expiry"), key := Value.str (Str.ofString "get_expiry") 943, val := Value.ref 515 }, { hash := PyData.keyHash P (Str.ofString "get_moving_window"), key := Value.str (Str.ofString "get_moving_window") 953, val := Value.ref 522 }, { hash := PyData.keyHash P (Str.ofString "acquire_sliding_window_entry"), key := Value.str (Str.ofString "acquire_sliding_window_entry") 973, val := Value.ref 530 }, { hash := PyData.keyHash P (Str.ofString "_get_sliding_window_info"), key := Value.str (Str.ofString "_get_sliding_window_info") 988, val := Value.ref 537 }, { hash := PyData.keyHash P (Str.ofString "get_sliding_window"), key := Value.str (Str.ofString "get_sliding_window") 1000, val := Value.ref 544 }, { hash := PyData.keyHash P (Str.ofString "clear_sliding_window"), key := Value.str (Str.ofString "clear_sliding_window") 1012, val := Value.ref 551 }, { hash := PyData.keyHash P (Str.ofString "check"), key := Value.str (Str.ofString "check") 1019, val := Value.ref 558 }, { hash := PyData.keyHash P (Str.ofString "reset"), key := Value.str (Str.ofString "reset") 1027, val := Value.ref 565 }, { hash := PyData.keyHash P (Str.ofString "__static_attributes__"), key := Value.str (Str.ofString "__static_attributes__") 1032, val := Value.ref 566 }] 1 }
noncomputable abbrev hb568 (P : Params) : Obj := { cls := Value.type "type", data := Data.cls { name := Str.ofString "MemoryStorage", bases := [Value.ref 445], mro := [Value.ref 568, Value.ref 445, Value.type "object"], ns := 567, qualname := Str.ofString "MemoryStorage" }, slots := #[some (Value.ref 450), none, some (Value.str (Str.ofString "MemoryStorage") 852), some (Value.str (Str.ofString "MemoryStorage") 860), some (Value.builtin "object.__new__"), some (Value.bool true)] }
noncomputable abbrev hb569 (P : Params) : Obj := { cls := Value.type "super", data := Data.fields #[Value.ref 568, Value.ref 568, Value.ref 568] }
noncomputable abbrev hb570 (P : Params) : Obj := { cls := Value.type "builtin_function_or_method", data := Data.fields #[Value.builtin "object.__init_subclass__", Value.ref 568] }
noncomputable abbrev hb571 (P : Params) : Obj := { cls := Value.type "tuple", data := Data.seq #[] }
noncomputable abbrev hb572 (P : Params) : Obj := { cls := Value.none, data := Data.fields #[] }
noncomputable abbrev hb573 (P : Params) : Obj := { cls := Value.type "tuple", data := Data.seq #[Value.str (Str.ofString "script") 1040, Value.str (Str.ofString "head") 1041, Value.str (Str.ofString "length") 1042, Value.str (Str.ofString "most") 1043, Value.str (Str.ofString "limiter") 1044, Value.str (Str.ofString "item") 1045, Value.str (Str.ofString "names") 1046, Value.str (Str.ofString "log") 1047, Value.str (Str.ofString "number") 1048, Value.str (Str.ofString "cost") 1049, Value.str (Str.ofString "rows") 1050, Value.str (Str.ofString "wait") 1051, Value.str (Str.ofString "start") 1052, Value.str (Str.ofString "end") 1053, Value.str (Str.ofString "before") 1054, Value.str (Str.ofString "this") 1055, Value.str (Str.ofString "second") 1056, Value.str (Str.ofString "stats") 1057, Value.str (Str.ofString "moment") 1058, Value.str (Str.ofString "parts") 1059, Value.str (Str.ofString "left") 1060, Value.str (Str.ofString "weight") 1061, Value.str (Str.ofString "last") 1062, Value.str (Str.ofString "place") 1063, Value.str (Str.ofString "told") 1064, Value.str (Str.ofString "later") 1065, Value.str (Str.ofString "other") 1066, Value.str (Str.ofString "unused") 1067] }
noncomputable abbrev hb574 (P : Params) : Obj := { cls := Value.type "tuple", data := Data.seq #[Value.str (Str.ofString "now") 1068] }
noncomputable abbrev hb575 (P : Params) : Obj := { cls := Value.none, data := Data.func { name := Str.ofString "law", qualname := Str.ofString "law", params := (hdT 20).fst, body := (hdT 20).snd.fst, scope := (hdT 20).snd.snd, globals := 0, closure := [], defaults := Value.none, kwdefaults := Value.none } }
noncomputable abbrev hb576 (P : Params) : Obj := { cls := Value.type "code", data := Data.fields #[Value.str (Str.ofString "law") 1037, Value.str (Str.ofString "law") 1038, Value.str (Str.ofString "/claim/cut.py") 1039, Value.int 407 0, Value.int 1 0, Value.int 0 0, Value.int 0 0, Value.int 3 0, Value.ref 571, Value.bool true, Value.int 181 0, Value.ref 572, Value.none, Value.ref 573, Value.ref 574, Value.ref 575, Value.int 1069 0, Value.int 407 0, Value.str (Str.ofString "/claim/cut.py") 1070] }
noncomputable abbrev hb577 (P : Params) : Obj := { cls := Value.type "function", data := Data.func { name := Str.ofString "law", qualname := Str.ofString "law", params := (hdT 20).fst, body := (hdT 20).snd.fst, scope := (hdT 20).snd.snd, globals := 3, closure := [], defaults := Value.none, kwdefaults := Value.none, pyModule := Value.str (Str.ofString "law_ji0057_01") 1035, code := Value.ref 576 } }
noncomputable abbrev hdE : Env := { scope := hdP.main.scope, locals := mainNs, globals := mainNs, cells := [], code := Value.ref 13, frame := some 14 }
noncomputable abbrev hdB : List Stmt := behindTheImports hdP
noncomputable abbrev hdC : Code := Code.body hdB hdE
noncomputable abbrev hdF : List Frame := [topFrame ({ line := 0, col := 0, endLine := 0, endCol := 0 })]
noncomputable abbrev hl1 : List Stmt := (hdB.drop 0).take 9
noncomputable abbrev hl2 : List Stmt := (hdB.drop 9).take 5
noncomputable abbrev hl3 : List Stmt := (hdB.drop 14).take 7
noncomputable abbrev hhA (P : Params) : Heap := Heap.mk (Array.mk ((boot_o_0 P) :: (boot_o_1 P) :: (boot_o_2 P) :: (boot_o_3 P) :: (boot_o_4 P) :: (boot_o_5 P) :: (boot_o_6 P) :: (boot_o_7 P) :: (boot_o_8 P) :: (boot_o_9 P) :: (boot_o_10 P) :: (hb11 P) :: (hb12 P) :: (hb13 P) :: (hb14 P) :: [])) ({ })
noncomputable abbrev hrA (w : World) (os : OsState) : Shared := Shared.mk (hhA w.params) (Array.mk []) ({ }) 187 os
noncomputable abbrev ht0 (P : Params) : BT := (btN (boot_o_0 P) (btN (boot_o_1 P) (btN (boot_o_3 P) (btN (boot_o_7 P) btO btO) (btN (hb11 P) btO btO)) (btN (boot_o_5 P) (btN (boot_o_9 P) btO btO) (btN (hb13 P) btO btO))) (btN (boot_o_2 P) (btN (boot_o_4 P) (btN (boot_o_8 P) btO btO) (btN (hb12 P) btO btO)) (btN (boot_o_6 P) (btN (boot_o_10 P) btO btO) (btN (hb14 P) btO btO))))
noncomputable abbrev hs0 (w : World) (os : OsState) : SharedT := SharedT.mk (ht0 w.params) 15 ({ }) (Array.mk []) ({ }) 187 os
noncomputable abbrev ht1 (P : Params) : BT := (btN (boot_o_0 P) (btN (boot_o_1 P) (btN (hb3 P) (btN (boot_o_7 P) (btN (hb15 P) (btN (hb31 P) (btN (hb63 P) (btN (hb127 P) btO btO) (btN (hb191 P) btO btO)) (btN (hb95 P) (btN (hb159 P) btO btO) btO)) (btN (hb47 P) (btN (hb79 P) (btN (hb143 P) btO btO) (btN (hb207 P) btO btO)) (btN (hb111 P) (btN (hb175 P) btO btO) btO))) (btN (hb23 P) (btN (hb39 P) (btN (hb71 P) (btN (hb135 P) btO btO) (btN (hb199 P) btO btO)) (btN (hb103 P) (btN (hb167 P) btO btO) btO)) (btN (hb55 P) (btN (hb87 P) (btN (hb151 P) btO btO) (btN (hb215 P) btO btO)) (btN (hb119 P) (btN (hb183 P) btO btO) btO)))) (btN (hb11 P) (btN (hb19 P) (btN (hb35 P) (btN (hb67 P) (btN (hb131 P) btO btO) (btN (hb195 P) btO btO)) (btN (hb99 P) (btN (hb163 P) btO btO) btO)) (btN (hb51 P) (btN (hb83 P) (btN (hb147 P) btO btO) (btN (hb211 P) btO btO)) (btN (hb115 P) (btN (hb179 P) btO btO) btO))) (btN (hb27 P) (btN (hb43 P) (btN (hb75 P) (btN (hb139 P) btO btO) (btN (hb203 P) btO btO)) (btN (hb107 P) (btN (hb171 P) btO btO) btO)) (btN (hb59 P) (btN (hb91 P) (btN (hb155 P) btO btO) (btN (hb219 P) btO btO)) (btN (hb123 P) (btN (hb187 P) btO btO) btO))))) (btN (boot_o_5 P) (btN (boot_o_9 P) (btN (hb17 P) (btN (hb33 P) (btN (hb65 P) (btN (hb129 P) btO btO) (btN (hb193 P) btO btO)) (btN (hb97 P) (btN (hb161 P) btO btO) btO)) (btN (hb49 P) (btN (hb81 P) (btN (hb145 P) btO btO) (btN (hb209 P) btO btO)) (btN (hb113 P) (btN (hb177 P) btO btO) btO))) (btN (hb25 P) (btN (hb41 P) (btN (hb73 P) (btN (hb137 P) btO btO) (btN (hb201 P) btO btO)) (btN (hb105 P) (btN (hb169 P) btO btO) btO)) (btN (hb57 P) (btN (hb89 P) (btN (hb153 P) btO btO) (btN (hb217 P) btO btO)) (btN (hb121 P) (btN (hb185 P) btO btO) btO)))) (btN (hb13 P) (btN (hb21 P) (btN (hb37 P) (btN (hb69 P) (btN (hb133 P) btO btO) (btN (hb197 P) btO btO)) (btN (hb101 P) (btN (hb165 P) btO btO) btO)) (btN (hb53 P) (btN (hb85 P) (btN (hb149 P) btO btO) (btN (hb213 P) btO btO)) (btN (hb117 P) (btN (hb181 P) btO btO) btO))) (btN (hb29 P) (btN (hb45 P) (btN (hb77 P) (btN (hb141 P) btO btO) (btN (hb205 P) btO btO)) (btN (hb109 P) (btN (hb173 P) btO btO) btO)) (btN (hb61 P) (btN (hb93 P) (btN (hb157 P) btO btO) btO) (btN (hb125 P) (btN (hb189 P) btO btO) btO)))))) (btN (boot_o_2 P) (btN (boot_o_4 P) (btN (boot_o_8 P) (btN (hb16 P) (btN (hb32 P) (btN (hb64 P) (btN (hb128 P) btO btO) (btN (hb192 P) btO btO)) (btN (hb96 P) (btN (hb160 P) btO btO) btO)) (btN (hb48 P) (btN (hb80 P) (btN (hb144 P) btO btO) (btN (hb208 P) btO btO)) (btN (hb112 P) (btN (hb176 P) btO btO) btO))) (btN (hb24 P) (btN (hb40 P) (btN (hb72 P) (btN (hb136 P) btO btO) (btN (hb200 P) btO btO)) (btN (hb104 P) (btN (hb168 P) btO btO) btO)) (btN (hb56 P) (btN (hb88 P) (btN (hb152 P) btO btO) (btN (hb216 P) btO btO)) (btN (hb120 P) (btN (hb184 P) btO btO) btO)))) (btN (hb12x1 P) (btN (hb20 P) (btN (hb36 P) (btN (hb68 P) (btN (hb132 P) btO btO) (btN (hb196 P) btO btO)) (btN (hb100 P) (btN (hb164 P) btO btO) btO)) (btN (hb52 P) (btN (hb84 P) (btN (hb148 P) btO btO) (btN (hb212 P) btO btO)) (btN (hb116 P) (btN (hb180 P) btO btO) btO))) (btN (hb28 P) (btN (hb44 P) (btN (hb76 P) (btN (hb140 P) btO btO) (btN (hb204 P) btO btO)) (btN (hb108 P) (btN (hb172 P) btO btO) btO)) (btN (hb60 P) (btN (hb92 P) (btN (hb156 P) btO btO) (btN (hb220 P) btO btO)) (btN (hb124 P) (btN (hb188 P) btO btO) btO))))) (btN (boot_o_6 P) (btN (boot_o_10 P) (btN (hb18 P) (btN (hb34 P) (btN (hb66 P) (btN (hb130 P) btO btO) (btN (hb194 P) btO btO)) (btN (hb98 P) (btN (hb162 P) btO btO) btO)) (btN (hb50 P) (btN (hb82 P) (btN (hb146 P) btO btO) (btN (hb210 P) btO btO)) (btN (hb114 P) (btN (hb178 P) btO btO) btO))) (btN (hb26 P) (btN (hb42 P) (btN (hb74 P) (btN (hb138 P) btO btO) (btN (hb202 P) btO btO)) (btN (hb106 P) (btN (hb170 P) btO btO) btO)) (btN (hb58 P) (btN (hb90 P) (btN (hb154 P) btO btO) (btN (hb218 P) btO btO)) (btN (hb122 P) (btN (hb186 P) btO btO) btO)))) (btN (hb14 P) (btN (hb22 P) (btN (hb38 P) (btN (hb70 P) (btN (hb134 P) btO btO) (btN (hb198 P) btO btO)) (btN (hb102 P) (btN (hb166 P) btO btO) btO)) (btN (hb54 P) (btN (hb86 P) (btN (hb150 P) btO btO) (btN (hb214 P) btO btO)) (btN (hb118 P) (btN (hb182 P) btO btO) btO))) (btN (hb30 P) (btN (hb46 P) (btN (hb78 P) (btN (hb142 P) btO btO) (btN (hb206 P) btO btO)) (btN (hb110 P) (btN (hb174 P) btO btO) btO)) (btN (hb62 P) (btN (hb94 P) (btN (hb158 P) btO btO) btO) (btN (hb126 P) (btN (hb190 P) btO btO) btO)))))))
noncomputable abbrev hs1 (w : World) (os : OsState) : SharedT := SharedT.mk (ht1 w.params) 221 ({ }) (Array.mk []) ({ }) 496 os
noncomputable abbrev ht2 (P : Params) : BT := (btN (boot_o_0 P) (btN (boot_o_1 P) (btN (hb3x1 P) (btN (boot_o_7 P) (btN (hb15 P) (btN (hb31 P) (btN (hb63 P) (btN (hb127 P) (btN (hb255 P) btO btO) (btN (hb383 P) btO btO)) (btN (hb191 P) (btN (hb319 P) btO btO) btO)) (btN (hb95 P) (btN (hb159 P) (btN (hb287 P) btO btO) btO) (btN (hb223 P) (btN (hb351 P) btO btO) btO))) (btN (hb47 P) (btN (hb79 P) (btN (hb143 P) (btN (hb271 P) btO btO) (btN (hb399 P) btO btO)) (btN (hb207 P) (btN (hb335 P) btO btO) btO)) (btN (hb111 P) (btN (hb175 P) (btN (hb303 P) btO btO) btO) (btN (hb239 P) (btN (hb367 P) btO btO) btO)))) (btN (hb23 P) (btN (hb39 P) (btN (hb71 P) (btN (hb135 P) (btN (hb263 P) btO btO) (btN (hb391 P) btO btO)) (btN (hb199 P) (btN (hb327 P) btO btO) btO)) (btN (hb103 P) (btN (hb167 P) (btN (hb295 P) btO btO) btO) (btN (hb231 P) (btN (hb359 P) btO btO) btO))) (btN (hb55 P) (btN (hb87 P) (btN (hb151 P) (btN (hb279 P) btO btO) (btN (hb407 P) btO btO)) (btN (hb215 P) (btN (hb343 P) btO btO) btO)) (btN (hb119 P) (btN (hb183 P) (btN (hb311 P) btO btO) btO) (btN (hb247 P) (btN (hb375 P) btO btO) btO))))) (btN (hb11 P) (btN (hb19 P) (btN (hb35 P) (btN (hb67 P) (btN (hb131 P) (btN (hb259 P) btO btO) (btN (hb387 P) btO btO)) (btN (hb195 P) (btN (hb323 P) btO btO) btO)) (btN (hb99 P) (btN (hb163 P) (btN (hb291 P) btO btO) btO) (btN (hb227 P) (btN (hb355 P) btO btO) btO))) (btN (hb51 P) (btN (hb83 P) (btN (hb147 P) (btN (hb275 P) btO btO) (btN (hb403 P) btO btO)) (btN (hb211 P) (btN (hb339 P) btO btO) btO)) (btN (hb115 P) (btN (hb179 P) (btN (hb307 P) btO btO) btO) (btN (hb243 P) (btN (hb371 P) btO btO) btO)))) (btN (hb27 P) (btN (hb43 P) (btN (hb75 P) (btN (hb139 P) (btN (hb267 P) btO btO) (btN (hb395 P) btO btO)) (btN (hb203 P) (btN (hb331 P) btO btO) btO)) (btN (hb107 P) (btN (hb171 P) (btN (hb299 P) btO btO) btO) (btN (hb235 P) (btN (hb363 P) btO btO) btO))) (btN (hb59 P) (btN (hb91 P) (btN (hb155 P) (btN (hb283 P) btO btO) btO) (btN (hb219 P) (btN (hb347 P) btO btO) btO)) (btN (hb123 P) (btN (hb187 P) (btN (hb315 P) btO btO) btO) (btN (hb251 P) (btN (hb379 P) btO btO) btO)))))) (btN (boot_o_5 P) (btN (boot_o_9 P) (btN (hb17 P) (btN (hb33 P) (btN (hb65 P) (btN (hb129 P) (btN (hb257 P) btO btO) (btN (hb385 P) btO btO)) (btN (hb193 P) (btN (hb321 P) btO btO) btO)) (btN (hb97 P) (btN (hb161 P) (btN (hb289 P) btO btO) btO) (btN (hb225 P) (btN (hb353 P) btO btO) btO))) (btN (hb49 P) (btN (hb81 P) (btN (hb145 P) (btN (hb273 P) btO btO) (btN (hb401 P) btO btO)) (btN (hb209 P) (btN (hb337 P) btO btO) btO)) (btN (hb113 P) (btN (hb177 P) (btN (hb305 P) btO btO) btO) (btN (hb241 P) (btN (hb369 P) btO btO) btO)))) (btN (hb25 P) (btN (hb41 P) (btN (hb73 P) (btN (hb137 P) (btN (hb265 P) btO btO) (btN (hb393 P) btO btO)) (btN (hb201 P) (btN (hb329 P) btO btO) btO)) (btN (hb105 P) (btN (hb169 P) (btN (hb297 P) btO btO) btO) (btN (hb233 P) (btN (hb361 P) btO btO) btO))) (btN (hb57 P) (btN (hb89 P) (btN (hb153 P) (btN (hb281 P) btO btO) btO) (btN (hb217 P) (btN (hb345 P) btO btO) btO)) (btN (hb121 P) (btN (hb185 P) (btN (hb313 P) btO btO) btO) (btN (hb249 P) (btN (hb377 P) btO btO) btO))))) (btN (hb13 P) (btN (hb21 P) (btN (hb37 P) (btN (hb69 P) (btN (hb133 P) (btN (hb261 P) btO btO) (btN (hb389 P) btO btO)) (btN (hb197 P) (btN (hb325 P) btO btO) btO)) (btN (hb101 P) (btN (hb165 P) (btN (hb293 P) btO btO) btO) (btN (hb229 P) (btN (hb357 P) btO btO) btO))) (btN (hb53 P) (btN (hb85 P) (btN (hb149 P) (btN (hb277 P) btO btO) (btN (hb405 P) btO btO)) (btN (hb213 P) (btN (hb341 P) btO btO) btO)) (btN (hb117 P) (btN (hb181 P) (btN (hb309 P) btO btO) btO) (btN (hb245 P) (btN (hb373 P) btO btO) btO)))) (btN (hb29 P) (btN (hb45 P) (btN (hb77 P) (btN (hb141 P) (btN (hb269 P) btO btO) (btN (hb397 P) btO btO)) (btN (hb205 P) (btN (hb333 P) btO btO) btO)) (btN (hb109 P) (btN (hb173 P) (btN (hb301 P) btO btO) btO) (btN (hb237 P) (btN (hb365 P) btO btO) btO))) (btN (hb61 P) (btN (hb93 P) (btN (hb157 P) (btN (hb285 P) btO btO) btO) (btN (hb221 P) (btN (hb349 P) btO btO) btO)) (btN (hb125 P) (btN (hb189 P) (btN (hb317 P) btO btO) btO) (btN (hb253 P) (btN (hb381 P) btO btO) btO))))))) (btN (boot_o_2 P) (btN (boot_o_4 P) (btN (boot_o_8 P) (btN (hb16 P) (btN (hb32 P) (btN (hb64 P) (btN (hb128 P) (btN (hb256 P) btO btO) (btN (hb384 P) btO btO)) (btN (hb192 P) (btN (hb320 P) btO btO) btO)) (btN (hb96 P) (btN (hb160 P) (btN (hb288 P) btO btO) btO) (btN (hb224 P) (btN (hb352 P) btO btO) btO))) (btN (hb48 P) (btN (hb80 P) (btN (hb144 P) (btN (hb272 P) btO btO) (btN (hb400 P) btO btO)) (btN (hb208 P) (btN (hb336 P) btO btO) btO)) (btN (hb112 P) (btN (hb176 P) (btN (hb304 P) btO btO) btO) (btN (hb240 P) (btN (hb368 P) btO btO) btO)))) (btN (hb24 P) (btN (hb40 P) (btN (hb72 P) (btN (hb136 P) (btN (hb264 P) btO btO) (btN (hb392 P) btO btO)) (btN (hb200 P) (btN (hb328 P) btO btO) btO)) (btN (hb104 P) (btN (hb168 P) (btN (hb296 P) btO btO) btO) (btN (hb232 P) (btN (hb360 P) btO btO) btO))) (btN (hb56 P) (btN (hb88 P) (btN (hb152 P) (btN (hb280 P) btO btO) (btN (hb408 P) btO btO)) (btN (hb216 P) (btN (hb344 P) btO btO) btO)) (btN (hb120 P) (btN (hb184 P) (btN (hb312 P) btO btO) btO) (btN (hb248 P) (btN (hb376 P) btO btO) btO))))) (btN (hb12x2 P) (btN (hb20 P) (btN (hb36 P) (btN (hb68 P) (btN (hb132 P) (btN (hb260 P) btO btO) (btN (hb388 P) btO btO)) (btN (hb196 P) (btN (hb324 P) btO btO) btO)) (btN (hb100 P) (btN (hb164 P) (btN (hb292 P) btO btO) btO) (btN (hb228 P) (btN (hb356 P) btO btO) btO))) (btN (hb52 P) (btN (hb84 P) (btN (hb148 P) (btN (hb276 P) btO btO) (btN (hb404 P) btO btO)) (btN (hb212 P) (btN (hb340 P) btO btO) btO)) (btN (hb116 P) (btN (hb180 P) (btN (hb308 P) btO btO) btO) (btN (hb244 P) (btN (hb372 P) btO btO) btO)))) (btN (hb28 P) (btN (hb44 P) (btN (hb76 P) (btN (hb140 P) (btN (hb268 P) btO btO) (btN (hb396 P) btO btO)) (btN (hb204 P) (btN (hb332 P) btO btO) btO)) (btN (hb108 P) (btN (hb172 P) (btN (hb300 P) btO btO) btO) (btN (hb236 P) (btN (hb364 P) btO btO) btO))) (btN (hb60 P) (btN (hb92 P) (btN (hb156 P) (btN (hb284 P) btO btO) btO) (btN (hb220 P) (btN (hb348 P) btO btO) btO)) (btN (hb124 P) (btN (hb188 P) (btN (hb316 P) btO btO) btO) (btN (hb252 P) (btN (hb380 P) btO btO) btO)))))) (btN (boot_o_6 P) (btN (boot_o_10 P) (btN (hb18 P) (btN (hb34 P) (btN (hb66 P) (btN (hb130 P) (btN (hb258 P) btO btO) (btN (hb386 P) btO btO)) (btN (hb194 P) (btN (hb322 P) btO btO) btO)) (btN (hb98 P) (btN (hb162 P) (btN (hb290 P) btO btO) btO) (btN (hb226 P) (btN (hb354 P) btO btO) btO))) (btN (hb50 P) (btN (hb82 P) (btN (hb146 P) (btN (hb274 P) btO btO) (btN (hb402 P) btO btO)) (btN (hb210 P) (btN (hb338 P) btO btO) btO)) (btN (hb114 P) (btN (hb178 P) (btN (hb306 P) btO btO) btO) (btN (hb242 P) (btN (hb370 P) btO btO) btO)))) (btN (hb26 P) (btN (hb42 P) (btN (hb74 P) (btN (hb138 P) (btN (hb266 P) btO btO) (btN (hb394 P) btO btO)) (btN (hb202 P) (btN (hb330 P) btO btO) btO)) (btN (hb106 P) (btN (hb170 P) (btN (hb298 P) btO btO) btO) (btN (hb234 P) (btN (hb362 P) btO btO) btO))) (btN (hb58 P) (btN (hb90 P) (btN (hb154 P) (btN (hb282 P) btO btO) btO) (btN (hb218 P) (btN (hb346 P) btO btO) btO)) (btN (hb122 P) (btN (hb186 P) (btN (hb314 P) btO btO) btO) (btN (hb250 P) (btN (hb378 P) btO btO) btO))))) (btN (hb14 P) (btN (hb22 P) (btN (hb38 P) (btN (hb70 P) (btN (hb134 P) (btN (hb262 P) btO btO) (btN (hb390 P) btO btO)) (btN (hb198 P) (btN (hb326 P) btO btO) btO)) (btN (hb102 P) (btN (hb166 P) (btN (hb294 P) btO btO) btO) (btN (hb230 P) (btN (hb358 P) btO btO) btO))) (btN (hb54 P) (btN (hb86 P) (btN (hb150 P) (btN (hb278 P) btO btO) (btN (hb406 P) btO btO)) (btN (hb214 P) (btN (hb342 P) btO btO) btO)) (btN (hb118 P) (btN (hb182 P) (btN (hb310 P) btO btO) btO) (btN (hb246 P) (btN (hb374 P) btO btO) btO)))) (btN (hb30 P) (btN (hb46 P) (btN (hb78 P) (btN (hb142 P) (btN (hb270 P) btO btO) (btN (hb398 P) btO btO)) (btN (hb206 P) (btN (hb334 P) btO btO) btO)) (btN (hb110 P) (btN (hb174 P) (btN (hb302 P) btO btO) btO) (btN (hb238 P) (btN (hb366 P) btO btO) btO))) (btN (hb62 P) (btN (hb94 P) (btN (hb158 P) (btN (hb286 P) btO btO) btO) (btN (hb222 P) (btN (hb350 P) btO btO) btO)) (btN (hb126 P) (btN (hb190 P) (btN (hb318 P) btO btO) btO) (btN (hb254 P) (btN (hb382 P) btO btO) btO))))))))
noncomputable abbrev hs2 (w : World) (os : OsState) : SharedT := SharedT.mk (ht2 w.params) 409 ({ }) (Array.mk []) ({ }) 774 os
noncomputable abbrev ht3 (P : Params) : BT := (btN (boot_o_0 P) (btN (boot_o_1 P) (btN (hb3x2 P) (btN (boot_o_7 P) (btN (hb15 P) (btN (hb31 P) (btN (hb63 P) (btN (hb127 P) (btN (hb255 P) (btN (hb511 P) btO btO) btO) (btN (hb383 P) btO btO)) (btN (hb191 P) (btN (hb319 P) (btN (hb575 P) btO btO) btO) (btN (hb447 P) btO btO))) (btN (hb95 P) (btN (hb159 P) (btN (hb287 P) (btN (hb543 P) btO btO) btO) (btN (hb415 P) btO btO)) (btN (hb223 P) (btN (hb351 P) btO btO) (btN (hb479 P) btO btO)))) (btN (hb47 P) (btN (hb79 P) (btN (hb143 P) (btN (hb271 P) (btN (hb527 P) btO btO) btO) (btN (hb399 P) btO btO)) (btN (hb207 P) (btN (hb335 P) btO btO) (btN (hb463 P) btO btO))) (btN (hb111 P) (btN (hb175 P) (btN (hb303 P) (btN (hb559 P) btO btO) btO) (btN (hb431 P) btO btO)) (btN (hb239 P) (btN (hb367 P) btO btO) (btN (hb495 P) btO btO))))) (btN (hb23 P) (btN (hb39 P) (btN (hb71 P) (btN (hb135 P) (btN (hb263 P) (btN (hb519 P) btO btO) btO) (btN (hb391 P) btO btO)) (btN (hb199 P) (btN (hb327 P) btO btO) (btN (hb455 P) btO btO))) (btN (hb103 P) (btN (hb167 P) (btN (hb295 P) (btN (hb551 P) btO btO) btO) (btN (hb423 P) btO btO)) (btN (hb231 P) (btN (hb359 P) btO btO) (btN (hb487 P) btO btO)))) (btN (hb55 P) (btN (hb87 P) (btN (hb151 P) (btN (hb279 P) (btN (hb535 P) btO btO) btO) (btN (hb407 P) btO btO)) (btN (hb215 P) (btN (hb343 P) btO btO) (btN (hb471 P) btO btO))) (btN (hb119 P) (btN (hb183 P) (btN (hb311 P) (btN (hb567 P) btO btO) btO) (btN (hb439 P) btO btO)) (btN (hb247 P) (btN (hb375 P) btO btO) (btN (hb503 P) btO btO)))))) (btN (hb11 P) (btN (hb19 P) (btN (hb35 P) (btN (hb67 P) (btN (hb131 P) (btN (hb259 P) (btN (hb515 P) btO btO) btO) (btN (hb387 P) btO btO)) (btN (hb195 P) (btN (hb323 P) btO btO) (btN (hb451 P) btO btO))) (btN (hb99 P) (btN (hb163 P) (btN (hb291 P) (btN (hb547 P) btO btO) btO) (btN (hb419 P) btO btO)) (btN (hb227 P) (btN (hb355 P) btO btO) (btN (hb483 P) btO btO)))) (btN (hb51 P) (btN (hb83 P) (btN (hb147 P) (btN (hb275 P) (btN (hb531 P) btO btO) btO) (btN (hb403 P) btO btO)) (btN (hb211 P) (btN (hb339 P) btO btO) (btN (hb467 P) btO btO))) (btN (hb115 P) (btN (hb179 P) (btN (hb307 P) (btN (hb563 P) btO btO) btO) (btN (hb435 P) btO btO)) (btN (hb243 P) (btN (hb371 P) btO btO) (btN (hb499 P) btO btO))))) (btN (hb27 P) (btN (hb43 P) (btN (hb75 P) (btN (hb139 P) (btN (hb267 P) (btN (hb523 P) btO btO) btO) (btN (hb395 P) btO btO)) (btN (hb203 P) (btN (hb331 P) btO btO) (btN (hb459 P) btO btO))) (btN (hb107 P) (btN (hb171 P) (btN (hb299 P) (btN (hb555 P) btO btO) btO) (btN (hb427 P) btO btO)) (btN (hb235 P) (btN (hb363 P) btO btO) (btN (hb491 P) btO btO)))) (btN (hb59 P) (btN (hb91 P) (btN (hb155 P) (btN (hb283 P) (btN (hb539 P) btO btO) btO) (btN (hb411 P) btO btO)) (btN (hb219 P) (btN (hb347 P) btO btO) (btN (hb475 P) btO btO))) (btN (hb123 P) (btN (hb187 P) (btN (hb315 P) (btN (hb571 P) btO btO) btO) (btN (hb443 P) btO btO)) (btN (hb251 P) (btN (hb379 P) btO btO) (btN (hb507 P) btO btO))))))) (btN (boot_o_5 P) (btN (boot_o_9 P) (btN (hb17 P) (btN (hb33 P) (btN (hb65 P) (btN (hb129 P) (btN (hb257 P) (btN (hb513 P) btO btO) btO) (btN (hb385 P) btO btO)) (btN (hb193 P) (btN (hb321 P) (btN (hb577 P) btO btO) btO) (btN (hb449 P) btO btO))) (btN (hb97 P) (btN (hb161 P) (btN (hb289 P) (btN (hb545 P) btO btO) btO) (btN (hb417 P) btO btO)) (btN (hb225 P) (btN (hb353 P) btO btO) (btN (hb481 P) btO btO)))) (btN (hb49 P) (btN (hb81 P) (btN (hb145 P) (btN (hb273 P) (btN (hb529 P) btO btO) btO) (btN (hb401 P) btO btO)) (btN (hb209 P) (btN (hb337 P) btO btO) (btN (hb465 P) btO btO))) (btN (hb113 P) (btN (hb177 P) (btN (hb305 P) (btN (hb561 P) btO btO) btO) (btN (hb433 P) btO btO)) (btN (hb241 P) (btN (hb369 P) btO btO) (btN (hb497 P) btO btO))))) (btN (hb25 P) (btN (hb41 P) (btN (hb73 P) (btN (hb137 P) (btN (hb265 P) (btN (hb521 P) btO btO) btO) (btN (hb393 P) btO btO)) (btN (hb201 P) (btN (hb329 P) btO btO) (btN (hb457 P) btO btO))) (btN (hb105 P) (btN (hb169 P) (btN (hb297 P) (btN (hb553 P) btO btO) btO) (btN (hb425 P) btO btO)) (btN (hb233 P) (btN (hb361 P) btO btO) (btN (hb489 P) btO btO)))) (btN (hb57 P) (btN (hb89 P) (btN (hb153 P) (btN (hb281 P) (btN (hb537 P) btO btO) btO) (btN (hb409 P) btO btO)) (btN (hb217 P) (btN (hb345 P) btO btO) (btN (hb473 P) btO btO))) (btN (hb121 P) (btN (hb185 P) (btN (hb313 P) (btN (hb569 P) btO btO) btO) (btN (hb441 P) btO btO)) (btN (hb249 P) (btN (hb377 P) btO btO) (btN (hb505 P) btO btO)))))) (btN (hb13 P) (btN (hb21 P) (btN (hb37 P) (btN (hb69 P) (btN (hb133 P) (btN (hb261 P) (btN (hb517 P) btO btO) btO) (btN (hb389 P) btO btO)) (btN (hb197 P) (btN (hb325 P) btO btO) (btN (hb453 P) btO btO))) (btN (hb101 P) (btN (hb165 P) (btN (hb293 P) (btN (hb549 P) btO btO) btO) (btN (hb421 P) btO btO)) (btN (hb229 P) (btN (hb357 P) btO btO) (btN (hb485 P) btO btO)))) (btN (hb53 P) (btN (hb85 P) (btN (hb149 P) (btN (hb277 P) (btN (hb533 P) btO btO) btO) (btN (hb405 P) btO btO)) (btN (hb213 P) (btN (hb341 P) btO btO) (btN (hb469 P) btO btO))) (btN (hb117 P) (btN (hb181 P) (btN (hb309 P) (btN (hb565 P) btO btO) btO) (btN (hb437 P) btO btO)) (btN (hb245 P) (btN (hb373 P) btO btO) (btN (hb501 P) btO btO))))) (btN (hb29 P) (btN (hb45 P) (btN (hb77 P) (btN (hb141 P) (btN (hb269 P) (btN (hb525 P) btO btO) btO) (btN (hb397 P) btO btO)) (btN (hb205 P) (btN (hb333 P) btO btO) (btN (hb461 P) btO btO))) (btN (hb109 P) (btN (hb173 P) (btN (hb301 P) (btN (hb557 P) btO btO) btO) (btN (hb429 P) btO btO)) (btN (hb237 P) (btN (hb365 P) btO btO) (btN (hb493 P) btO btO)))) (btN (hb61 P) (btN (hb93 P) (btN (hb157 P) (btN (hb285 P) (btN (hb541 P) btO btO) btO) (btN (hb413 P) btO btO)) (btN (hb221 P) (btN (hb349 P) btO btO) (btN (hb477 P) btO btO))) (btN (hb125 P) (btN (hb189 P) (btN (hb317 P) (btN (hb573 P) btO btO) btO) (btN (hb445 P) btO btO)) (btN (hb253 P) (btN (hb381 P) btO btO) (btN (hb509 P) btO btO)))))))) (btN (boot_o_2 P) (btN (boot_o_4 P) (btN (boot_o_8 P) (btN (hb16 P) (btN (hb32 P) (btN (hb64 P) (btN (hb128 P) (btN (hb256 P) (btN (hb512 P) btO btO) btO) (btN (hb384 P) btO btO)) (btN (hb192 P) (btN (hb320 P) (btN (hb576 P) btO btO) btO) (btN (hb448 P) btO btO))) (btN (hb96 P) (btN (hb160 P) (btN (hb288 P) (btN (hb544 P) btO btO) btO) (btN (hb416 P) btO btO)) (btN (hb224 P) (btN (hb352 P) btO btO) (btN (hb480 P) btO btO)))) (btN (hb48 P) (btN (hb80 P) (btN (hb144 P) (btN (hb272 P) (btN (hb528 P) btO btO) btO) (btN (hb400 P) btO btO)) (btN (hb208 P) (btN (hb336 P) btO btO) (btN (hb464 P) btO btO))) (btN (hb112 P) (btN (hb176 P) (btN (hb304 P) (btN (hb560 P) btO btO) btO) (btN (hb432 P) btO btO)) (btN (hb240 P) (btN (hb368 P) btO btO) (btN (hb496 P) btO btO))))) (btN (hb24 P) (btN (hb40 P) (btN (hb72 P) (btN (hb136 P) (btN (hb264 P) (btN (hb520 P) btO btO) btO) (btN (hb392 P) btO btO)) (btN (hb200 P) (btN (hb328 P) btO btO) (btN (hb456 P) btO btO))) (btN (hb104 P) (btN (hb168 P) (btN (hb296 P) (btN (hb552 P) btO btO) btO) (btN (hb424 P) btO btO)) (btN (hb232 P) (btN (hb360 P) btO btO) (btN (hb488 P) btO btO)))) (btN (hb56 P) (btN (hb88 P) (btN (hb152 P) (btN (hb280 P) (btN (hb536 P) btO btO) btO) (btN (hb408 P) btO btO)) (btN (hb216 P) (btN (hb344 P) btO btO) (btN (hb472 P) btO btO))) (btN (hb120 P) (btN (hb184 P) (btN (hb312 P) (btN (hb568 P) btO btO) btO) (btN (hb440 P) btO btO)) (btN (hb248 P) (btN (hb376 P) btO btO) (btN (hb504 P) btO btO)))))) (btN (hb12x3 P) (btN (hb20 P) (btN (hb36 P) (btN (hb68 P) (btN (hb132 P) (btN (hb260 P) (btN (hb516 P) btO btO) btO) (btN (hb388 P) btO btO)) (btN (hb196 P) (btN (hb324 P) btO btO) (btN (hb452 P) btO btO))) (btN (hb100 P) (btN (hb164 P) (btN (hb292 P) (btN (hb548 P) btO btO) btO) (btN (hb420 P) btO btO)) (btN (hb228 P) (btN (hb356 P) btO btO) (btN (hb484 P) btO btO)))) (btN (hb52 P) (btN (hb84 P) (btN (hb148 P) (btN (hb276 P) (btN (hb532 P) btO btO) btO) (btN (hb404x1 P) btO btO)) (btN (hb212 P) (btN (hb340 P) btO btO) (btN (hb468 P) btO btO))) (btN (hb116 P) (btN (hb180 P) (btN (hb308 P) (btN (hb564 P) btO btO) btO) (btN (hb436 P) btO btO)) (btN (hb244 P) (btN (hb372 P) btO btO) (btN (hb500 P) btO btO))))) (btN (hb28 P) (btN (hb44 P) (btN (hb76 P) (btN (hb140 P) (btN (hb268 P) (btN (hb524 P) btO btO) btO) (btN (hb396 P) btO btO)) (btN (hb204 P) (btN (hb332 P) btO btO) (btN (hb460 P) btO btO))) (btN (hb108 P) (btN (hb172 P) (btN (hb300 P) (btN (hb556 P) btO btO) btO) (btN (hb428 P) btO btO)) (btN (hb236 P) (btN (hb364 P) btO btO) (btN (hb492 P) btO btO)))) (btN (hb60 P) (btN (hb92 P) (btN (hb156 P) (btN (hb284 P) (btN (hb540 P) btO btO) btO) (btN (hb412 P) btO btO)) (btN (hb220 P) (btN (hb348 P) btO btO) (btN (hb476 P) btO btO))) (btN (hb124 P) (btN (hb188 P) (btN (hb316 P) (btN (hb572 P) btO btO) btO) (btN (hb444 P) btO btO)) (btN (hb252 P) (btN (hb380 P) btO btO) (btN (hb508 P) btO btO))))))) (btN (boot_o_6 P) (btN (boot_o_10 P) (btN (hb18 P) (btN (hb34 P) (btN (hb66 P) (btN (hb130 P) (btN (hb258 P) (btN (hb514 P) btO btO) btO) (btN (hb386 P) btO btO)) (btN (hb194 P) (btN (hb322 P) btO btO) (btN (hb450 P) btO btO))) (btN (hb98 P) (btN (hb162 P) (btN (hb290 P) (btN (hb546 P) btO btO) btO) (btN (hb418 P) btO btO)) (btN (hb226 P) (btN (hb354 P) btO btO) (btN (hb482 P) btO btO)))) (btN (hb50 P) (btN (hb82 P) (btN (hb146 P) (btN (hb274 P) (btN (hb530 P) btO btO) btO) (btN (hb402 P) btO btO)) (btN (hb210 P) (btN (hb338 P) btO btO) (btN (hb466 P) btO btO))) (btN (hb114 P) (btN (hb178 P) (btN (hb306 P) (btN (hb562 P) btO btO) btO) (btN (hb434 P) btO btO)) (btN (hb242 P) (btN (hb370 P) btO btO) (btN (hb498 P) btO btO))))) (btN (hb26 P) (btN (hb42 P) (btN (hb74 P) (btN (hb138 P) (btN (hb266 P) (btN (hb522 P) btO btO) btO) (btN (hb394 P) btO btO)) (btN (hb202 P) (btN (hb330 P) btO btO) (btN (hb458 P) btO btO))) (btN (hb106 P) (btN (hb170 P) (btN (hb298 P) (btN (hb554 P) btO btO) btO) (btN (hb426 P) btO btO)) (btN (hb234 P) (btN (hb362 P) btO btO) (btN (hb490 P) btO btO)))) (btN (hb58 P) (btN (hb90 P) (btN (hb154 P) (btN (hb282 P) (btN (hb538 P) btO btO) btO) (btN (hb410 P) btO btO)) (btN (hb218 P) (btN (hb346 P) btO btO) (btN (hb474 P) btO btO))) (btN (hb122 P) (btN (hb186 P) (btN (hb314 P) (btN (hb570 P) btO btO) btO) (btN (hb442 P) btO btO)) (btN (hb250 P) (btN (hb378 P) btO btO) (btN (hb506 P) btO btO)))))) (btN (hb14 P) (btN (hb22 P) (btN (hb38 P) (btN (hb70 P) (btN (hb134 P) (btN (hb262 P) (btN (hb518 P) btO btO) btO) (btN (hb390 P) btO btO)) (btN (hb198 P) (btN (hb326 P) btO btO) (btN (hb454 P) btO btO))) (btN (hb102 P) (btN (hb166 P) (btN (hb294 P) (btN (hb550 P) btO btO) btO) (btN (hb422 P) btO btO)) (btN (hb230 P) (btN (hb358 P) btO btO) (btN (hb486 P) btO btO)))) (btN (hb54 P) (btN (hb86 P) (btN (hb150 P) (btN (hb278 P) (btN (hb534 P) btO btO) btO) (btN (hb406 P) btO btO)) (btN (hb214 P) (btN (hb342 P) btO btO) (btN (hb470 P) btO btO))) (btN (hb118 P) (btN (hb182 P) (btN (hb310 P) (btN (hb566 P) btO btO) btO) (btN (hb438 P) btO btO)) (btN (hb246 P) (btN (hb374 P) btO btO) (btN (hb502 P) btO btO))))) (btN (hb30 P) (btN (hb46 P) (btN (hb78 P) (btN (hb142 P) (btN (hb270 P) (btN (hb526 P) btO btO) btO) (btN (hb398 P) btO btO)) (btN (hb206 P) (btN (hb334 P) btO btO) (btN (hb462 P) btO btO))) (btN (hb110 P) (btN (hb174 P) (btN (hb302 P) (btN (hb558 P) btO btO) btO) (btN (hb430 P) btO btO)) (btN (hb238 P) (btN (hb366 P) btO btO) (btN (hb494 P) btO btO)))) (btN (hb62 P) (btN (hb94 P) (btN (hb158 P) (btN (hb286 P) (btN (hb542 P) btO btO) btO) (btN (hb414 P) btO btO)) (btN (hb222 P) (btN (hb350 P) btO btO) (btN (hb478 P) btO btO))) (btN (hb126 P) (btN (hb190 P) (btN (hb318 P) (btN (hb574 P) btO btO) btO) (btN (hb446 P) btO btO)) (btN (hb254 P) (btN (hb382 P) btO btO) (btN (hb510 P) btO btO)))))))))
noncomputable abbrev hs3 (w : World) (os : OsState) : SharedT := SharedT.mk (ht3 w.params) 578 ({ }) (Array.mk []) ({ }) 1072 os
noncomputable abbrev hhF (P : Params) : Heap := Heap.mk (Array.mk ((boot_o_0 P) :: (boot_o_1 P) :: (boot_o_2 P) :: (hb3x2 P) :: (boot_o_4 P) :: (boot_o_5 P) :: (boot_o_6 P) :: (boot_o_7 P) :: (boot_o_8 P) :: (boot_o_9 P) :: (boot_o_10 P) :: (hb11 P) :: (hb12x3 P) :: (hb13 P) :: (hb14 P) :: (hb15 P) :: (hb16 P) :: (hb17 P) :: (hb18 P) :: (hb19 P) :: (hb20 P) :: (hb21 P) :: (hb22 P) :: (hb23 P) :: (hb24 P) :: (hb25 P) :: (hb26 P) :: (hb27 P) :: (hb28 P) :: (hb29 P) :: (hb30 P) :: (hb31 P) :: (hb32 P) :: (hb33 P) :: (hb34 P) :: (hb35 P) :: (hb36 P) :: (hb37 P) :: (hb38 P) :: (hb39 P) :: (hb40 P) :: (hb41 P) :: (hb42 P) :: (hb43 P) :: (hb44 P) :: (hb45 P) :: (hb46 P) :: (hb47 P) :: (hb48 P) :: (hb49 P) :: (hb50 P) :: (hb51 P) :: (hb52 P) :: (hb53 P) :: (hb54 P) :: (hb55 P) :: (hb56 P) :: (hb57 P) :: (hb58 P) :: (hb59 P) :: (hb60 P) :: (hb61 P) :: (hb62 P) :: (hb63 P) :: (hb64 P) :: (hb65 P) :: (hb66 P) :: (hb67 P) :: (hb68 P) :: (hb69 P) :: (hb70 P) :: (hb71 P) :: (hb72 P) :: (hb73 P) :: (hb74 P) :: (hb75 P) :: (hb76 P) :: (hb77 P) :: (hb78 P) :: (hb79 P) :: (hb80 P) :: (hb81 P) :: (hb82 P) :: (hb83 P) :: (hb84 P) :: (hb85 P) :: (hb86 P) :: (hb87 P) :: (hb88 P) :: (hb89 P) :: (hb90 P) :: (hb91 P) :: (hb92 P) :: (hb93 P) :: (hb94 P) :: (hb95 P) :: (hb96 P) :: (hb97 P) :: (hb98 P) :: (hb99 P) :: (hb100 P) :: (hb101 P) :: (hb102 P) :: (hb103 P) :: (hb104 P) :: (hb105 P) :: (hb106 P) :: (hb107 P) :: (hb108 P) :: (hb109 P) :: (hb110 P) :: (hb111 P) :: (hb112 P) :: (hb113 P) :: (hb114 P) :: (hb115 P) :: (hb116 P) :: (hb117 P) :: (hb118 P) :: (hb119 P) :: (hb120 P) :: (hb121 P) :: (hb122 P) :: (hb123 P) :: (hb124 P) :: (hb125 P) :: (hb126 P) :: (hb127 P) :: (hb128 P) :: (hb129 P) :: (hb130 P) :: (hb131 P) :: (hb132 P) :: (hb133 P) :: (hb134 P) :: (hb135 P) :: (hb136 P) :: (hb137 P) :: (hb138 P) :: (hb139 P) :: (hb140 P) :: (hb141 P) :: (hb142 P) :: (hb143 P) :: (hb144 P) :: (hb145 P) :: (hb146 P) :: (hb147 P) :: (hb148 P) :: (hb149 P) :: (hb150 P) :: (hb151 P) :: (hb152 P) :: (hb153 P) :: (hb154 P) :: (hb155 P) :: (hb156 P) :: (hb157 P) :: (hb158 P) :: (hb159 P) :: (hb160 P) :: (hb161 P) :: (hb162 P) :: (hb163 P) :: (hb164 P) :: (hb165 P) :: (hb166 P) :: (hb167 P) :: (hb168 P) :: (hb169 P) :: (hb170 P) :: (hb171 P) :: (hb172 P) :: (hb173 P) :: (hb174 P) :: (hb175 P) :: (hb176 P) :: (hb177 P) :: (hb178 P) :: (hb179 P) :: (hb180 P) :: (hb181 P) :: (hb182 P) :: (hb183 P) :: (hb184 P) :: (hb185 P) :: (hb186 P) :: (hb187 P) :: (hb188 P) :: (hb189 P) :: (hb190 P) :: (hb191 P) :: (hb192 P) :: (hb193 P) :: (hb194 P) :: (hb195 P) :: (hb196 P) :: (hb197 P) :: (hb198 P) :: (hb199 P) :: (hb200 P) :: (hb201 P) :: (hb202 P) :: (hb203 P) :: (hb204 P) :: (hb205 P) :: (hb206 P) :: (hb207 P) :: (hb208 P) :: (hb209 P) :: (hb210 P) :: (hb211 P) :: (hb212 P) :: (hb213 P) :: (hb214 P) :: (hb215 P) :: (hb216 P) :: (hb217 P) :: (hb218 P) :: (hb219 P) :: (hb220 P) :: (hb221 P) :: (hb222 P) :: (hb223 P) :: (hb224 P) :: (hb225 P) :: (hb226 P) :: (hb227 P) :: (hb228 P) :: (hb229 P) :: (hb230 P) :: (hb231 P) :: (hb232 P) :: (hb233 P) :: (hb234 P) :: (hb235 P) :: (hb236 P) :: (hb237 P) :: (hb238 P) :: (hb239 P) :: (hb240 P) :: (hb241 P) :: (hb242 P) :: (hb243 P) :: (hb244 P) :: (hb245 P) :: (hb246 P) :: (hb247 P) :: (hb248 P) :: (hb249 P) :: (hb250 P) :: (hb251 P) :: (hb252 P) :: (hb253 P) :: (hb254 P) :: (hb255 P) :: (hb256 P) :: (hb257 P) :: (hb258 P) :: (hb259 P) :: (hb260 P) :: (hb261 P) :: (hb262 P) :: (hb263 P) :: (hb264 P) :: (hb265 P) :: (hb266 P) :: (hb267 P) :: (hb268 P) :: (hb269 P) :: (hb270 P) :: (hb271 P) :: (hb272 P) :: (hb273 P) :: (hb274 P) :: (hb275 P) :: (hb276 P) :: (hb277 P) :: (hb278 P) :: (hb279 P) :: (hb280 P) :: (hb281 P) :: (hb282 P) :: (hb283 P) :: (hb284 P) :: (hb285 P) :: (hb286 P) :: (hb287 P) :: (hb288 P) :: (hb289 P) :: (hb290 P) :: (hb291 P) :: (hb292 P) :: (hb293 P) :: (hb294 P) :: (hb295 P) :: (hb296 P) :: (hb297 P) :: (hb298 P) :: (hb299 P) :: (hb300 P) :: (hb301 P) :: (hb302 P) :: (hb303 P) :: (hb304 P) :: (hb305 P) :: (hb306 P) :: (hb307 P) :: (hb308 P) :: (hb309 P) :: (hb310 P) :: (hb311 P) :: (hb312 P) :: (hb313 P) :: (hb314 P) :: (hb315 P) :: (hb316 P) :: (hb317 P) :: (hb318 P) :: (hb319 P) :: (hb320 P) :: (hb321 P) :: (hb322 P) :: (hb323 P) :: (hb324 P) :: (hb325 P) :: (hb326 P) :: (hb327 P) :: (hb328 P) :: (hb329 P) :: (hb330 P) :: (hb331 P) :: (hb332 P) :: (hb333 P) :: (hb334 P) :: (hb335 P) :: (hb336 P) :: (hb337 P) :: (hb338 P) :: (hb339 P) :: (hb340 P) :: (hb341 P) :: (hb342 P) :: (hb343 P) :: (hb344 P) :: (hb345 P) :: (hb346 P) :: (hb347 P) :: (hb348 P) :: (hb349 P) :: (hb350 P) :: (hb351 P) :: (hb352 P) :: (hb353 P) :: (hb354 P) :: (hb355 P) :: (hb356 P) :: (hb357 P) :: (hb358 P) :: (hb359 P) :: (hb360 P) :: (hb361 P) :: (hb362 P) :: (hb363 P) :: (hb364 P) :: (hb365 P) :: (hb366 P) :: (hb367 P) :: (hb368 P) :: (hb369 P) :: (hb370 P) :: (hb371 P) :: (hb372 P) :: (hb373 P) :: (hb374 P) :: (hb375 P) :: (hb376 P) :: (hb377 P) :: (hb378 P) :: (hb379 P) :: (hb380 P) :: (hb381 P) :: (hb382 P) :: (hb383 P) :: (hb384 P) :: (hb385 P) :: (hb386 P) :: (hb387 P) :: (hb388 P) :: (hb389 P) :: (hb390 P) :: (hb391 P) :: (hb392 P) :: (hb393 P) :: (hb394 P) :: (hb395 P) :: (hb396 P) :: (hb397 P) :: (hb398 P) :: (hb399 P) :: (hb400 P) :: (hb401 P) :: (hb402 P) :: (hb403 P) :: (hb404x1 P) :: (hb405 P) :: (hb406 P) :: (hb407 P) :: (hb408 P) :: (hb409 P) :: (hb410 P) :: (hb411 P) :: (hb412 P) :: (hb413 P) :: (hb414 P) :: (hb415 P) :: (hb416 P) :: (hb417 P) :: (hb418 P) :: (hb419 P) :: (hb420 P) :: (hb421 P) :: (hb422 P) :: (hb423 P) :: (hb424 P) :: (hb425 P) :: (hb426 P) :: (hb427 P) :: (hb428 P) :: (hb429 P) :: (hb430 P) :: (hb431 P) :: (hb432 P) :: (hb433 P) :: (hb434 P) :: (hb435 P) :: (hb436 P) :: (hb437 P) :: (hb438 P) :: (hb439 P) :: (hb440 P) :: (hb441 P) :: (hb442 P) :: (hb443 P) :: (hb444 P) :: (hb445 P) :: (hb446 P) :: (hb447 P) :: (hb448 P) :: (hb449 P) :: (hb450 P) :: (hb451 P) :: (hb452 P) :: (hb453 P) :: (hb454 P) :: (hb455 P) :: (hb456 P) :: (hb457 P) :: (hb458 P) :: (hb459 P) :: (hb460 P) :: (hb461 P) :: (hb462 P) :: (hb463 P) :: (hb464 P) :: (hb465 P) :: (hb466 P) :: (hb467 P) :: (hb468 P) :: (hb469 P) :: (hb470 P) :: (hb471 P) :: (hb472 P) :: (hb473 P) :: (hb474 P) :: (hb475 P) :: (hb476 P) :: (hb477 P) :: (hb478 P) :: (hb479 P) :: (hb480 P) :: (hb481 P) :: (hb482 P) :: (hb483 P) :: (hb484 P) :: (hb485 P) :: (hb486 P) :: (hb487 P) :: (hb488 P) :: (hb489 P) :: (hb490 P) :: (hb491 P) :: (hb492 P) :: (hb493 P) :: (hb494 P) :: (hb495 P) :: (hb496 P) :: (hb497 P) :: (hb498 P) :: (hb499 P) :: (hb500 P) :: (hb501 P) :: (hb502 P) :: (hb503 P) :: (hb504 P) :: (hb505 P) :: (hb506 P) :: (hb507 P) :: (hb508 P) :: (hb509 P) :: (hb510 P) :: (hb511 P) :: (hb512 P) :: (hb513 P) :: (hb514 P) :: (hb515 P) :: (hb516 P) :: (hb517 P) :: (hb518 P) :: (hb519 P) :: (hb520 P) :: (hb521 P) :: (hb522 P) :: (hb523 P) :: (hb524 P) :: (hb525 P) :: (hb526 P) :: (hb527 P) :: (hb528 P) :: (hb529 P) :: (hb530 P) :: (hb531 P) :: (hb532 P) :: (hb533 P) :: (hb534 P) :: (hb535 P) :: (hb536 P) :: (hb537 P) :: (hb538 P) :: (hb539 P) :: (hb540 P) :: (hb541 P) :: (hb542 P) :: (hb543 P) :: (hb544 P) :: (hb545 P) :: (hb546 P) :: (hb547 P) :: (hb548 P) :: (hb549 P) :: (hb550 P) :: (hb551 P) :: (hb552 P) :: (hb553 P) :: (hb554 P) :: (hb555 P) :: (hb556 P) :: (hb557 P) :: (hb558 P) :: (hb559 P) :: (hb560 P) :: (hb561 P) :: (hb562 P) :: (hb563 P) :: (hb564 P) :: (hb565 P) :: (hb566 P) :: (hb567 P) :: (hb568 P) :: (hb569 P) :: (hb570 P) :: (hb571 P) :: (hb572 P) :: (hb573 P) :: (hb574 P) :: (hb575 P) :: (hb576 P) :: (hb577 P) :: [])) ({ })
noncomputable abbrev hrF (w : World) (os : OsState) : Shared := Shared.mk (hhF w.params) (Array.mk []) ({ }) 1072 os
theorem hd_pre (w : World) (os : OsState) : topGo treeTable hdP w 11 (some (Value.ref 6)) 12 (Shared.mk (boot_heap w.params) (Array.mk []) boot_drawn boot_toks os) (topStub hdP) = some (hrA w os, Thread.mk (denote treeTable (.body hdB hdE)) hdC { line := 0, col := 0, endLine := 0, endCol := 0 } hdF) := by kernel_rfl
theorem hd_blk (w : World) (os : OsState) : segRun treeTable hdP w 11 (some (Value.ref 6)) 1 1 (hrA w os) (blockOf hdB hdE hdC { line := 0, col := 0, endLine := 0, endCol := 0 } hdF) = some (Flow.next, (hs0 w os).abs, hdC, { line := 0, col := 0, endLine := 0, endCol := 0 }) := by kernel_rfl
theorem hd_1 (w : World) (os : OsState) : segRunT treeTable hdP w 11 (some (Value.ref 6)) 1 1962 (hs0 w os) (piecesOf hl1 hdE hdC { line := 0, col := 0, endLine := 0, endCol := 0 } hdF) = some (Flow.next, hs1 w os, hdC, { line := 136, col := 0, endLine := 136, endCol := 8 }) := by kernel_rfl
theorem hd_2 (w : World) (os : OsState) : segRunT treeTable hdP w 11 (some (Value.ref 6)) 1 1827 (hs1 w os) (piecesOf hl2 hdE hdC { line := 136, col := 0, endLine := 136, endCol := 8 } hdF) = some (Flow.next, hs2 w os, hdC, { line := 205, col := 0, endLine := 253, endCol := 67 }) := by kernel_rfl
theorem hd_3 (w : World) (os : OsState) : segRunT treeTable hdP w 11 (some (Value.ref 6)) 1 1551 (hs2 w os) (piecesOf hl3 hdE hdC { line := 205, col := 0, endLine := 253, endCol := 67 } hdF) = some (Flow.next, hs3 w os, hdC, { line := 407, col := 0, endLine := 468, endCol := 15 }) := by kernel_rfl
theorem hd_fin (w : World) (os : OsState) : topRun treeTable hdP w 11 (some (Value.ref 6)) 2 (hs3 w os).abs (Thread.mk (doneF Flow.next) hdC { line := 407, col := 0, endLine := 468, endCol := 15 } hdF) = some (hrF w os) := by kernel_rfl
theorem hd_split : hdB = (hl1 ++ (hl2 ++ (hl3 ++ []))) := by kernel_rfl
theorem hd_rest (w : World) (os : OsState) : topRun treeTable hdP w 11 (some (Value.ref 6)) (1962 + (1827 + (1551 + 2))) (hs0 w os).abs (restOf (hl1 ++ (hl2 ++ (hl3 ++ []))) hdE hdC { line := 0, col := 0, endLine := 0, endCol := 0 } hdF) = some (hrF w os) := (piece_app (segRun_of (hd_1 w os)) (piece_app (segRun_of (hd_2 w os)) (piece_app (segRun_of (hd_3 w os)) (piece_nil (hd_fin w os)))))
theorem hd_run (w : World) (os : OsState) : topRun treeTable hdP w 11 (some (Value.ref 6)) (12 + (1 + (1962 + (1827 + (1551 + 2))))) (Shared.mk (boot_heap w.params) (Array.mk []) boot_drawn boot_toks os) (topStub hdP) = some (Shared.mk (hhF w.params) (Array.mk []) ({ }) 1072 os) :=
  go_top (hd_pre w os) (piece_block (hd_blk w os) ((congrArg (fun b => topRun treeTable hdP w 11 (some (Value.ref 6)) (1962 + (1827 + (1551 + 2))) (hs0 w os).abs (restOf b hdE hdC { line := 0, col := 0, endLine := 0, endCol := 0 } hdF)) hd_split).trans (hd_rest w os)))
noncomputable def hd.heap_39 : Params → Frag :=
  (fun (fa0 : Arguments) (fb0 : FuncBody) (fc0 : Scope) (_ : hdT 0 = (fa0, fb0, fc0)) (fa1 : Arguments) (fb1 : FuncBody) (fc1 : Scope) (_ : hdM 2 0 = (fa1, fb1, fc1)) (fa2 : Arguments) (fb2 : FuncBody) (fc2 : Scope) (_ : hdM 2 1 = (fa2, fb2, fc2)) (fa3 : Arguments) (fb3 : FuncBody) (fc3 : Scope) (_ : hdM 2 2 = (fa3, fb3, fc3)) (fa4 : Arguments) (fb4 : FuncBody) (fc4 : Scope) (_ : hdM 2 3 = (fa4, fb4, fc4)) (fa5 : Arguments) (fb5 : FuncBody) (fc5 : Scope) (_ : hdM 4 4 = (fa5, fb5, fc5)) (fa6 : Arguments) (fb6 : FuncBody) (fc6 : Scope) (_ : hdM 4 5 = (fa6, fb6, fc6)) (fa7 : Arguments) (fb7 : FuncBody) (fc7 : Scope) (_ : hdM 4 6 = (fa7, fb7, fc7)) (fa8 : Arguments) (fb8 : FuncBody) (fc8 : Scope) (_ : hdM 4 8 = (fa8, fb8, fc8)) (fa9 : Arguments) (fb9 : FuncBody) (fc9 : Scope) (_ : hdM 4 9 = (fa9, fb9, fc9)) (fa10 : Arguments) (fb10 : FuncBody) (fc10 : Scope) (_ : hdM 4 10 = (fa10, fb10, fc10)) (fa11 : Arguments) (fb11 : FuncBody) (fc11 : Scope) (_ : hdM 6 0 = (fa11, fb11, fc11)) (fa12 : Arguments) (fb12 : FuncBody) (fc12 : Scope) (_ : hdM 6 1 = (fa12, fb12, fc12)) (fa13 : Arguments) (fb13 : FuncBody) (fc13 : Scope) (_ : hdM 7 1 = (fa13, fb13, fc13)) (fa14 : Arguments) (fb14 : FuncBody) (fc14 : Scope) (_ : hdM 7 2 = (fa14, fb14, fc14)) (fa15 : Arguments) (fb15 : FuncBody) (fc15 : Scope) (_ : hdM 7 3 = (fa15, fb15, fc15)) (fa16 : Arguments) (fb16 : FuncBody) (fc16 : Scope) (_ : hdM 7 4 = (fa16, fb16, fc16)) (fa17 : Arguments) (fb17 : FuncBody) (fc17 : Scope) (_ : hdM 7 5 = (fa17, fb17, fc17)) (fa18 : Arguments) (fb18 : FuncBody) (fc18 : Scope) (_ : hdM 9 0 = (fa18, fb18, fc18)) (fa19 : Arguments) (fb19 : FuncBody) (fc19 : Scope) (_ : hdM 9 1 = (fa19, fb19, fc19)) (fa20 : Arguments) (fb20 : FuncBody) (fc20 : Scope) (_ : hdM 9 2 = (fa20, fb20, fc20)) (fa21 : Arguments) (fb21 : FuncBody) (fc21 : Scope) (_ : hdM 9 3 = (fa21, fb21, fc21)) (fa22 : Arguments) (fb22 : FuncBody) (fc22 : Scope) (_ : hdT 11 = (fa22, fb22, fc22)) (fa23 : Arguments) (fb23 : FuncBody) (fc23 : Scope) (_ : hdM 12 4 = (fa23, fb23, fc23)) (fa24 : Arguments) (fb24 : FuncBody) (fc24 : Scope) (_ : hdM 12 5 = (fa24, fb24, fc24)) (fa25 : Arguments) (fb25 : FuncBody) (fc25 : Scope) (_ : hdM 12 6 = (fa25, fb25, fc25)) (fa26 : Arguments) (fb26 : FuncBody) (fc26 : Scope) (_ : hdM 12 8 = (fa26, fb26, fc26)) (fa27 : Arguments) (fb27 : FuncBody) (fc27 : Scope) (_ : hdM 12 9 = (fa27, fb27, fc27)) (fa28 : Arguments) (fb28 : FuncBody) (fc28 : Scope) (_ : hdM 12 10 = (fa28, fb28, fc28)) (fa29 : Arguments) (fb29 : FuncBody) (fc29 : Scope) (_ : hdM 13 2 = (fa29, fb29, fc29)) (fa30 : Arguments) (fb30 : FuncBody) (fc30 : Scope) (_ : hdM 13 3 = (fa30, fb30, fc30)) (fa31 : Arguments) (fb31 : FuncBody) (fc31 : Scope) (_ : hdM 13 4 = (fa31, fb31, fc31)) (fa32 : Arguments) (fb32 : FuncBody) (fc32 : Scope) (_ : hdM 13 5 = (fa32, fb32, fc32)) (fa33 : Arguments) (fb33 : FuncBody) (fc33 : Scope) (_ : hdM 13 6 = (fa33, fb33, fc33)) (fa34 : Arguments) (fb34 : FuncBody) (fc34 : Scope) (_ : hdM 13 7 = (fa34, fb34, fc34)) (fa35 : Arguments) (fb35 : FuncBody) (fc35 : Scope) (_ : hdM 13 8 = (fa35, fb35, fc35)) (fa36 : Arguments) (fb36 : FuncBody) (fc36 : Scope) (_ : hdM 16 1 = (fa36, fb36, fc36)) (fa37 : Arguments) (fb37 : FuncBody) (fc37 : Scope) (_ : hdM 18 1 = (fa37, fb37, fc37)) (fa38 : Arguments) (fb38 : FuncBody) (fc38 : Scope) (_ : hdM 18 2 = (fa38, fb38, fc38)) (fa39 : Arguments) (fb39 : FuncBody) (fc39 : Scope) (_ : hdM 18 3 = (fa39, fb39, fc39)) (fa40 : Arguments) (fb40 : FuncBody) (fc40 : Scope) (_ : hdM 18 4 = (fa40, fb40, fc40)) (fa41 : Arguments) (fb41 : FuncBody) (fc41 : Scope) (_ : hdM 18 5 = (fa41, fb41, fc41)) (fa42 : Arguments) (fb42 : FuncBody) (fc42 : Scope) (_ : hdM 18 6 = (fa42, fb42, fc42)) (fa43 : Arguments) (fb43 : FuncBody) (fc43 : Scope) (_ : hdM 18 7 = (fa43, fb43, fc43)) (fa44 : Arguments) (fb44 : FuncBody) (fc44 : Scope) (_ : hdM 18 8 = (fa44, fb44, fc44)) (fa45 : Arguments) (fb45 : FuncBody) (fc45 : Scope) (_ : hdM 18 9 = (fa45, fb45, fc45)) (fa46 : Arguments) (fb46 : FuncBody) (fc46 : Scope) (_ : hdM 18 10 = (fa46, fb46, fc46)) (fa47 : Arguments) (fb47 : FuncBody) (fc47 : Scope) (_ : hdM 18 11 = (fa47, fb47, fc47)) (fa48 : Arguments) (fb48 : FuncBody) (fc48 : Scope) (_ : hdM 18 12 = (fa48, fb48, fc48)) (fa49 : Arguments) (fb49 : FuncBody) (fc49 : Scope) (_ : hdM 18 13 = (fa49, fb49, fc49)) (fa50 : Arguments) (fb50 : FuncBody) (fc50 : Scope) (_ : hdM 18 14 = (fa50, fb50, fc50)) (fa51 : Arguments) (fb51 : FuncBody) (fc51 : Scope) (_ : hdM 18 15 = (fa51, fb51, fc51)) (fa52 : Arguments) (fb52 : FuncBody) (fc52 : Scope) (_ : hdT 20 = (fa52, fb52, fc52)) (fd0 : Str) (_ : hdDoc (hdM 4 4).snd.fst = some fd0) (fd1 : Str) (_ : hdDoc (hdM 4 5).snd.fst = some fd1) (fd2 : Str) (_ : hdDoc (hdM 4 6).snd.fst = some fd2) (fd3 : Str) (_ : hdDoc (hdM 4 8).snd.fst = some fd3) (fd4 : Str) (_ : hdDoc (hdM 4 10).snd.fst = some fd4) (fd5 : Str) (_ : hdCDoc 4 = some fd5) (fd6 : Str) (_ : hdDoc (hdM 7 1).snd.fst = some fd6) (fd7 : Str) (_ : hdDoc (hdM 7 2).snd.fst = some fd7) (fd8 : Str) (_ : hdDoc (hdM 7 3).snd.fst = some fd8) (fd9 : Str) (_ : hdDoc (hdM 7 4).snd.fst = some fd9) (fd10 : Str) (_ : hdCDoc 7 = some fd10) (fd11 : Str) (_ : hdDoc (hdT 11).snd.fst = some fd11) (fd12 : Str) (_ : hdDoc (hdM 12 4).snd.fst = some fd12) (fd13 : Str) (_ : hdDoc (hdM 12 5).snd.fst = some fd13) (fd14 : Str) (_ : hdDoc (hdM 12 6).snd.fst = some fd14) (fd15 : Str) (_ : hdCDoc 12 = some fd15) (fd16 : Str) (_ : hdDoc (hdM 13 4).snd.fst = some fd16) (fd17 : Str) (_ : hdDoc (hdM 13 5).snd.fst = some fd17) (fd18 : Str) (_ : hdCDoc 13 = some fd18) (fd19 : Str) (_ : hdCDoc 14 = some fd19) (fd20 : Str) (_ : hdDoc (hdM 16 1).snd.fst = some fd20) (fd21 : Str) (_ : hdCDoc 16 = some fd21) (fd22 : Str) (_ : hdDoc (hdM 18 3).snd.fst = some fd22) (fd23 : Str) (_ : hdDoc (hdM 18 4).snd.fst = some fd23) (fd24 : Str) (_ : hdDoc (hdM 18 5).snd.fst = some fd24) (fd25 : Str) (_ : hdDoc (hdM 18 6).snd.fst = some fd25) (fd26 : Str) (_ : hdDoc (hdM 18 8).snd.fst = some fd26) (fd27 : Str) (_ : hdCDoc 18 = some fd27) => fun (P : Params) => (nat_lit 2, { cls := Value.none, data := Data.dict #[] }) :: (nat_lit 3, { cls := Value.type "dict", data := Data.dict #[{ hash := PyData.keyHash P (Str.ofString "__name__"), key := Value.str (Str.ofString "__name__") 165, val := Value.str (Str.ofString "law_ji0057_01") 1035 }, { hash := PyData.keyHash P (Str.ofString "__doc__"), key := Value.str (Str.ofString "__doc__") 166, val := Value.none }, { hash := PyData.keyHash P (Str.ofString "__package__"), key := Value.str (Str.ofString "__package__") 167, val := Value.none }, { hash := PyData.keyHash P (Str.ofString "__loader__"), key := Value.str (Str.ofString "__loader__") 168, val := Value.builtin "__main__.__loader__#opaque" }, { hash := PyData.keyHash P (Str.ofString "__spec__"), key := Value.str (Str.ofString "__spec__") 169, val := Value.none }, { hash := PyData.keyHash P (Str.ofString "__annotations__"), key := Value.str (Str.ofString "__annotations__") 170, val := Value.ref 6 }, { hash := PyData.keyHash P (Str.ofString "__builtins__"), key := Value.str (Str.ofString "__builtins__") 171, val := Value.ref 4 }, { hash := PyData.keyHash P (Str.ofString "__file__"), key := Value.str (Str.ofString "__file__") 173, val := Value.str (Str.ofString "/claim/cut.py") 172 }, { hash := PyData.keyHash P (Str.ofString "__cached__"), key := Value.str (Str.ofString "__cached__") 174, val := Value.none }, { hash := PyData.keyHash P (Str.ofString "_wall"), key := Value.str (Str.ofString "_wall") 193, val := Value.ref 21 }, { hash := PyData.keyHash P (Str.ofString "_tuplegetter"), key := Value.str (Str.ofString "_tuplegetter") 252, val := Value.ref 259 }, { hash := PyData.keyHash P (Str.ofString "tuplegetter_util"), key := Value.str (Str.ofString "tuplegetter_util") 253, val := Value.ref 60 }, { hash := PyData.keyHash P (Str.ofString "WindowStats"), key := Value.str (Str.ofString "WindowStats") 368, val := Value.ref 132 }, { hash := PyData.keyHash P (Str.ofString "RateLimiter"), key := Value.str (Str.ofString "RateLimiter") 408, val := Value.ref 161 }, { hash := PyData.keyHash P (Str.ofString "SlidingWindowCounterRateLimiter"), key := Value.str (Str.ofString "SlidingWindowCounterRateLimiter") 493, val := Value.ref 218 }, { hash := PyData.keyHash P (Str.ofString "tuplegetter_limits"), key := Value.str (Str.ofString "tuplegetter_limits") 553, val := Value.ref 259 }, { hash := PyData.keyHash P (Str.ofString "safe_string"), key := Value.str (Str.ofString "safe_string") 561, val := Value.ref 270 }, { hash := PyData.keyHash P (Str.ofString "Granularity"), key := Value.str (Str.ofString "Granularity") 676, val := Value.ref 338 }, { hash := PyData.keyHash P (Str.ofString "RateLimitItem"), key := Value.str (Str.ofString "RateLimitItem") 773, val := Value.ref 404 }, { hash := PyData.keyHash P (Str.ofString "RateLimitItemPerSecond"), key := Value.str (Str.ofString "RateLimitItemPerSecond") 801, val := Value.ref 423 }, { hash := PyData.keyHash P (Str.ofString "TimestampedSlidingWindow"), key := Value.str (Str.ofString "TimestampedSlidingWindow") 849, val := Value.ref 445 }, { hash := PyData.keyHash P (Str.ofString "MemoryStorage"), key := Value.str (Str.ofString "MemoryStorage") 1034, val := Value.ref 568 }, { hash := PyData.keyHash P (Str.ofString "law"), key := Value.str (Str.ofString "law") 1071, val := Value.ref 577 }] 23 }) :: (nat_lit 15, { cls := Value.type "tuple", data := Data.seq #[] }) :: (nat_lit 17, { cls := Value.type "tuple", data := Data.seq #[Value.str (Str.ofString "k") 190] }) :: (nat_lit 18, { cls := Value.type "tuple", data := Data.seq #[] }) :: (nat_lit 20, { cls := Value.type "code", data := Data.fields #[Value.str (Str.ofString "_wall") 187, Value.str (Str.ofString "_wall") 188, Value.str (Str.ofString "/claim/cut.py") 189, Value.int 1 0, Value.int 1 0, Value.int 0 0, Value.int 0 0, Value.int 3 0, Value.ref 15, Value.bool true, Value.int 181 0, Value.ref 16, Value.none, Value.ref 17, Value.ref 18, Value.ref 19, Value.int 191 0, Value.int 1 0, Value.str (Str.ofString "/claim/cut.py") 192] }) :: (nat_lit 21, { cls := Value.type "function", data := Data.func { name := Str.ofString "_wall", qualname := Str.ofString "_wall", params := fa0, body := fb0, scope := fc0, globals := 3, closure := [], defaults := Value.none, kwdefaults := Value.none, pyModule := Value.str (Str.ofString "__main__") 164, code := Value.ref 20 } }) :: (nat_lit 29, { cls := Value.type "tuple", data := Data.seq #[] }) :: (nat_lit 31, { cls := Value.type "tuple", data := Data.seq #[Value.str (Str.ofString "self") 211, Value.str (Str.ofString "index") 212, Value.str (Str.ofString "doc") 213] }) :: (nat_lit 32, { cls := Value.type "tuple", data := Data.seq #[] }) :: (nat_lit 34, { cls := Value.type "code", data := Data.fields #[Value.str (Str.ofString "__init__") 208, Value.str (Str.ofString "_tuplegetter.__init__") 209, Value.str (Str.ofString "/claim/cut.py") 210, Value.int 7 0, Value.int 3 0, Value.int 0 0, Value.int 0 0, Value.int 3 0, Value.ref 29, Value.bool true, Value.int 181 0, Value.ref 30, Value.none, Value.ref 31, Value.ref 32, Value.ref 33, Value.int 214 0, Value.int 7 0, Value.str (Str.ofString "/claim/cut.py") 215] }) :: (nat_lit 35, { cls := Value.type "function", data := Data.func { name := Str.ofString "__init__", qualname := Str.ofString "_tuplegetter.__init__", params := fa1, body := fb1, scope := fc1, globals := 3, closure := [], defaults := Value.none, kwdefaults := Value.none, pyModule := Value.str (Str.ofString "limits.util") 194, code := Value.ref 34 } }) :: (nat_lit 36, { cls := Value.type "tuple", data := Data.seq #[Value.none] }) :: (nat_lit 37, { cls := Value.type "tuple", data := Data.seq #[] }) :: (nat_lit 39, { cls := Value.type "tuple", data := Data.seq #[Value.str (Str.ofString "self") 220, Value.str (Str.ofString "obj") 221, Value.str (Str.ofString "objtype") 222] }) :: (nat_lit 40, { cls := Value.type "tuple", data := Data.seq #[] }) :: (nat_lit 42, { cls := Value.type "code", data := Data.fields #[Value.str (Str.ofString "__get__") 217, Value.str (Str.ofString "_tuplegetter.__get__") 218, Value.str (Str.ofString "/claim/cut.py") 219, Value.int 11 0, Value.int 3 0, Value.int 0 0, Value.int 0 0, Value.int 3 0, Value.ref 37, Value.bool true, Value.int 181 0, Value.ref 38, Value.none, Value.ref 39, Value.ref 40, Value.ref 41, Value.int 223 0, Value.int 11 0, Value.str (Str.ofString "/claim/cut.py") 224] }) :: (nat_lit 43, { cls := Value.type "function", data := Data.func { name := Str.ofString "__get__", qualname := Str.ofString "_tuplegetter.__get__", params := fa2, body := fb2, scope := fc2, globals := 3, closure := [], defaults := Value.ref 36, kwdefaults := Value.none, pyModule := Value.str (Str.ofString "limits.util") 194, code := Value.ref 42 } }) :: (nat_lit 44, { cls := Value.type "tuple", data := Data.seq #[] }) :: (nat_lit 46, { cls := Value.type "tuple", data := Data.seq #[Value.str (Str.ofString "self") 229, Value.str (Str.ofString "obj") 230, Value.str (Str.ofString "value") 231] }) :: (nat_lit 47, { cls := Value.type "tuple", data := Data.seq #[] }) :: (nat_lit 49, { cls := Value.type "code", data := Data.fields #[Value.str (Str.ofString "__set__") 226, Value.str (Str.ofString "_tuplegetter.__set__") 227, Value.str (Str.ofString "/claim/cut.py") 228, Value.int 18 0, Value.int 3 0, Value.int 0 0, Value.int 0 0, Value.int 3 0, Value.ref 44, Value.bool true, Value.int 181 0, Value.ref 45, Value.none, Value.ref 46, Value.ref 47, Value.ref 48, Value.int 232 0, Value.int 18 0, Value.str (Str.ofString "/claim/cut.py") 233] }) :: (nat_lit 50, { cls := Value.type "function", data := Data.func { name := Str.ofString "__set__", qualname := Str.ofString "_tuplegetter.__set__", params := fa3, body := fb3, scope := fc3, globals := 3, closure := [], defaults := Value.none, kwdefaults := Value.none, pyModule := Value.str (Str.ofString "limits.util") 194, code := Value.ref 49 } }) :: (nat_lit 51, { cls := Value.type "tuple", data := Data.seq #[] }) :: (nat_lit 53, { cls := Value.type "tuple", data := Data.seq #[Value.str (Str.ofString "self") 238, Value.str (Str.ofString "obj") 239] }) :: (nat_lit 54, { cls := Value.type "tuple", data := Data.seq #[] }) :: (nat_lit 56, { cls := Value.type "code", data := Data.fields #[Value.str (Str.ofString "__delete__") 235, Value.str (Str.ofString "_tuplegetter.__delete__") 236, Value.str (Str.ofString "/claim/cut.py") 237, Value.int 21 0, Value.int 2 0, Value.int 0 0, Value.int 0 0, Value.int 3 0, Value.ref 51, Value.bool true, Value.int 181 0, Value.ref 52, Value.none, Value.ref 53, Value.ref 54, Value.ref 55, Value.int 240 0, Value.int 21 0, Value.str (Str.ofString "/claim/cut.py") 241] }) :: (nat_lit 57, { cls := Value.type "function", data := Data.func { name := Str.ofString "__delete__", qualname := Str.ofString "_tuplegetter.__delete__", params := fa4, body := fb4, scope := fc4, globals := 3, closure := [], defaults := Value.none, kwdefaults := Value.none, pyModule := Value.str (Str.ofString "limits.util") 194, code := Value.ref 56 } }) :: (nat_lit 58, { cls := Value.type "tuple", data := Data.seq #[Value.str (Str.ofString "__doc__") 243, Value.str (Str.ofString "index") 244] }) :: (nat_lit 59, { cls := Value.type "dict", data := Data.dict #[{ hash := PyData.keyHash P (Str.ofString "__module__"), key := Value.str (Str.ofString "__module__") 203, val := Value.str (Str.ofString "limits.util") 194 }, { hash := PyData.keyHash P (Str.ofString "__firstlineno__"), key := Value.str (Str.ofString "__firstlineno__") 207, val := Value.int 5 206 }, { hash := PyData.keyHash P (Str.ofString "__init__"), key := Value.str (Str.ofString "__init__") 216, val := Value.ref 35 }, { hash := PyData.keyHash P (Str.ofString "__get__"), key := Value.str (Str.ofString "__get__") 225, val := Value.ref 43 }, { hash := PyData.keyHash P (Str.ofString "__set__"), key := Value.str (Str.ofString "__set__") 234, val := Value.ref 50 }, { hash := PyData.keyHash P (Str.ofString "__delete__"), key := Value.str (Str.ofString "__delete__") 242, val := Value.ref 57 }, { hash := PyData.keyHash P (Str.ofString "__static_attributes__"), key := Value.str (Str.ofString "__static_attributes__") 245, val := Value.ref 58 }, { hash := PyData.keyHash P (Str.ofString "__dict__"), key := Value.str (Str.ofString "__dict__") 247, val := Value.ref 61 }, { hash := PyData.keyHash P (Str.ofString "__weakref__"), key := Value.str (Str.ofString "__weakref__") 249, val := Value.ref 62 }, { hash := PyData.keyHash P (Str.ofString "__doc__"), key := Value.str (Str.ofString "__doc__") 250, val := Value.none }] 4 }) :: (nat_lit 60, { cls := Value.type "type", data := Data.cls { name := Str.ofString "_tuplegetter", bases := [Value.type "object"], mro := [Value.ref 60, Value.type "object"], ns := 59, qualname := Str.ofString "_tuplegetter" }, slots := #[none, none, some (Value.str (Str.ofString "_tuplegetter") 196), some (Value.str (Str.ofString "_tuplegetter") 204), some (Value.builtin "object.__new__"), some (Value.bool true)] }) :: (nat_lit 61, { cls := Value.type "getset_descriptor", data := Data.fields #[Value.str (Str.ofString "__dict__") 246, Value.ref 60, Value.builtin "function.__dict__", Value.builtin "function.__dict__#set"] }) :: (nat_lit 62, { cls := Value.type "getset_descriptor", data := Data.fields #[Value.str (Str.ofString "__weakref__") 248, Value.ref 60, Value.builtin "ExceptionGroup.__weakref__", Value.none] }) :: (nat_lit 65, { cls := Value.type "tuple", data := Data.seq #[Value.type "tuple"] }) :: (nat_lit 68, { cls := Value.type "cell", data := Data.cell (some (Value.ref 132)) }) :: (nat_lit 73, { cls := Value.type "tuple", data := Data.seq #[] }) :: (nat_lit 74, { cls := Value.type "tuple", data := Data.seq #[Value.str (Str.ofString "reset_time") 270, Value.str (Str.ofString "remaining") 271] }) :: (nat_lit 75, { cls := Value.type "dict", data := Data.dict #[] }) :: (nat_lit 76, { cls := Value.type "tuple", data := Data.seq #[] }) :: (nat_lit 78, { cls := Value.type "tuple", data := Data.seq #[Value.str (Str.ofString "_cls") 277, Value.str (Str.ofString "reset_time") 278, Value.str (Str.ofString "remaining") 279] }) :: (nat_lit 79, { cls := Value.type "tuple", data := Data.seq #[] }) :: (nat_lit 81, { cls := Value.type "code", data := Data.fields #[Value.str (Str.ofString "__new__") 274, Value.str (Str.ofString "WindowStats.__new__") 275, Value.str (Str.ofString "/claim/cut.py") 276, Value.int 30 0, Value.int 3 0, Value.int 0 0, Value.int 0 0, Value.int 3 0, Value.ref 76, Value.bool true, Value.int 181 0, Value.ref 77, Value.none, Value.ref 78, Value.ref 79, Value.ref 80, Value.int 280 0, Value.int 30 0, Value.str (Str.ofString "/claim/cut.py") 281] }) :: (nat_lit 82, { cls := Value.type "function", data := Data.func { name := Str.ofString "__new__", qualname := Str.ofString "WindowStats.__new__", params := fa5, body := fb5, scope := fc5, globals := 3, closure := [], defaults := Value.none, kwdefaults := Value.none, doc := Value.str fd0 282, pyModule := Value.str (Str.ofString "limits.util") 194, code := Value.ref 81 } }) :: (nat_lit 83, { cls := Value.type "tuple", data := Data.seq #[] }) :: (nat_lit 85, { cls := Value.type "tuple", data := Data.seq #[Value.str (Str.ofString "cls") 287, Value.str (Str.ofString "iterable") 288, Value.str (Str.ofString "result") 289] }) :: (nat_lit 86, { cls := Value.type "tuple", data := Data.seq #[] }) :: (nat_lit 88, { cls := Value.type "code", data := Data.fields #[Value.str (Str.ofString "_make") 284, Value.str (Str.ofString "WindowStats._make") 285, Value.str (Str.ofString "/claim/cut.py") 286, Value.int 34 0, Value.int 2 0, Value.int 0 0, Value.int 0 0, Value.int 3 0, Value.ref 83, Value.bool true, Value.int 181 0, Value.ref 84, Value.none, Value.ref 85, Value.ref 86, Value.ref 87, Value.int 290 0, Value.int 34 0, Value.str (Str.ofString "/claim/cut.py") 291] }) :: (nat_lit 89, { cls := Value.type "function", data := Data.func { name := Str.ofString "_make", qualname := Str.ofString "WindowStats._make", params := fa6, body := fb6, scope := fc6, globals := 3, closure := [], defaults := Value.none, kwdefaults := Value.none, doc := Value.str fd1 292, pyModule := Value.str (Str.ofString "limits.util") 194, annotations := some 92, code := Value.ref 88 } }) :: (nat_lit 90, { cls := Value.type "dict", data := Data.dict #[{ hash := PyData.keyHash P (Str.ofString "__module__"), key := Value.str (Str.ofString "__module__") 294, val := Value.str (Str.ofString "limits.util") 194 }, { hash := PyData.keyHash P (Str.ofString "__name__"), key := Value.str (Str.ofString "__name__") 297, val := Value.str (Str.ofString "_make") 296 }, { hash := PyData.keyHash P (Str.ofString "__qualname__"), key := Value.str (Str.ofString "__qualname__") 300, val := Value.str (Str.ofString "WindowStats._make") 299 }, { hash := PyData.keyHash P (Str.ofString "__doc__"), key := Value.str (Str.ofString "__doc__") 302, val := Value.str fd1 292 }, { hash := PyData.keyHash P (Str.ofString "__annotations__"), key := Value.str (Str.ofString "__annotations__") 304, val := Value.ref 92 }] 5 }) :: (nat_lit 91, { cls := Value.type "classmethod", dict := some 90, data := Data.fields #[Value.ref 89, Value.bool false] }) :: (nat_lit 92, { cls := Value.type "dict", data := Data.dict #[] }) :: (nat_lit 93, { cls := Value.type "tuple", data := Data.seq #[Value.ref 68] }) :: (nat_lit 94, { cls := Value.type "tuple", data := Data.seq #[Value.str (Str.ofString "__class__") 309] }) :: (nat_lit 96, { cls := Value.type "tuple", data := Data.seq #[Value.str (Str.ofString "self") 310, Value.str (Str.ofString "kwds") 311, Value.str (Str.ofString "result") 312] }) :: (nat_lit 97, { cls := Value.type "tuple", data := Data.seq #[] }) :: (nat_lit 99, { cls := Value.type "code", data := Data.fields #[Value.str (Str.ofString "_replace") 306, Value.str (Str.ofString "WindowStats._replace") 307, Value.str (Str.ofString "/claim/cut.py") 308, Value.int 42 0, Value.int 1 0, Value.int 1 0, Value.int 0 0, Value.int 11 0, Value.ref 94, Value.bool true, Value.int 181 0, Value.ref 95, Value.none, Value.ref 96, Value.ref 97, Value.ref 98, Value.int 313 0, Value.int 42 0, Value.str (Str.ofString "/claim/cut.py") 314] }) :: (nat_lit 100, { cls := Value.type "function", data := Data.func { name := Str.ofString "_replace", qualname := Str.ofString "WindowStats._replace", params := fa7, body := fb7, scope := fc7, globals := 3, closure := [(Str.ofString "__class__", 68)], defaults := Value.none, kwdefaults := Value.none, doc := Value.str fd2 315, pyModule := Value.str (Str.ofString "limits.util") 194, code := Value.ref 99, closureTuple := Value.ref 93 } }) :: (nat_lit 101, { cls := Value.type "tuple", data := Data.seq #[] }) :: (nat_lit 103, { cls := Value.type "tuple", data := Data.seq #[Value.str (Str.ofString "self") 321] }) :: (nat_lit 104, { cls := Value.type "tuple", data := Data.seq #[] }) :: (nat_lit 106, { cls := Value.type "code", data := Data.fields #[Value.str (Str.ofString "__repr__") 318, Value.str (Str.ofString "WindowStats.__repr__") 319, Value.str (Str.ofString "/claim/cut.py") 320, Value.int 53 0, Value.int 1 0, Value.int 0 0, Value.int 0 0, Value.int 3 0, Value.ref 101, Value.bool true, Value.int 181 0, Value.ref 102, Value.none, Value.ref 103, Value.ref 104, Value.ref 105, Value.int 322 0, Value.int 53 0, Value.str (Str.ofString "/claim/cut.py") 323] }) :: (nat_lit 107, { cls := Value.type "function", data := Data.func { name := Str.ofString "__repr__", qualname := Str.ofString "WindowStats.__repr__", params := fa8, body := fb8, scope := fc8, globals := 3, closure := [], defaults := Value.none, kwdefaults := Value.none, doc := Value.str fd3 324, pyModule := Value.str (Str.ofString "limits.util") 194, code := Value.ref 106 } }) :: (nat_lit 108, { cls := Value.type "tuple", data := Data.seq #[] }) :: (nat_lit 110, { cls := Value.type "tuple", data := Data.seq #[Value.str (Str.ofString "self") 329] }) :: (nat_lit 111, { cls := Value.type "tuple", data := Data.seq #[] }) :: (nat_lit 113, { cls := Value.type "code", data := Data.fields #[Value.str (Str.ofString "_asdict") 326, Value.str (Str.ofString "WindowStats._asdict") 327, Value.str (Str.ofString "/claim/cut.py") 328, Value.int 57 0, Value.int 1 0, Value.int 0 0, Value.int 0 0, Value.int 3 0, Value.ref 108, Value.bool true, Value.int 181 0, Value.ref 109, Value.none, Value.ref 110, Value.ref 111, Value.ref 112, Value.int 330 0, Value.int 57 0, Value.str (Str.ofString "/claim/cut.py") 331] }) :: (nat_lit 114, { cls := Value.type "function", data := Data.func { name := Str.ofString "_asdict", qualname := Str.ofString "WindowStats._asdict", params := fa9, body := fb9, scope := fc9, globals := 3, closure := [], defaults := Value.none, kwdefaults := Value.none, pyModule := Value.str (Str.ofString "limits.util") 194, code := Value.ref 113 } }) :: (nat_lit 115, { cls := Value.type "tuple", data := Data.seq #[] }) :: (nat_lit 117, { cls := Value.type "tuple", data := Data.seq #[Value.str (Str.ofString "self") 336] }) :: (nat_lit 118, { cls := Value.type "tuple", data := Data.seq #[] }) :: (nat_lit 120, { cls := Value.type "code", data := Data.fields #[Value.str (Str.ofString "__getnewargs__") 333, Value.str (Str.ofString "WindowStats.__getnewargs__") 334, Value.str (Str.ofString "/claim/cut.py") 335, Value.int 60 0, Value.int 1 0, Value.int 0 0, Value.int 0 0, Value.int 3 0, Value.ref 115, Value.bool true, Value.int 181 0, Value.ref 116, Value.none, Value.ref 117, Value.ref 118, Value.ref 119, Value.int 337 0, Value.int 60 0, Value.str (Str.ofString "/claim/cut.py") 338] }) :: (nat_lit 121, { cls := Value.type "function", data := Data.func { name := Str.ofString "__getnewargs__", qualname := Str.ofString "WindowStats.__getnewargs__", params := fa10, body := fb10, scope := fc10, globals := 3, closure := [], defaults := Value.none, kwdefaults := Value.none, doc := Value.str fd4 339, pyModule := Value.str (Str.ofString "limits.util") 194, code := Value.ref 120 } }) :: (nat_lit 122, { cls := Value.type "tuple", data := Data.seq #[Value.str (Str.ofString "reset_time") 341, Value.str (Str.ofString "remaining") 342] }) :: (nat_lit 123, { cls := Value.type "dict", data := Data.dict #[{ hash := PyData.keyHash P (Str.ofString "index"), key := Value.str (Str.ofString "index") 350, val := Value.int 0 344 }, { hash := PyData.keyHash P (Str.ofString "__doc__"), key := Value.str (Str.ofString "__doc__") 352, val := Value.str (Str.ofString "Alias for field number 0") 345 }] 2 }) :: (nat_lit 124, { cls := Value.ref 60, dict := some 123 }) :: (nat_lit 126, { cls := Value.type "dict", data := Data.dict #[{ hash := PyData.keyHash P (Str.ofString "index"), key := Value.str (Str.ofString "index") 360, val := Value.int 1 354 }, { hash := PyData.keyHash P (Str.ofString "__doc__"), key := Value.str (Str.ofString "__doc__") 362, val := Value.str (Str.ofString "Alias for field number 1") 355 }] 2 }) :: (nat_lit 127, { cls := Value.ref 60, dict := some 126 }) :: (nat_lit 129, { cls := Value.type "tuple", data := Data.seq #[] }) :: (nat_lit 131, { cls := Value.type "dict", data := Data.dict #[{ hash := PyData.keyHash P (Str.ofString "__module__"), key := Value.str (Str.ofString "__module__") 261, val := Value.str (Str.ofString "limits.util") 194 }, { hash := PyData.keyHash P (Str.ofString "__firstlineno__"), key := Value.str (Str.ofString "__firstlineno__") 265, val := Value.int 24 264 }, { hash := PyData.keyHash P (Str.ofString "__doc__"), key := Value.str (Str.ofString "__doc__") 267, val := Value.str fd5 266 }, { hash := PyData.keyHash P (Str.ofString "__slots__"), key := Value.str (Str.ofString "__slots__") 269, val := Value.ref 73 }, { hash := PyData.keyHash P (Str.ofString "_fields"), key := Value.str (Str.ofString "_fields") 272, val := Value.ref 74 }, { hash := PyData.keyHash P (Str.ofString "_field_defaults"), key := Value.str (Str.ofString "_field_defaults") 273, val := Value.ref 75 }, { hash := PyData.keyHash P (Str.ofString "__new__"), key := Value.str (Str.ofString "__new__") 283, val := Value.ref 133 }, { hash := PyData.keyHash P (Str.ofString "_make"), key := Value.str (Str.ofString "_make") 305, val := Value.ref 91 }, { hash := PyData.keyHash P (Str.ofString "_replace"), key := Value.str (Str.ofString "_replace") 316, val := Value.ref 100 }, { hash := PyData.keyHash P (Str.ofString "__replace__"), key := Value.str (Str.ofString "__replace__") 317, val := Value.ref 100 }, { hash := PyData.keyHash P (Str.ofString "__repr__"), key := Value.str (Str.ofString "__repr__") 325, val := Value.ref 107 }, { hash := PyData.keyHash P (Str.ofString "_asdict"), key := Value.str (Str.ofString "_asdict") 332, val := Value.ref 114 }, { hash := PyData.keyHash P (Str.ofString "__getnewargs__"), key := Value.str (Str.ofString "__getnewargs__") 340, val := Value.ref 121 }, { hash := PyData.keyHash P (Str.ofString "__match_args__"), key := Value.str (Str.ofString "__match_args__") 343, val := Value.ref 122 }, { hash := PyData.keyHash P (Str.ofString "reset_time"), key := Value.str (Str.ofString "reset_time") 353, val := Value.ref 124 }, { hash := PyData.keyHash P (Str.ofString "remaining"), key := Value.str (Str.ofString "remaining") 363, val := Value.ref 127 }, { hash := PyData.keyHash P (Str.ofString "__static_attributes__"), key := Value.str (Str.ofString "__static_attributes__") 364, val := Value.ref 129 }] 2 }) :: (nat_lit 132, { cls := Value.type "type", data := Data.cls { name := Str.ofString "WindowStats", bases := [Value.type "tuple"], mro := [Value.ref 132, Value.type "tuple", Value.type "object"], ns := 131, qualname := Str.ofString "WindowStats", hasDict := false }, slots := #[some (Value.ref 65), none, some (Value.str (Str.ofString "WindowStats") 254), some (Value.str (Str.ofString "WindowStats") 262), some Value.none, some (Value.bool false)] }) :: (nat_lit 133, { cls := Value.type "staticmethod", data := Data.fields #[Value.ref 82] }) :: (nat_lit 143, { cls := Value.type "tuple", data := Data.seq #[] }) :: (nat_lit 145, { cls := Value.type "tuple", data := Data.seq #[Value.str (Str.ofString "self") 386, Value.str (Str.ofString "storage") 387] }) :: (nat_lit 146, { cls := Value.type "tuple", data := Data.seq #[] }) :: (nat_lit 148, { cls := Value.type "code", data := Data.fields #[Value.str (Str.ofString "__init__") 383, Value.str (Str.ofString "RateLimiter.__init__") 384, Value.str (Str.ofString "/claim/cut.py") 385, Value.int 69 0, Value.int 2 0, Value.int 0 0, Value.int 0 0, Value.int 3 0, Value.ref 143, Value.bool true, Value.int 181 0, Value.ref 144, Value.none, Value.ref 145, Value.ref 146, Value.ref 147, Value.int 388 0, Value.int 69 0, Value.str (Str.ofString "/claim/cut.py") 389] }) :: (nat_lit 149, { cls := Value.type "function", data := Data.func { name := Str.ofString "__init__", qualname := Str.ofString "RateLimiter.__init__", params := fa11, body := fb11, scope := fc11, globals := 3, closure := [], defaults := Value.none, kwdefaults := Value.none, pyModule := Value.str (Str.ofString "limits.strategies") 369, code := Value.ref 148 } }) :: (nat_lit 150, { cls := Value.type "tuple", data := Data.seq #[] }) :: (nat_lit 151, { cls := Value.type "tuple", data := Data.seq #[Value.ref 150] }) :: (nat_lit 152, { cls := Value.type "tuple", data := Data.seq #[] }) :: (nat_lit 154, { cls := Value.type "tuple", data := Data.seq #[Value.str (Str.ofString "self") 394, Value.str (Str.ofString "item") 395, Value.str (Str.ofString "identifiers") 396] }) :: (nat_lit 155, { cls := Value.type "tuple", data := Data.seq #[] }) :: (nat_lit 157, { cls := Value.type "code", data := Data.fields #[Value.str (Str.ofString "clear") 391, Value.str (Str.ofString "RateLimiter.clear") 392, Value.str (Str.ofString "/claim/cut.py") 393, Value.int 72 0, Value.int 3 0, Value.int 0 0, Value.int 0 0, Value.int 3 0, Value.ref 152, Value.bool true, Value.int 181 0, Value.ref 153, Value.none, Value.ref 154, Value.ref 155, Value.ref 156, Value.int 397 0, Value.int 72 0, Value.str (Str.ofString "/claim/cut.py") 398] }) :: (nat_lit 158, { cls := Value.type "function", data := Data.func { name := Str.ofString "clear", qualname := Str.ofString "RateLimiter.clear", params := fa12, body := fb12, scope := fc12, globals := 3, closure := [], defaults := Value.ref 151, kwdefaults := Value.none, pyModule := Value.str (Str.ofString "limits.strategies") 369, code := Value.ref 157 } }) :: (nat_lit 159, { cls := Value.type "tuple", data := Data.seq #[Value.str (Str.ofString "storage") 400] }) :: (nat_lit 160, { cls := Value.type "dict", data := Data.dict #[{ hash := PyData.keyHash P (Str.ofString "__module__"), key := Value.str (Str.ofString "__module__") 378, val := Value.str (Str.ofString "limits.strategies") 369 }, { hash := PyData.keyHash P (Str.ofString "__firstlineno__"), key := Value.str (Str.ofString "__firstlineno__") 382, val := Value.int 67 381 }, { hash := PyData.keyHash P (Str.ofString "__init__"), key := Value.str (Str.ofString "__init__") 390, val := Value.ref 149 }, { hash := PyData.keyHash P (Str.ofString "clear"), key := Value.str (Str.ofString "clear") 399, val := Value.ref 158 }, { hash := PyData.keyHash P (Str.ofString "__static_attributes__"), key := Value.str (Str.ofString "__static_attributes__") 401, val := Value.ref 159 }, { hash := PyData.keyHash P (Str.ofString "__dict__"), key := Value.str (Str.ofString "__dict__") 403, val := Value.ref 162 }, { hash := PyData.keyHash P (Str.ofString "__weakref__"), key := Value.str (Str.ofString "__weakref__") 405, val := Value.ref 163 }, { hash := PyData.keyHash P (Str.ofString "__doc__"), key := Value.str (Str.ofString "__doc__") 406, val := Value.none }] 4 }) :: (nat_lit 161, { cls := Value.type "type", data := Data.cls { name := Str.ofString "RateLimiter", bases := [Value.type "object"], mro := [Value.ref 161, Value.type "object"], ns := 160, qualname := Str.ofString "RateLimiter", subclasses := [Value.ref 218] }, slots := #[none, none, some (Value.str (Str.ofString "RateLimiter") 371), some (Value.str (Str.ofString "RateLimiter") 379), some (Value.builtin "object.__new__"), some (Value.bool true)] }) :: (nat_lit 162, { cls := Value.type "getset_descriptor", data := Data.fields #[Value.str (Str.ofString "__dict__") 402, Value.ref 161, Value.builtin "function.__dict__", Value.builtin "function.__dict__#set"] }) :: (nat_lit 163, { cls := Value.type "getset_descriptor", data := Data.fields #[Value.str (Str.ofString "__weakref__") 404, Value.ref 161, Value.builtin "ExceptionGroup.__weakref__", Value.none] }) :: (nat_lit 166, { cls := Value.type "tuple", data := Data.seq #[Value.ref 161] }) :: (nat_lit 173, { cls := Value.type "tuple", data := Data.seq #[] }) :: (nat_lit 175, { cls := Value.type "tuple", data := Data.seq #[Value.str (Str.ofString "self") 427, Value.str (Str.ofString "item") 428, Value.str (Str.ofString "previous_count") 429, Value.str (Str.ofString "previous_expires_in") 430, Value.str (Str.ofString "current_count") 431] }) :: (nat_lit 176, { cls := Value.type "tuple", data := Data.seq #[] }) :: (nat_lit 178, { cls := Value.type "code", data := Data.fields #[Value.str (Str.ofString "_weighted_count") 424, Value.str (Str.ofString "SlidingWindowCounterRateLimiter._weighted_count") 425, Value.str (Str.ofString "/claim/cut.py") 426, Value.int 79 0, Value.int 5 0, Value.int 0 0, Value.int 0 0, Value.int 3 0, Value.ref 173, Value.bool true, Value.int 181 0, Value.ref 174, Value.none, Value.ref 175, Value.ref 176, Value.ref 177, Value.int 432 0, Value.int 79 0, Value.str (Str.ofString "/claim/cut.py") 433] }) :: (nat_lit 179, { cls := Value.type "function", data := Data.func { name := Str.ofString "_weighted_count", qualname := Str.ofString "SlidingWindowCounterRateLimiter._weighted_count", params := fa13, body := fb13, scope := fc13, globals := 3, closure := [], defaults := Value.none, kwdefaults := Value.none, doc := Value.str fd6 434, pyModule := Value.str (Str.ofString "limits.strategies") 369, code := Value.ref 178 } }) :: (nat_lit 180, { cls := Value.type "tuple", data := Data.seq #[] }) :: (nat_lit 181, { cls := Value.type "tuple", data := Data.seq #[Value.ref 180, Value.int 1 436] }) :: (nat_lit 182, { cls := Value.type "tuple", data := Data.seq #[] }) :: (nat_lit 184, { cls := Value.type "tuple", data := Data.seq #[Value.str (Str.ofString "self") 440, Value.str (Str.ofString "item") 441, Value.str (Str.ofString "identifiers") 442, Value.str (Str.ofString "cost") 443] }) :: (nat_lit 185, { cls := Value.type "tuple", data := Data.seq #[] }) :: (nat_lit 187, { cls := Value.type "code", data := Data.fields #[Value.str (Str.ofString "hit") 437, Value.str (Str.ofString "SlidingWindowCounterRateLimiter.hit") 438, Value.str (Str.ofString "/claim/cut.py") 439, Value.int 85 0, Value.int 4 0, Value.int 0 0, Value.int 0 0, Value.int 3 0, Value.ref 182, Value.bool true, Value.int 181 0, Value.ref 183, Value.none, Value.ref 184, Value.ref 185, Value.ref 186, Value.int 444 0, Value.int 85 0, Value.str (Str.ofString "/claim/cut.py") 445] }) :: (nat_lit 188, { cls := Value.type "function", data := Data.func { name := Str.ofString "hit", qualname := Str.ofString "SlidingWindowCounterRateLimiter.hit", params := fa14, body := fb14, scope := fc14, globals := 3, closure := [], defaults := Value.ref 181, kwdefaults := Value.none, doc := Value.str fd7 446, pyModule := Value.str (Str.ofString "limits.strategies") 369, code := Value.ref 187 } }) :: (nat_lit 189, { cls := Value.type "tuple", data := Data.seq #[] }) :: (nat_lit 190, { cls := Value.type "tuple", data := Data.seq #[Value.ref 189, Value.int 1 448] }) :: (nat_lit 191, { cls := Value.type "tuple", data := Data.seq #[] }) :: (nat_lit 193, { cls := Value.type "tuple", data := Data.seq #[Value.str (Str.ofString "self") 452, Value.str (Str.ofString "item") 453, Value.str (Str.ofString "identifiers") 454, Value.str (Str.ofString "cost") 455, Value.str (Str.ofString "previous_count") 456, Value.str (Str.ofString "previous_expires_in") 457, Value.str (Str.ofString "current_count") 458, Value.str (Str.ofString "_") 459] }) :: (nat_lit 194, { cls := Value.type "tuple", data := Data.seq #[] }) :: (nat_lit 196, { cls := Value.type "code", data := Data.fields #[Value.str (Str.ofString "test") 449, Value.str (Str.ofString "SlidingWindowCounterRateLimiter.test") 450, Value.str (Str.ofString "/claim/cut.py") 451, Value.int 98 0, Value.int 4 0, Value.int 0 0, Value.int 0 0, Value.int 3 0, Value.ref 191, Value.bool true, Value.int 181 0, Value.ref 192, Value.none, Value.ref 193, Value.ref 194, Value.ref 195, Value.int 460 0, Value.int 98 0, Value.str (Str.ofString "/claim/cut.py") 461] }) :: (nat_lit 197, { cls := Value.type "function", data := Data.func { name := Str.ofString "test", qualname := Str.ofString "SlidingWindowCounterRateLimiter.test", params := fa15, body := fb15, scope := fc15, globals := 3, closure := [], defaults := Value.ref 190, kwdefaults := Value.none, doc := Value.str fd8 462, pyModule := Value.str (Str.ofString "limits.strategies") 369, code := Value.ref 196 } }) :: (nat_lit 198, { cls := Value.type "tuple", data := Data.seq #[] }) :: (nat_lit 199, { cls := Value.type "tuple", data := Data.seq #[Value.ref 198] }) :: (nat_lit 200, { cls := Value.type "tuple", data := Data.seq #[] }) :: (nat_lit 202, { cls := Value.type "tuple", data := Data.seq #[Value.str (Str.ofString "self") 467, Value.str (Str.ofString "item") 468, Value.str (Str.ofString "identifiers") 469, Value.str (Str.ofString "previous_count") 470, Value.str (Str.ofString "previous_expires_in") 471, Value.str (Str.ofString "current_count") 472, Value.str (Str.ofString "current_expires_in") 473, Value.str (Str.ofString "remaining") 474, Value.str (Str.ofString "now") 475, Value.str (Str.ofString "expiry") 476, Value.str (Str.ofString "reset_in") 477] }) :: (nat_lit 203, { cls := Value.type "tuple", data := Data.seq #[] }) :: (nat_lit 205, { cls := Value.type "code", data := Data.fields #[Value.str (Str.ofString "get_window_stats") 464, Value.str (Str.ofString "SlidingWindowCounterRateLimiter.get_window_stats") 465, Value.str (Str.ofString "/claim/cut.py") 466, Value.int 112 0, Value.int 3 0, Value.int 0 0, Value.int 0 0, Value.int 3 0, Value.ref 200, Value.bool true, Value.int 181 0, Value.ref 201, Value.none, Value.ref 202, Value.ref 203, Value.ref 204, Value.int 478 0, Value.int 112 0, Value.str (Str.ofString "/claim/cut.py") 479] }) :: (nat_lit 206, { cls := Value.type "function", data := Data.func { name := Str.ofString "get_window_stats", qualname := Str.ofString "SlidingWindowCounterRateLimiter.get_window_stats", params := fa16, body := fb16, scope := fc16, globals := 3, closure := [], defaults := Value.ref 199, kwdefaults := Value.none, doc := Value.str fd9 480, pyModule := Value.str (Str.ofString "limits.strategies") 369, code := Value.ref 205 } }) :: (nat_lit 207, { cls := Value.type "tuple", data := Data.seq #[] }) :: (nat_lit 208, { cls := Value.type "tuple", data := Data.seq #[Value.ref 207] }) :: (nat_lit 209, { cls := Value.type "tuple", data := Data.seq #[] }) :: (nat_lit 211, { cls := Value.type "tuple", data := Data.seq #[Value.str (Str.ofString "self") 485, Value.str (Str.ofString "item") 486, Value.str (Str.ofString "identifiers") 487] }) :: (nat_lit 212, { cls := Value.type "tuple", data := Data.seq #[] }) :: (nat_lit 214, { cls := Value.type "code", data := Data.fields #[Value.str (Str.ofString "clear") 482, Value.str (Str.ofString "SlidingWindowCounterRateLimiter.clear") 483, Value.str (Str.ofString "/claim/cut.py") 484, Value.int 134 0, Value.int 3 0, Value.int 0 0, Value.int 0 0, Value.int 3 0, Value.ref 209, Value.bool true, Value.int 181 0, Value.ref 210, Value.none, Value.ref 211, Value.ref 212, Value.ref 213, Value.int 488 0, Value.int 134 0, Value.str (Str.ofString "/claim/cut.py") 489] }) :: (nat_lit 215, { cls := Value.type "function", data := Data.func { name := Str.ofString "clear", qualname := Str.ofString "SlidingWindowCounterRateLimiter.clear", params := fa17, body := fb17, scope := fc17, globals := 3, closure := [], defaults := Value.ref 208, kwdefaults := Value.none, pyModule := Value.str (Str.ofString "limits.strategies") 369, code := Value.ref 214 } }) :: (nat_lit 216, { cls := Value.type "tuple", data := Data.seq #[] }) :: (nat_lit 217, { cls := Value.type "dict", data := Data.dict #[{ hash := PyData.keyHash P (Str.ofString "__module__"), key := Value.str (Str.ofString "__module__") 416, val := Value.str (Str.ofString "limits.strategies") 369 }, { hash := PyData.keyHash P (Str.ofString "__firstlineno__"), key := Value.str (Str.ofString "__firstlineno__") 420, val := Value.int 74 419 }, { hash := PyData.keyHash P (Str.ofString "__doc__"), key := Value.str (Str.ofString "__doc__") 422, val := Value.str fd10 421 }, { hash := PyData.keyHash P (Str.ofString "_weighted_count"), key := Value.str (Str.ofString "_weighted_count") 435, val := Value.ref 179 }, { hash := PyData.keyHash P (Str.ofString "hit"), key := Value.str (Str.ofString "hit") 447, val := Value.ref 188 }, { hash := PyData.keyHash P (Str.ofString "test"), key := Value.str (Str.ofString "test") 463, val := Value.ref 197 }, { hash := PyData.keyHash P (Str.ofString "get_window_stats"), key := Value.str (Str.ofString "get_window_stats") 481, val := Value.ref 206 }, { hash := PyData.keyHash P (Str.ofString "clear"), key := Value.str (Str.ofString "clear") 490, val := Value.ref 215 }, { hash := PyData.keyHash P (Str.ofString "__static_attributes__"), key := Value.str (Str.ofString "__static_attributes__") 491, val := Value.ref 216 }] 1 }) :: (nat_lit 218, { cls := Value.type "type", data := Data.cls { name := Str.ofString "SlidingWindowCounterRateLimiter", bases := [Value.ref 161], mro := [Value.ref 218, Value.ref 161, Value.type "object"], ns := 217, qualname := Str.ofString "SlidingWindowCounterRateLimiter" }, slots := #[some (Value.ref 166), none, some (Value.str (Str.ofString "SlidingWindowCounterRateLimiter") 409), some (Value.str (Str.ofString "SlidingWindowCounterRateLimiter") 417), some (Value.builtin "object.__new__"), some (Value.bool true)] }) :: (nat_lit 228, { cls := Value.type "tuple", data := Data.seq #[] }) :: (nat_lit 230, { cls := Value.type "tuple", data := Data.seq #[Value.str (Str.ofString "self") 511, Value.str (Str.ofString "index") 512, Value.str (Str.ofString "doc") 513] }) :: (nat_lit 231, { cls := Value.type "tuple", data := Data.seq #[] }) :: (nat_lit 233, { cls := Value.type "code", data := Data.fields #[Value.str (Str.ofString "__init__") 508, Value.str (Str.ofString "_tuplegetter.__init__") 509, Value.str (Str.ofString "/claim/cut.py") 510, Value.int 139 0, Value.int 3 0, Value.int 0 0, Value.int 0 0, Value.int 3 0, Value.ref 228, Value.bool true, Value.int 181 0, Value.ref 229, Value.none, Value.ref 230, Value.ref 231, Value.ref 232, Value.int 514 0, Value.int 139 0, Value.str (Str.ofString "/claim/cut.py") 515] }) :: (nat_lit 234, { cls := Value.type "function", data := Data.func { name := Str.ofString "__init__", qualname := Str.ofString "_tuplegetter.__init__", params := fa18, body := fb18, scope := fc18, globals := 3, closure := [], defaults := Value.none, kwdefaults := Value.none, pyModule := Value.str (Str.ofString "limits.limits") 494, code := Value.ref 233 } }) :: (nat_lit 235, { cls := Value.type "tuple", data := Data.seq #[Value.none] }) :: (nat_lit 236, { cls := Value.type "tuple", data := Data.seq #[] }) :: (nat_lit 238, { cls := Value.type "tuple", data := Data.seq #[Value.str (Str.ofString "self") 520, Value.str (Str.ofString "obj") 521, Value.str (Str.ofString "objtype") 522] }) :: (nat_lit 239, { cls := Value.type "tuple", data := Data.seq #[] }) :: (nat_lit 241, { cls := Value.type "code", data := Data.fields #[Value.str (Str.ofString "__get__") 517, Value.str (Str.ofString "_tuplegetter.__get__") 518, Value.str (Str.ofString "/claim/cut.py") 519, Value.int 143 0, Value.int 3 0, Value.int 0 0, Value.int 0 0, Value.int 3 0, Value.ref 236, Value.bool true, Value.int 181 0, Value.ref 237, Value.none, Value.ref 238, Value.ref 239, Value.ref 240, Value.int 523 0, Value.int 143 0, Value.str (Str.ofString "/claim/cut.py") 524] }) :: (nat_lit 242, { cls := Value.type "function", data := Data.func { name := Str.ofString "__get__", qualname := Str.ofString "_tuplegetter.__get__", params := fa19, body := fb19, scope := fc19, globals := 3, closure := [], defaults := Value.ref 235, kwdefaults := Value.none, pyModule := Value.str (Str.ofString "limits.limits") 494, code := Value.ref 241 } }) :: (nat_lit 243, { cls := Value.type "tuple", data := Data.seq #[] }) :: (nat_lit 245, { cls := Value.type "tuple", data := Data.seq #[Value.str (Str.ofString "self") 529, Value.str (Str.ofString "obj") 530, Value.str (Str.ofString "value") 531] }) :: (nat_lit 246, { cls := Value.type "tuple", data := Data.seq #[] }) :: (nat_lit 248, { cls := Value.type "code", data := Data.fields #[Value.str (Str.ofString "__set__") 526, Value.str (Str.ofString "_tuplegetter.__set__") 527, Value.str (Str.ofString "/claim/cut.py") 528, Value.int 150 0, Value.int 3 0, Value.int 0 0, Value.int 0 0, Value.int 3 0, Value.ref 243, Value.bool true, Value.int 181 0, Value.ref 244, Value.none, Value.ref 245, Value.ref 246, Value.ref 247, Value.int 532 0, Value.int 150 0, Value.str (Str.ofString "/claim/cut.py") 533] }) :: (nat_lit 249, { cls := Value.type "function", data := Data.func { name := Str.ofString "__set__", qualname := Str.ofString "_tuplegetter.__set__", params := fa20, body := fb20, scope := fc20, globals := 3, closure := [], defaults := Value.none, kwdefaults := Value.none, pyModule := Value.str (Str.ofString "limits.limits") 494, code := Value.ref 248 } }) :: (nat_lit 250, { cls := Value.type "tuple", data := Data.seq #[] }) :: (nat_lit 252, { cls := Value.type "tuple", data := Data.seq #[Value.str (Str.ofString "self") 538, Value.str (Str.ofString "obj") 539] }) :: (nat_lit 253, { cls := Value.type "tuple", data := Data.seq #[] }) :: (nat_lit 255, { cls := Value.type "code", data := Data.fields #[Value.str (Str.ofString "__delete__") 535, Value.str (Str.ofString "_tuplegetter.__delete__") 536, Value.str (Str.ofString "/claim/cut.py") 537, Value.int 153 0, Value.int 2 0, Value.int 0 0, Value.int 0 0, Value.int 3 0, Value.ref 250, Value.bool true, Value.int 181 0, Value.ref 251, Value.none, Value.ref 252, Value.ref 253, Value.ref 254, Value.int 540 0, Value.int 153 0, Value.str (Str.ofString "/claim/cut.py") 541] }) :: (nat_lit 256, { cls := Value.type "function", data := Data.func { name := Str.ofString "__delete__", qualname := Str.ofString "_tuplegetter.__delete__", params := fa21, body := fb21, scope := fc21, globals := 3, closure := [], defaults := Value.none, kwdefaults := Value.none, pyModule := Value.str (Str.ofString "limits.limits") 494, code := Value.ref 255 } }) :: (nat_lit 257, { cls := Value.type "tuple", data := Data.seq #[Value.str (Str.ofString "__doc__") 543, Value.str (Str.ofString "index") 544] }) :: (nat_lit 258, { cls := Value.type "dict", data := Data.dict #[{ hash := PyData.keyHash P (Str.ofString "__module__"), key := Value.str (Str.ofString "__module__") 503, val := Value.str (Str.ofString "limits.limits") 494 }, { hash := PyData.keyHash P (Str.ofString "__firstlineno__"), key := Value.str (Str.ofString "__firstlineno__") 507, val := Value.int 137 506 }, { hash := PyData.keyHash P (Str.ofString "__init__"), key := Value.str (Str.ofString "__init__") 516, val := Value.ref 234 }, { hash := PyData.keyHash P (Str.ofString "__get__"), key := Value.str (Str.ofString "__get__") 525, val := Value.ref 242 }, { hash := PyData.keyHash P (Str.ofString "__set__"), key := Value.str (Str.ofString "__set__") 534, val := Value.ref 249 }, { hash := PyData.keyHash P (Str.ofString "__delete__"), key := Value.str (Str.ofString "__delete__") 542, val := Value.ref 256 }, { hash := PyData.keyHash P (Str.ofString "__static_attributes__"), key := Value.str (Str.ofString "__static_attributes__") 545, val := Value.ref 257 }, { hash := PyData.keyHash P (Str.ofString "__dict__"), key := Value.str (Str.ofString "__dict__") 547, val := Value.ref 260 }, { hash := PyData.keyHash P (Str.ofString "__weakref__"), key := Value.str (Str.ofString "__weakref__") 549, val := Value.ref 261 }, { hash := PyData.keyHash P (Str.ofString "__doc__"), key := Value.str (Str.ofString "__doc__") 550, val := Value.none }] 4 }) :: (nat_lit 259, { cls := Value.type "type", data := Data.cls { name := Str.ofString "_tuplegetter", bases := [Value.type "object"], mro := [Value.ref 259, Value.type "object"], ns := 258, qualname := Str.ofString "_tuplegetter" }, slots := #[none, none, some (Value.str (Str.ofString "_tuplegetter") 496), some (Value.str (Str.ofString "_tuplegetter") 504), some (Value.builtin "object.__new__"), some (Value.bool true)] }) :: (nat_lit 260, { cls := Value.type "getset_descriptor", data := Data.fields #[Value.str (Str.ofString "__dict__") 546, Value.ref 259, Value.builtin "function.__dict__", Value.builtin "function.__dict__#set"] }) :: (nat_lit 261, { cls := Value.type "getset_descriptor", data := Data.fields #[Value.str (Str.ofString "__weakref__") 548, Value.ref 259, Value.builtin "ExceptionGroup.__weakref__", Value.none] }) :: (nat_lit 264, { cls := Value.type "tuple", data := Data.seq #[] }) :: (nat_lit 266, { cls := Value.type "tuple", data := Data.seq #[Value.str (Str.ofString "value") 557] }) :: (nat_lit 267, { cls := Value.type "tuple", data := Data.seq #[] }) :: (nat_lit 269, { cls := Value.type "code", data := Data.fields #[Value.str (Str.ofString "safe_string") 554, Value.str (Str.ofString "safe_string") 555, Value.str (Str.ofString "/claim/cut.py") 556, Value.int 156 0, Value.int 1 0, Value.int 0 0, Value.int 0 0, Value.int 3 0, Value.ref 264, Value.bool true, Value.int 181 0, Value.ref 265, Value.none, Value.ref 266, Value.ref 267, Value.ref 268, Value.int 558 0, Value.int 156 0, Value.str (Str.ofString "/claim/cut.py") 559] }) :: (nat_lit 270, { cls := Value.type "function", data := Data.func { name := Str.ofString "safe_string", qualname := Str.ofString "safe_string", params := fa22, body := fb22, scope := fc22, globals := 3, closure := [], defaults := Value.none, kwdefaults := Value.none, doc := Value.str fd11 560, pyModule := Value.str (Str.ofString "limits.limits") 494, code := Value.ref 269 } }) :: (nat_lit 271, { cls := Value.type "tuple", data := Data.seq #[Value.type "tuple"] }) :: (nat_lit 274, { cls := Value.type "cell", data := Data.cell (some (Value.ref 338)) }) :: (nat_lit 279, { cls := Value.type "tuple", data := Data.seq #[] }) :: (nat_lit 280, { cls := Value.type "tuple", data := Data.seq #[Value.str (Str.ofString "seconds") 578, Value.str (Str.ofString "name") 579] }) :: (nat_lit 281, { cls := Value.type "dict", data := Data.dict #[] }) :: (nat_lit 282, { cls := Value.type "tuple", data := Data.seq #[] }) :: (nat_lit 284, { cls := Value.type "tuple", data := Data.seq #[Value.str (Str.ofString "_cls") 585, Value.str (Str.ofString "seconds") 586, Value.str (Str.ofString "name") 587] }) :: (nat_lit 285, { cls := Value.type "tuple", data := Data.seq #[] }) :: (nat_lit 287, { cls := Value.type "code", data := Data.fields #[Value.str (Str.ofString "__new__") 582, Value.str (Str.ofString "Granularity.__new__") 583, Value.str (Str.ofString "/claim/cut.py") 584, Value.int 169 0, Value.int 3 0, Value.int 0 0, Value.int 0 0, Value.int 3 0, Value.ref 282, Value.bool true, Value.int 181 0, Value.ref 283, Value.none, Value.ref 284, Value.ref 285, Value.ref 286, Value.int 588 0, Value.int 169 0, Value.str (Str.ofString "/claim/cut.py") 589] }) :: (nat_lit 288, { cls := Value.type "function", data := Data.func { name := Str.ofString "__new__", qualname := Str.ofString "Granularity.__new__", params := fa23, body := fb23, scope := fc23, globals := 3, closure := [], defaults := Value.none, kwdefaults := Value.none, doc := Value.str fd12 590, pyModule := Value.str (Str.ofString "limits.limits") 494, code := Value.ref 287 } }) :: (nat_lit 289, { cls := Value.type "tuple", data := Data.seq #[] }) :: (nat_lit 291, { cls := Value.type "tuple", data := Data.seq #[Value.str (Str.ofString "cls") 595, Value.str (Str.ofString "iterable") 596, Value.str (Str.ofString "result") 597] }) :: (nat_lit 292, { cls := Value.type "tuple", data := Data.seq #[] }) :: (nat_lit 294, { cls := Value.type "code", data := Data.fields #[Value.str (Str.ofString "_make") 592, Value.str (Str.ofString "Granularity._make") 593, Value.str (Str.ofString "/claim/cut.py") 594, Value.int 173 0, Value.int 2 0, Value.int 0 0, Value.int 0 0, Value.int 3 0, Value.ref 289, Value.bool true, Value.int 181 0, Value.ref 290, Value.none, Value.ref 291, Value.ref 292, Value.ref 293, Value.int 598 0, Value.int 173 0, Value.str (Str.ofString "/claim/cut.py") 599] }) :: (nat_lit 295, { cls := Value.type "function", data := Data.func { name := Str.ofString "_make", qualname := Str.ofString "Granularity._make", params := fa24, body := fb24, scope := fc24, globals := 3, closure := [], defaults := Value.none, kwdefaults := Value.none, doc := Value.str fd13 600, pyModule := Value.str (Str.ofString "limits.limits") 494, annotations := some 298, code := Value.ref 294 } }) :: (nat_lit 296, { cls := Value.type "dict", data := Data.dict #[{ hash := PyData.keyHash P (Str.ofString "__module__"), key := Value.str (Str.ofString "__module__") 602, val := Value.str (Str.ofString "limits.limits") 494 }, { hash := PyData.keyHash P (Str.ofString "__name__"), key := Value.str (Str.ofString "__name__") 605, val := Value.str (Str.ofString "_make") 604 }, { hash := PyData.keyHash P (Str.ofString "__qualname__"), key := Value.str (Str.ofString "__qualname__") 608, val := Value.str (Str.ofString "Granularity._make") 607 }, { hash := PyData.keyHash P (Str.ofString "__doc__"), key := Value.str (Str.ofString "__doc__") 610, val := Value.str fd13 600 }, { hash := PyData.keyHash P (Str.ofString "__annotations__"), key := Value.str (Str.ofString "__annotations__") 612, val := Value.ref 298 }] 5 }) :: (nat_lit 297, { cls := Value.type "classmethod", dict := some 296, data := Data.fields #[Value.ref 295, Value.bool false] }) :: (nat_lit 298, { cls := Value.type "dict", data := Data.dict #[] }) :: (nat_lit 299, { cls := Value.type "tuple", data := Data.seq #[Value.ref 274] }) :: (nat_lit 300, { cls := Value.type "tuple", data := Data.seq #[Value.str (Str.ofString "__class__") 617] }) :: (nat_lit 302, { cls := Value.type "tuple", data := Data.seq #[Value.str (Str.ofString "self") 618, Value.str (Str.ofString "kwds") 619, Value.str (Str.ofString "result") 620] }) :: (nat_lit 303, { cls := Value.type "tuple", data := Data.seq #[] }) :: (nat_lit 305, { cls := Value.type "code", data := Data.fields #[Value.str (Str.ofString "_replace") 614, Value.str (Str.ofString "Granularity._replace") 615, Value.str (Str.ofString "/claim/cut.py") 616, Value.int 181 0, Value.int 1 0, Value.int 1 0, Value.int 0 0, Value.int 11 0, Value.ref 300, Value.bool true, Value.int 181 0, Value.ref 301, Value.none, Value.ref 302, Value.ref 303, Value.ref 304, Value.int 621 0, Value.int 181 0, Value.str (Str.ofString "/claim/cut.py") 622] }) :: (nat_lit 306, { cls := Value.type "function", data := Data.func { name := Str.ofString "_replace", qualname := Str.ofString "Granularity._replace", params := fa25, body := fb25, scope := fc25, globals := 3, closure := [(Str.ofString "__class__", 274)], defaults := Value.none, kwdefaults := Value.none, doc := Value.str fd14 623, pyModule := Value.str (Str.ofString "limits.limits") 494, code := Value.ref 305, closureTuple := Value.ref 299 } }) :: (nat_lit 307, { cls := Value.type "tuple", data := Data.seq #[] }) :: (nat_lit 309, { cls := Value.type "tuple", data := Data.seq #[Value.str (Str.ofString "self") 629] }) :: (nat_lit 310, { cls := Value.type "tuple", data := Data.seq #[] }) :: (nat_lit 312, { cls := Value.type "code", data := Data.fields #[Value.str (Str.ofString "__repr__") 626, Value.str (Str.ofString "Granularity.__repr__") 627, Value.str (Str.ofString "/claim/cut.py") 628, Value.int 192 0, Value.int 1 0, Value.int 0 0, Value.int 0 0, Value.int 3 0, Value.ref 307, Value.bool true, Value.int 181 0, Value.ref 308, Value.none, Value.ref 309, Value.ref 310, Value.ref 311, Value.int 630 0, Value.int 192 0, Value.str (Str.ofString "/claim/cut.py") 631] }) :: (nat_lit 313, { cls := Value.type "function", data := Data.func { name := Str.ofString "__repr__", qualname := Str.ofString "Granularity.__repr__", params := fa26, body := fb26, scope := fc26, globals := 3, closure := [], defaults := Value.none, kwdefaults := Value.none, doc := Value.str fd3 632, pyModule := Value.str (Str.ofString "limits.limits") 494, code := Value.ref 312 } }) :: (nat_lit 314, { cls := Value.type "tuple", data := Data.seq #[] }) :: (nat_lit 316, { cls := Value.type "tuple", data := Data.seq #[Value.str (Str.ofString "self") 637] }) :: (nat_lit 317, { cls := Value.type "tuple", data := Data.seq #[] }) :: (nat_lit 319, { cls := Value.type "code", data := Data.fields #[Value.str (Str.ofString "_asdict") 634, Value.str (Str.ofString "Granularity._asdict") 635, Value.str (Str.ofString "/claim/cut.py") 636, Value.int 196 0, Value.int 1 0, Value.int 0 0, Value.int 0 0, Value.int 3 0, Value.ref 314, Value.bool true, Value.int 181 0, Value.ref 315, Value.none, Value.ref 316, Value.ref 317, Value.ref 318, Value.int 638 0, Value.int 196 0, Value.str (Str.ofString "/claim/cut.py") 639] }) :: (nat_lit 320, { cls := Value.type "function", data := Data.func { name := Str.ofString "_asdict", qualname := Str.ofString "Granularity._asdict", params := fa27, body := fb27, scope := fc27, globals := 3, closure := [], defaults := Value.none, kwdefaults := Value.none, pyModule := Value.str (Str.ofString "limits.limits") 494, code := Value.ref 319 } }) :: (nat_lit 321, { cls := Value.type "tuple", data := Data.seq #[] }) :: (nat_lit 323, { cls := Value.type "tuple", data := Data.seq #[Value.str (Str.ofString "self") 644] }) :: (nat_lit 324, { cls := Value.type "tuple", data := Data.seq #[] }) :: (nat_lit 326, { cls := Value.type "code", data := Data.fields #[Value.str (Str.ofString "__getnewargs__") 641, Value.str (Str.ofString "Granularity.__getnewargs__") 642, Value.str (Str.ofString "/claim/cut.py") 643, Value.int 199 0, Value.int 1 0, Value.int 0 0, Value.int 0 0, Value.int 3 0, Value.ref 321, Value.bool true, Value.int 181 0, Value.ref 322, Value.none, Value.ref 323, Value.ref 324, Value.ref 325, Value.int 645 0, Value.int 199 0, Value.str (Str.ofString "/claim/cut.py") 646] }) :: (nat_lit 327, { cls := Value.type "function", data := Data.func { name := Str.ofString "__getnewargs__", qualname := Str.ofString "Granularity.__getnewargs__", params := fa28, body := fb28, scope := fc28, globals := 3, closure := [], defaults := Value.none, kwdefaults := Value.none, doc := Value.str fd4 647, pyModule := Value.str (Str.ofString "limits.limits") 494, code := Value.ref 326 } }) :: (nat_lit 328, { cls := Value.type "tuple", data := Data.seq #[Value.str (Str.ofString "seconds") 649, Value.str (Str.ofString "name") 650] }) :: (nat_lit 329, { cls := Value.type "dict", data := Data.dict #[{ hash := PyData.keyHash P (Str.ofString "index"), key := Value.str (Str.ofString "index") 658, val := Value.int 0 652 }, { hash := PyData.keyHash P (Str.ofString "__doc__"), key := Value.str (Str.ofString "__doc__") 660, val := Value.str (Str.ofString "Alias for field number 0") 653 }] 2 }) :: (nat_lit 330, { cls := Value.ref 259, dict := some 329 }) :: (nat_lit 332, { cls := Value.type "dict", data := Data.dict #[{ hash := PyData.keyHash P (Str.ofString "index"), key := Value.str (Str.ofString "index") 668, val := Value.int 1 662 }, { hash := PyData.keyHash P (Str.ofString "__doc__"), key := Value.str (Str.ofString "__doc__") 670, val := Value.str (Str.ofString "Alias for field number 1") 663 }] 2 }) :: (nat_lit 333, { cls := Value.ref 259, dict := some 332 }) :: (nat_lit 335, { cls := Value.type "tuple", data := Data.seq #[] }) :: (nat_lit 337, { cls := Value.type "dict", data := Data.dict #[{ hash := PyData.keyHash P (Str.ofString "__module__"), key := Value.str (Str.ofString "__module__") 569, val := Value.str (Str.ofString "limits.limits") 494 }, { hash := PyData.keyHash P (Str.ofString "__firstlineno__"), key := Value.str (Str.ofString "__firstlineno__") 573, val := Value.int 163 572 }, { hash := PyData.keyHash P (Str.ofString "__doc__"), key := Value.str (Str.ofString "__doc__") 575, val := Value.str fd15 574 }, { hash := PyData.keyHash P (Str.ofString "__slots__"), key := Value.str (Str.ofString "__slots__") 577, val := Value.ref 279 }, { hash := PyData.keyHash P (Str.ofString "_fields"), key := Value.str (Str.ofString "_fields") 580, val := Value.ref 280 }, { hash := PyData.keyHash P (Str.ofString "_field_defaults"), key := Value.str (Str.ofString "_field_defaults") 581, val := Value.ref 281 }, { hash := PyData.keyHash P (Str.ofString "__new__"), key := Value.str (Str.ofString "__new__") 591, val := Value.ref 339 }, { hash := PyData.keyHash P (Str.ofString "_make"), key := Value.str (Str.ofString "_make") 613, val := Value.ref 297 }, { hash := PyData.keyHash P (Str.ofString "_replace"), key := Value.str (Str.ofString "_replace") 624, val := Value.ref 306 }, { hash := PyData.keyHash P (Str.ofString "__replace__"), key := Value.str (Str.ofString "__replace__") 625, val := Value.ref 306 }, { hash := PyData.keyHash P (Str.ofString "__repr__"), key := Value.str (Str.ofString "__repr__") 633, val := Value.ref 313 }, { hash := PyData.keyHash P (Str.ofString "_asdict"), key := Value.str (Str.ofString "_asdict") 640, val := Value.ref 320 }, { hash := PyData.keyHash P (Str.ofString "__getnewargs__"), key := Value.str (Str.ofString "__getnewargs__") 648, val := Value.ref 327 }, { hash := PyData.keyHash P (Str.ofString "__match_args__"), key := Value.str (Str.ofString "__match_args__") 651, val := Value.ref 328 }, { hash := PyData.keyHash P (Str.ofString "seconds"), key := Value.str (Str.ofString "seconds") 661, val := Value.ref 330 }, { hash := PyData.keyHash P (Str.ofString "name"), key := Value.str (Str.ofString "name") 671, val := Value.ref 333 }, { hash := PyData.keyHash P (Str.ofString "__static_attributes__"), key := Value.str (Str.ofString "__static_attributes__") 672, val := Value.ref 335 }] 2 }) :: (nat_lit 338, { cls := Value.type "type", data := Data.cls { name := Str.ofString "Granularity", bases := [Value.type "tuple"], mro := [Value.ref 338, Value.type "tuple", Value.type "object"], ns := 337, qualname := Str.ofString "Granularity", hasDict := false }, slots := #[some (Value.ref 271), none, some (Value.str (Str.ofString "Granularity") 562), some (Value.str (Str.ofString "Granularity") 570), some Value.none, some (Value.bool false)] }) :: (nat_lit 339, { cls := Value.type "staticmethod", data := Data.fields #[Value.ref 288] }) :: (nat_lit 349, { cls := Value.type "tuple", data := Data.seq #[Value.int 1 693, Value.str (Str.ofString "LIMITER") 694] }) :: (nat_lit 350, { cls := Value.type "tuple", data := Data.seq #[] }) :: (nat_lit 352, { cls := Value.type "tuple", data := Data.seq #[Value.str (Str.ofString "self") 698, Value.str (Str.ofString "amount") 699, Value.str (Str.ofString "multiples") 700, Value.str (Str.ofString "namespace") 701] }) :: (nat_lit 353, { cls := Value.type "tuple", data := Data.seq #[] }) :: (nat_lit 355, { cls := Value.type "code", data := Data.fields #[Value.str (Str.ofString "__init__") 695, Value.str (Str.ofString "RateLimitItem.__init__") 696, Value.str (Str.ofString "/claim/cut.py") 697, Value.int 217 0, Value.int 4 0, Value.int 0 0, Value.int 0 0, Value.int 3 0, Value.ref 350, Value.bool true, Value.int 181 0, Value.ref 351, Value.none, Value.ref 352, Value.ref 353, Value.ref 354, Value.int 702 0, Value.int 217 0, Value.str (Str.ofString "/claim/cut.py") 703] }) :: (nat_lit 356, { cls := Value.type "function", data := Data.func { name := Str.ofString "__init__", qualname := Str.ofString "RateLimitItem.__init__", params := fa29, body := fb29, scope := fc29, globals := 3, closure := [], defaults := Value.ref 349, kwdefaults := Value.none, pyModule := Value.str (Str.ofString "limits.limits") 494, code := Value.ref 355 } }) :: (nat_lit 357, { cls := Value.type "tuple", data := Data.seq #[] }) :: (nat_lit 359, { cls := Value.type "tuple", data := Data.seq #[Value.str (Str.ofString "cls") 708, Value.str (Str.ofString "granularity_string") 709] }) :: (nat_lit 360, { cls := Value.type "tuple", data := Data.seq #[] }) :: (nat_lit 362, { cls := Value.type "code", data := Data.fields #[Value.str (Str.ofString "check_granularity_string") 705, Value.str (Str.ofString "RateLimitItem.check_granularity_string") 706, Value.str (Str.ofString "/claim/cut.py") 707, Value.int 222 0, Value.int 2 0, Value.int 0 0, Value.int 0 0, Value.int 3 0, Value.ref 357, Value.bool true, Value.int 181 0, Value.ref 358, Value.none, Value.ref 359, Value.ref 360, Value.ref 361, Value.int 710 0, Value.int 222 0, Value.str (Str.ofString "/claim/cut.py") 711] }) :: (nat_lit 363, { cls := Value.type "function", data := Data.func { name := Str.ofString "check_granularity_string", qualname := Str.ofString "RateLimitItem.check_granularity_string", params := fa30, body := fb30, scope := fc30, globals := 3, closure := [], defaults := Value.none, kwdefaults := Value.none, pyModule := Value.str (Str.ofString "limits.limits") 494, annotations := some 366, code := Value.ref 362 } }) :: (nat_lit 364, { cls := Value.type "dict", data := Data.dict #[{ hash := PyData.keyHash P (Str.ofString "__module__"), key := Value.str (Str.ofString "__module__") 713, val := Value.str (Str.ofString "limits.limits") 494 }, { hash := PyData.keyHash P (Str.ofString "__name__"), key := Value.str (Str.ofString "__name__") 716, val := Value.str (Str.ofString "check_granularity_string") 715 }, { hash := PyData.keyHash P (Str.ofString "__qualname__"), key := Value.str (Str.ofString "__qualname__") 719, val := Value.str (Str.ofString "RateLimitItem.check_granularity_string") 718 }, { hash := PyData.keyHash P (Str.ofString "__doc__"), key := Value.str (Str.ofString "__doc__") 721, val := Value.none }, { hash := PyData.keyHash P (Str.ofString "__annotations__"), key := Value.str (Str.ofString "__annotations__") 723, val := Value.ref 366 }] 5 }) :: (nat_lit 365, { cls := Value.type "classmethod", dict := some 364, data := Data.fields #[Value.ref 363, Value.bool false] }) :: (nat_lit 366, { cls := Value.type "dict", data := Data.dict #[] }) :: (nat_lit 367, { cls := Value.type "tuple", data := Data.seq #[] }) :: (nat_lit 369, { cls := Value.type "tuple", data := Data.seq #[Value.str (Str.ofString "self") 728] }) :: (nat_lit 370, { cls := Value.type "tuple", data := Data.seq #[] }) :: (nat_lit 372, { cls := Value.type "code", data := Data.fields #[Value.str (Str.ofString "get_expiry") 725, Value.str (Str.ofString "RateLimitItem.get_expiry") 726, Value.str (Str.ofString "/claim/cut.py") 727, Value.int 226 0, Value.int 1 0, Value.int 0 0, Value.int 0 0, Value.int 3 0, Value.ref 367, Value.bool true, Value.int 181 0, Value.ref 368, Value.none, Value.ref 369, Value.ref 370, Value.ref 371, Value.int 729 0, Value.int 226 0, Value.str (Str.ofString "/claim/cut.py") 730] }) :: (nat_lit 373, { cls := Value.type "function", data := Data.func { name := Str.ofString "get_expiry", qualname := Str.ofString "RateLimitItem.get_expiry", params := fa31, body := fb31, scope := fc31, globals := 3, closure := [], defaults := Value.none, kwdefaults := Value.none, doc := Value.str fd16 731, pyModule := Value.str (Str.ofString "limits.limits") 494, code := Value.ref 372 } }) :: (nat_lit 374, { cls := Value.type "tuple", data := Data.seq #[] }) :: (nat_lit 375, { cls := Value.type "tuple", data := Data.seq #[Value.ref 374] }) :: (nat_lit 376, { cls := Value.type "tuple", data := Data.seq #[] }) :: (nat_lit 379, { cls := Value.type "code", data := Data.fields #[Value.str (Str.ofString "key_for") 733, Value.str (Str.ofString "RateLimitItem.key_for") 734, Value.str (Str.ofString "/claim/cut.py") 735, Value.int 232 0, Value.int 2 0, Value.int 0 0, Value.int 0 0, Value.int 3 0, Value.ref 376, Value.bool true, Value.int 181 0, Value.ref 377, Value.none, Value.none, Value.none, Value.ref 378, Value.int 736 0, Value.int 232 0, Value.str (Str.ofString "/claim/cut.py") 737] }) :: (nat_lit 380, { cls := Value.type "function", data := Data.func { name := Str.ofString "key_for", qualname := Str.ofString "RateLimitItem.key_for", params := fa32, body := fb32, scope := fc32, globals := 3, closure := [], defaults := Value.ref 375, kwdefaults := Value.none, doc := Value.str fd17 738, pyModule := Value.str (Str.ofString "limits.limits") 494, code := Value.ref 379 } }) :: (nat_lit 381, { cls := Value.type "tuple", data := Data.seq #[] }) :: (nat_lit 383, { cls := Value.type "tuple", data := Data.seq #[Value.str (Str.ofString "self") 743, Value.str (Str.ofString "other") 744] }) :: (nat_lit 384, { cls := Value.type "tuple", data := Data.seq #[] }) :: (nat_lit 386, { cls := Value.type "code", data := Data.fields #[Value.str (Str.ofString "__eq__") 740, Value.str (Str.ofString "RateLimitItem.__eq__") 741, Value.str (Str.ofString "/claim/cut.py") 742, Value.int 244 0, Value.int 2 0, Value.int 0 0, Value.int 0 0, Value.int 3 0, Value.ref 381, Value.bool true, Value.int 181 0, Value.ref 382, Value.none, Value.ref 383, Value.ref 384, Value.ref 385, Value.int 745 0, Value.int 244 0, Value.str (Str.ofString "/claim/cut.py") 746] }) :: (nat_lit 387, { cls := Value.type "function", data := Data.func { name := Str.ofString "__eq__", qualname := Str.ofString "RateLimitItem.__eq__", params := fa33, body := fb33, scope := fc33, globals := 3, closure := [], defaults := Value.none, kwdefaults := Value.none, pyModule := Value.str (Str.ofString "limits.limits") 494, code := Value.ref 386 } }) :: (nat_lit 388, { cls := Value.type "tuple", data := Data.seq #[] }) :: (nat_lit 390, { cls := Value.type "tuple", data := Data.seq #[Value.str (Str.ofString "self") 751] }) :: (nat_lit 391, { cls := Value.type "tuple", data := Data.seq #[] }) :: (nat_lit 393, { cls := Value.type "code", data := Data.fields #[Value.str (Str.ofString "__repr__") 748, Value.str (Str.ofString "RateLimitItem.__repr__") 749, Value.str (Str.ofString "/claim/cut.py") 750, Value.int 249 0, Value.int 1 0, Value.int 0 0, Value.int 0 0, Value.int 3 0, Value.ref 388, Value.bool true, Value.int 181 0, Value.ref 389, Value.none, Value.ref 390, Value.ref 391, Value.ref 392, Value.int 752 0, Value.int 249 0, Value.str (Str.ofString "/claim/cut.py") 753] }) :: (nat_lit 394, { cls := Value.type "function", data := Data.func { name := Str.ofString "__repr__", qualname := Str.ofString "RateLimitItem.__repr__", params := fa34, body := fb34, scope := fc34, globals := 3, closure := [], defaults := Value.none, kwdefaults := Value.none, pyModule := Value.str (Str.ofString "limits.limits") 494, code := Value.ref 393 } }) :: (nat_lit 395, { cls := Value.type "tuple", data := Data.seq #[] }) :: (nat_lit 397, { cls := Value.type "tuple", data := Data.seq #[Value.str (Str.ofString "self") 758, Value.str (Str.ofString "other") 759] }) :: (nat_lit 398, { cls := Value.type "tuple", data := Data.seq #[] }) :: (nat_lit 400, { cls := Value.type "code", data := Data.fields #[Value.str (Str.ofString "__lt__") 755, Value.str (Str.ofString "RateLimitItem.__lt__") 756, Value.str (Str.ofString "/claim/cut.py") 757, Value.int 252 0, Value.int 2 0, Value.int 0 0, Value.int 0 0, Value.int 3 0, Value.ref 395, Value.bool true, Value.int 181 0, Value.ref 396, Value.none, Value.ref 397, Value.ref 398, Value.ref 399, Value.int 760 0, Value.int 252 0, Value.str (Str.ofString "/claim/cut.py") 761] }) :: (nat_lit 401, { cls := Value.type "function", data := Data.func { name := Str.ofString "__lt__", qualname := Str.ofString "RateLimitItem.__lt__", params := fa35, body := fb35, scope := fc35, globals := 3, closure := [], defaults := Value.none, kwdefaults := Value.none, pyModule := Value.str (Str.ofString "limits.limits") 494, code := Value.ref 400 } }) :: (nat_lit 402, { cls := Value.type "tuple", data := Data.seq #[Value.str (Str.ofString "amount") 763, Value.str (Str.ofString "multiples") 764, Value.str (Str.ofString "namespace") 765] }) :: (nat_lit 403, { cls := Value.type "dict", data := Data.dict #[{ hash := PyData.keyHash P (Str.ofString "__module__"), key := Value.str (Str.ofString "__module__") 684, val := Value.str (Str.ofString "limits.limits") 494 }, { hash := PyData.keyHash P (Str.ofString "__firstlineno__"), key := Value.str (Str.ofString "__firstlineno__") 688, val := Value.int 205 687 }, { hash := PyData.keyHash P (Str.ofString "__doc__"), key := Value.str (Str.ofString "__doc__") 690, val := Value.str fd18 689 }, { hash := PyData.keyHash P (Str.ofString "__init__"), key := Value.str (Str.ofString "__init__") 704, val := Value.ref 356 }, { hash := PyData.keyHash P (Str.ofString "check_granularity_string"), key := Value.str (Str.ofString "check_granularity_string") 724, val := Value.ref 365 }, { hash := PyData.keyHash P (Str.ofString "get_expiry"), key := Value.str (Str.ofString "get_expiry") 732, val := Value.ref 373 }, { hash := PyData.keyHash P (Str.ofString "key_for"), key := Value.str (Str.ofString "key_for") 739, val := Value.ref 380 }, { hash := PyData.keyHash P (Str.ofString "__eq__"), key := Value.str (Str.ofString "__eq__") 747, val := Value.ref 387 }, { hash := PyData.keyHash P (Str.ofString "__repr__"), key := Value.str (Str.ofString "__repr__") 754, val := Value.ref 394 }, { hash := PyData.keyHash P (Str.ofString "__lt__"), key := Value.str (Str.ofString "__lt__") 762, val := Value.ref 401 }, { hash := PyData.keyHash P (Str.ofString "__static_attributes__"), key := Value.str (Str.ofString "__static_attributes__") 766, val := Value.ref 402 }, { hash := PyData.keyHash P (Str.ofString "__dict__"), key := Value.str (Str.ofString "__dict__") 768, val := Value.ref 405 }, { hash := PyData.keyHash P (Str.ofString "__weakref__"), key := Value.str (Str.ofString "__weakref__") 770, val := Value.ref 406 }, { hash := PyData.keyHash P (Str.ofString "__hash__"), key := Value.str (Str.ofString "__hash__") 771, val := Value.none }] 4 }) :: (nat_lit 404, { cls := Value.type "type", data := Data.cls { name := Str.ofString "RateLimitItem", bases := [Value.type "object"], mro := [Value.ref 404, Value.type "object"], ns := 403, qualname := Str.ofString "RateLimitItem", subclasses := [Value.ref 423] }, slots := #[none, none, some (Value.str (Str.ofString "RateLimitItem") 677), some (Value.str (Str.ofString "RateLimitItem") 685), some (Value.builtin "object.__new__"), some (Value.bool true)] }) :: (nat_lit 405, { cls := Value.type "getset_descriptor", data := Data.fields #[Value.str (Str.ofString "__dict__") 767, Value.ref 404, Value.builtin "function.__dict__", Value.builtin "function.__dict__#set"] }) :: (nat_lit 406, { cls := Value.type "getset_descriptor", data := Data.fields #[Value.str (Str.ofString "__weakref__") 769, Value.ref 404, Value.builtin "ExceptionGroup.__weakref__", Value.none] }) :: (nat_lit 409, { cls := Value.type "tuple", data := Data.seq #[Value.ref 404] }) :: (nat_lit 419, { cls := Value.type "dict", data := Data.dict #[] }) :: (nat_lit 420, { cls := Value.ref 338, dict := some 419, data := Data.seq #[Value.int 1 789, Value.str (Str.ofString "second") 790] }) :: (nat_lit 421, { cls := Value.type "tuple", data := Data.seq #[] }) :: (nat_lit 422, { cls := Value.type "dict", data := Data.dict #[{ hash := PyData.keyHash P (Str.ofString "__module__"), key := Value.str (Str.ofString "__module__") 781, val := Value.str (Str.ofString "limits.limits") 494 }, { hash := PyData.keyHash P (Str.ofString "__firstlineno__"), key := Value.str (Str.ofString "__firstlineno__") 785, val := Value.int 254 784 }, { hash := PyData.keyHash P (Str.ofString "__doc__"), key := Value.str (Str.ofString "__doc__") 787, val := Value.str fd19 786 }, { hash := PyData.keyHash P (Str.ofString "GRANULARITY"), key := Value.str (Str.ofString "GRANULARITY") 797, val := Value.ref 420 }, { hash := PyData.keyHash P (Str.ofString "__static_attributes__"), key := Value.str (Str.ofString "__static_attributes__") 799, val := Value.ref 421 }] 1 }) :: (nat_lit 423, { cls := Value.type "type", data := Data.cls { name := Str.ofString "RateLimitItemPerSecond", bases := [Value.ref 404], mro := [Value.ref 423, Value.ref 404, Value.type "object"], ns := 422, qualname := Str.ofString "RateLimitItemPerSecond" }, slots := #[some (Value.ref 409), none, some (Value.str (Str.ofString "RateLimitItemPerSecond") 774), some (Value.str (Str.ofString "RateLimitItemPerSecond") 782), some (Value.builtin "object.__new__"), some (Value.bool true)] }) :: (nat_lit 433, { cls := Value.type "tuple", data := Data.seq #[] }) :: (nat_lit 435, { cls := Value.type "tuple", data := Data.seq #[Value.str (Str.ofString "cls") 822, Value.str (Str.ofString "key") 823, Value.str (Str.ofString "expiry") 824, Value.str (Str.ofString "at") 825, Value.str (Str.ofString "previous") 826] }) :: (nat_lit 436, { cls := Value.type "tuple", data := Data.seq #[] }) :: (nat_lit 438, { cls := Value.type "code", data := Data.fields #[Value.str (Str.ofString "sliding_window_keys") 819, Value.str (Str.ofString "TimestampedSlidingWindow.sliding_window_keys") 820, Value.str (Str.ofString "/claim/cut.py") 821, Value.int 264 0, Value.int 4 0, Value.int 0 0, Value.int 0 0, Value.int 3 0, Value.ref 433, Value.bool true, Value.int 181 0, Value.ref 434, Value.none, Value.ref 435, Value.ref 436, Value.ref 437, Value.int 827 0, Value.int 264 0, Value.str (Str.ofString "/claim/cut.py") 828] }) :: (nat_lit 439, { cls := Value.type "function", data := Data.func { name := Str.ofString "sliding_window_keys", qualname := Str.ofString "TimestampedSlidingWindow.sliding_window_keys", params := fa36, body := fb36, scope := fc36, globals := 3, closure := [], defaults := Value.none, kwdefaults := Value.none, doc := Value.str fd20 829, pyModule := Value.str (Str.ofString "limits.storage.base") 802, annotations := some 442, code := Value.ref 438 } }) :: (nat_lit 440, { cls := Value.type "dict", data := Data.dict #[{ hash := PyData.keyHash P (Str.ofString "__module__"), key := Value.str (Str.ofString "__module__") 831, val := Value.str (Str.ofString "limits.storage.base") 802 }, { hash := PyData.keyHash P (Str.ofString "__name__"), key := Value.str (Str.ofString "__name__") 834, val := Value.str (Str.ofString "sliding_window_keys") 833 }, { hash := PyData.keyHash P (Str.ofString "__qualname__"), key := Value.str (Str.ofString "__qualname__") 837, val := Value.str (Str.ofString "TimestampedSlidingWindow.sliding_window_keys") 836 }, { hash := PyData.keyHash P (Str.ofString "__doc__"), key := Value.str (Str.ofString "__doc__") 839, val := Value.str fd20 829 }, { hash := PyData.keyHash P (Str.ofString "__annotations__"), key := Value.str (Str.ofString "__annotations__") 841, val := Value.ref 442 }] 5 }) :: (nat_lit 441, { cls := Value.type "classmethod", dict := some 440, data := Data.fields #[Value.ref 439, Value.bool false] }) :: (nat_lit 442, { cls := Value.type "dict", data := Data.dict #[] }) :: (nat_lit 443, { cls := Value.type "tuple", data := Data.seq #[] }) :: (nat_lit 444, { cls := Value.type "dict", data := Data.dict #[{ hash := PyData.keyHash P (Str.ofString "__module__"), key := Value.str (Str.ofString "__module__") 811, val := Value.str (Str.ofString "limits.storage.base") 802 }, { hash := PyData.keyHash P (Str.ofString "__firstlineno__"), key := Value.str (Str.ofString "__firstlineno__") 815, val := Value.int 261 814 }, { hash := PyData.keyHash P (Str.ofString "__doc__"), key := Value.str (Str.ofString "__doc__") 817, val := Value.str fd21 816 }, { hash := PyData.keyHash P (Str.ofString "sliding_window_keys"), key := Value.str (Str.ofString "sliding_window_keys") 842, val := Value.ref 441 }, { hash := PyData.keyHash P (Str.ofString "__static_attributes__"), key := Value.str (Str.ofString "__static_attributes__") 843, val := Value.ref 443 }, { hash := PyData.keyHash P (Str.ofString "__dict__"), key := Value.str (Str.ofString "__dict__") 845, val := Value.ref 446 }, { hash := PyData.keyHash P (Str.ofString "__weakref__"), key := Value.str (Str.ofString "__weakref__") 847, val := Value.ref 447 }] 3 }) :: (nat_lit 445, { cls := Value.type "type", data := Data.cls { name := Str.ofString "TimestampedSlidingWindow", bases := [Value.type "object"], mro := [Value.ref 445, Value.type "object"], ns := 444, qualname := Str.ofString "TimestampedSlidingWindow", subclasses := [Value.ref 568] }, slots := #[none, none, some (Value.str (Str.ofString "TimestampedSlidingWindow") 804), some (Value.str (Str.ofString "TimestampedSlidingWindow") 812), some (Value.builtin "object.__new__"), some (Value.bool true)] }) :: (nat_lit 446, { cls := Value.type "getset_descriptor", data := Data.fields #[Value.str (Str.ofString "__dict__") 844, Value.ref 445, Value.builtin "function.__dict__", Value.builtin "function.__dict__#set"] }) :: (nat_lit 447, { cls := Value.type "getset_descriptor", data := Data.fields #[Value.str (Str.ofString "__weakref__") 846, Value.ref 445, Value.builtin "ExceptionGroup.__weakref__", Value.none] }) :: (nat_lit 450, { cls := Value.type "tuple", data := Data.seq #[Value.ref 445] }) :: (nat_lit 457, { cls := Value.type "tuple", data := Data.seq #[] }) :: (nat_lit 459, { cls := Value.type "tuple", data := Data.seq #[Value.str (Str.ofString "self") 870, Value.str (Str.ofString "clock") 871] }) :: (nat_lit 460, { cls := Value.type "tuple", data := Data.seq #[] }) :: (nat_lit 462, { cls := Value.type "code", data := Data.fields #[Value.str (Str.ofString "__init__") 867, Value.str (Str.ofString "MemoryStorage.__init__") 868, Value.str (Str.ofString "/claim/cut.py") 869, Value.int 296 0, Value.int 2 0, Value.int 0 0, Value.int 0 0, Value.int 3 0, Value.ref 457, Value.bool true, Value.int 181 0, Value.ref 458, Value.none, Value.ref 459, Value.ref 460, Value.ref 461, Value.int 872 0, Value.int 296 0, Value.str (Str.ofString "/claim/cut.py") 873] }) :: (nat_lit 463, { cls := Value.type "function", data := Data.func { name := Str.ofString "__init__", qualname := Str.ofString "MemoryStorage.__init__", params := fa37, body := fb37, scope := fc37, globals := 3, closure := [], defaults := Value.none, kwdefaults := Value.none, pyModule := Value.str (Str.ofString "limits.storage.memory") 850, code := Value.ref 462 } }) :: (nat_lit 464, { cls := Value.type "tuple", data := Data.seq #[] }) :: (nat_lit 466, { cls := Value.type "tuple", data := Data.seq #[Value.str (Str.ofString "self") 878] }) :: (nat_lit 467, { cls := Value.type "tuple", data := Data.seq #[] }) :: (nat_lit 469, { cls := Value.type "code", data := Data.fields #[Value.str (Str.ofString "expire_events") 875, Value.str (Str.ofString "MemoryStorage.expire_events") 876, Value.str (Str.ofString "/claim/cut.py") 877, Value.int 302 0, Value.int 1 0, Value.int 0 0, Value.int 0 0, Value.int 3 0, Value.ref 464, Value.bool true, Value.int 181 0, Value.ref 465, Value.none, Value.ref 466, Value.ref 467, Value.ref 468, Value.int 879 0, Value.int 302 0, Value.str (Str.ofString "/claim/cut.py") 880] }) :: (nat_lit 470, { cls := Value.type "function", data := Data.func { name := Str.ofString "expire_events", qualname := Str.ofString "MemoryStorage.expire_events", params := fa38, body := fb38, scope := fc38, globals := 3, closure := [], defaults := Value.none, kwdefaults := Value.none, pyModule := Value.str (Str.ofString "limits.storage.memory") 850, code := Value.ref 469 } }) :: (nat_lit 471, { cls := Value.type "tuple", data := Data.seq #[Value.int 1 882] }) :: (nat_lit 472, { cls := Value.type "tuple", data := Data.seq #[] }) :: (nat_lit 474, { cls := Value.type "tuple", data := Data.seq #[Value.str (Str.ofString "self") 886, Value.str (Str.ofString "key") 887, Value.str (Str.ofString "expiry") 888, Value.str (Str.ofString "amount") 889] }) :: (nat_lit 475, { cls := Value.type "tuple", data := Data.seq #[] }) :: (nat_lit 477, { cls := Value.type "code", data := Data.fields #[Value.str (Str.ofString "incr") 883, Value.str (Str.ofString "MemoryStorage.incr") 884, Value.str (Str.ofString "/claim/cut.py") 885, Value.int 305 0, Value.int 4 0, Value.int 0 0, Value.int 0 0, Value.int 3 0, Value.ref 472, Value.bool true, Value.int 181 0, Value.ref 473, Value.none, Value.ref 474, Value.ref 475, Value.ref 476, Value.int 890 0, Value.int 305 0, Value.str (Str.ofString "/claim/cut.py") 891] }) :: (nat_lit 478, { cls := Value.type "function", data := Data.func { name := Str.ofString "incr", qualname := Str.ofString "MemoryStorage.incr", params := fa39, body := fb39, scope := fc39, globals := 3, closure := [], defaults := Value.ref 471, kwdefaults := Value.none, doc := Value.str fd22 892, pyModule := Value.str (Str.ofString "limits.storage.memory") 850, code := Value.ref 477 } }) :: (nat_lit 479, { cls := Value.type "tuple", data := Data.seq #[Value.int 1 894] }) :: (nat_lit 480, { cls := Value.type "tuple", data := Data.seq #[] }) :: (nat_lit 482, { cls := Value.type "tuple", data := Data.seq #[Value.str (Str.ofString "self") 898, Value.str (Str.ofString "key") 899, Value.str (Str.ofString "amount") 900] }) :: (nat_lit 483, { cls := Value.type "tuple", data := Data.seq #[] }) :: (nat_lit 485, { cls := Value.type "code", data := Data.fields #[Value.str (Str.ofString "decr") 895, Value.str (Str.ofString "MemoryStorage.decr") 896, Value.str (Str.ofString "/claim/cut.py") 897, Value.int 319 0, Value.int 3 0, Value.int 0 0, Value.int 0 0, Value.int 3 0, Value.ref 480, Value.bool true, Value.int 181 0, Value.ref 481, Value.none, Value.ref 482, Value.ref 483, Value.ref 484, Value.int 901 0, Value.int 319 0, Value.str (Str.ofString "/claim/cut.py") 902] }) :: (nat_lit 486, { cls := Value.type "function", data := Data.func { name := Str.ofString "decr", qualname := Str.ofString "MemoryStorage.decr", params := fa40, body := fb40, scope := fc40, globals := 3, closure := [], defaults := Value.ref 479, kwdefaults := Value.none, doc := Value.str fd23 903, pyModule := Value.str (Str.ofString "limits.storage.memory") 850, code := Value.ref 485 } }) :: (nat_lit 487, { cls := Value.type "tuple", data := Data.seq #[] }) :: (nat_lit 489, { cls := Value.type "tuple", data := Data.seq #[Value.str (Str.ofString "self") 908, Value.str (Str.ofString "key") 909] }) :: (nat_lit 490, { cls := Value.type "tuple", data := Data.seq #[] }) :: (nat_lit 492, { cls := Value.type "code", data := Data.fields #[Value.str (Str.ofString "get") 905, Value.str (Str.ofString "MemoryStorage.get") 906, Value.str (Str.ofString "/claim/cut.py") 907, Value.int 330 0, Value.int 2 0, Value.int 0 0, Value.int 0 0, Value.int 3 0, Value.ref 487, Value.bool true, Value.int 181 0, Value.ref 488, Value.none, Value.ref 489, Value.ref 490, Value.ref 491, Value.int 910 0, Value.int 330 0, Value.str (Str.ofString "/claim/cut.py") 911] }) :: (nat_lit 493, { cls := Value.type "function", data := Data.func { name := Str.ofString "get", qualname := Str.ofString "MemoryStorage.get", params := fa41, body := fb41, scope := fc41, globals := 3, closure := [], defaults := Value.none, kwdefaults := Value.none, doc := Value.str fd24 912, pyModule := Value.str (Str.ofString "limits.storage.memory") 850, code := Value.ref 492 } }) :: (nat_lit 494, { cls := Value.type "tuple", data := Data.seq #[] }) :: (nat_lit 496, { cls := Value.type "tuple", data := Data.seq #[Value.str (Str.ofString "self") 917, Value.str (Str.ofString "key") 918] }) :: (nat_lit 497, { cls := Value.type "tuple", data := Data.seq #[] }) :: (nat_lit 499, { cls := Value.type "code", data := Data.fields #[Value.str (Str.ofString "clear") 914, Value.str (Str.ofString "MemoryStorage.clear") 915, Value.str (Str.ofString "/claim/cut.py") 916, Value.int 339 0, Value.int 2 0, Value.int 0 0, Value.int 0 0, Value.int 3 0, Value.ref 494, Value.bool true, Value.int 181 0, Value.ref 495, Value.none, Value.ref 496, Value.ref 497, Value.ref 498, Value.int 919 0, Value.int 339 0, Value.str (Str.ofString "/claim/cut.py") 920] }) :: (nat_lit 500, { cls := Value.type "function", data := Data.func { name := Str.ofString "clear", qualname := Str.ofString "MemoryStorage.clear", params := fa42, body := fb42, scope := fc42, globals := 3, closure := [], defaults := Value.none, kwdefaults := Value.none, doc := Value.str fd25 921, pyModule := Value.str (Str.ofString "limits.storage.memory") 850, code := Value.ref 499 } }) :: (nat_lit 501, { cls := Value.type "tuple", data := Data.seq #[Value.int 1 923] }) :: (nat_lit 502, { cls := Value.type "tuple", data := Data.seq #[] }) :: (nat_lit 504, { cls := Value.type "tuple", data := Data.seq #[Value.str (Str.ofString "self") 927, Value.str (Str.ofString "key") 928, Value.str (Str.ofString "limit") 929, Value.str (Str.ofString "expiry") 930, Value.str (Str.ofString "amount") 931] }) :: (nat_lit 505, { cls := Value.type "tuple", data := Data.seq #[] }) :: (nat_lit 507, { cls := Value.type "code", data := Data.fields #[Value.str (Str.ofString "acquire_entry") 924, Value.str (Str.ofString "MemoryStorage.acquire_entry") 925, Value.str (Str.ofString "/claim/cut.py") 926, Value.int 347 0, Value.int 5 0, Value.int 0 0, Value.int 0 0, Value.int 3 0, Value.ref 502, Value.bool true, Value.int 181 0, Value.ref 503, Value.none, Value.ref 504, Value.ref 505, Value.ref 506, Value.int 932 0, Value.int 347 0, Value.str (Str.ofString "/claim/cut.py") 933] }) :: (nat_lit 508, { cls := Value.type "function", data := Data.func { name := Str.ofString "acquire_entry", qualname := Str.ofString "MemoryStorage.acquire_entry", params := fa43, body := fb43, scope := fc43, globals := 3, closure := [], defaults := Value.ref 501, kwdefaults := Value.none, pyModule := Value.str (Str.ofString "limits.storage.memory") 850, code := Value.ref 507 } }) :: (nat_lit 509, { cls := Value.type "tuple", data := Data.seq #[] }) :: (nat_lit 511, { cls := Value.type "tuple", data := Data.seq #[Value.str (Str.ofString "self") 938, Value.str (Str.ofString "key") 939] }) :: (nat_lit 512, { cls := Value.type "tuple", data := Data.seq #[] }) :: (nat_lit 514, { cls := Value.type "code", data := Data.fields #[Value.str (Str.ofString "get_expiry") 935, Value.str (Str.ofString "MemoryStorage.get_expiry") 936, Value.str (Str.ofString "/claim/cut.py") 937, Value.int 350 0, Value.int 2 0, Value.int 0 0, Value.int 0 0, Value.int 3 0, Value.ref 509, Value.bool true, Value.int 181 0, Value.ref 510, Value.none, Value.ref 511, Value.ref 512, Value.ref 513, Value.int 940 0, Value.int 350 0, Value.str (Str.ofString "/claim/cut.py") 941] }) :: (nat_lit 515, { cls := Value.type "function", data := Data.func { name := Str.ofString "get_expiry", qualname := Str.ofString "MemoryStorage.get_expiry", params := fa44, body := fb44, scope := fc44, globals := 3, closure := [], defaults := Value.none, kwdefaults := Value.none, doc := Value.str fd26 942, pyModule := Value.str (Str.ofString "limits.storage.memory") 850, code := Value.ref 514 } }) :: (nat_lit 516, { cls := Value.type "tuple", data := Data.seq #[] }) :: (nat_lit 518, { cls := Value.type "tuple", data := Data.seq #[Value.str (Str.ofString "self") 947, Value.str (Str.ofString "key") 948, Value.str (Str.ofString "limit") 949, Value.str (Str.ofString "expiry") 950] }) :: (nat_lit 519, { cls := Value.type "tuple", data := Data.seq #[] }) :: (nat_lit 521, { cls := Value.type "code", data := Data.fields #[Value.str (Str.ofString "get_moving_window") 944, Value.str (Str.ofString "MemoryStorage.get_moving_window") 945, Value.str (Str.ofString "/claim/cut.py") 946, Value.int 356 0, Value.int 4 0, Value.int 0 0, Value.int 0 0, Value.int 3 0, Value.ref 516, Value.bool true, Value.int 181 0, Value.ref 517, Value.none, Value.ref 518, Value.ref 519, Value.ref 520, Value.int 951 0, Value.int 356 0, Value.str (Str.ofString "/claim/cut.py") 952] }) :: (nat_lit 522, { cls := Value.type "function", data := Data.func { name := Str.ofString "get_moving_window", qualname := Str.ofString "MemoryStorage.get_moving_window", params := fa45, body := fb45, scope := fc45, globals := 3, closure := [], defaults := Value.none, kwdefaults := Value.none, pyModule := Value.str (Str.ofString "limits.storage.memory") 850, code := Value.ref 521 } }) :: (nat_lit 523, { cls := Value.type "tuple", data := Data.seq #[Value.int 1 954] }) :: (nat_lit 524, { cls := Value.type "tuple", data := Data.seq #[] }) :: (nat_lit 526, { cls := Value.type "tuple", data := Data.seq #[Value.str (Str.ofString "self") 958, Value.str (Str.ofString "key") 959, Value.str (Str.ofString "limit") 960, Value.str (Str.ofString "expiry") 961, Value.str (Str.ofString "amount") 962, Value.str (Str.ofString "now") 963, Value.str (Str.ofString "previous_key") 964, Value.str (Str.ofString "current_key") 965, Value.str (Str.ofString "previous_count") 966, Value.str (Str.ofString "previous_ttl") 967, Value.str (Str.ofString "current_count") 968, Value.str (Str.ofString "_") 969, Value.str (Str.ofString "weighted_count") 970] }) :: (nat_lit 527, { cls := Value.type "tuple", data := Data.seq #[] }) :: (nat_lit 529, { cls := Value.type "code", data := Data.fields #[Value.str (Str.ofString "acquire_sliding_window_entry") 955, Value.str (Str.ofString "MemoryStorage.acquire_sliding_window_entry") 956, Value.str (Str.ofString "/claim/cut.py") 957, Value.int 359 0, Value.int 5 0, Value.int 0 0, Value.int 0 0, Value.int 3 0, Value.ref 524, Value.bool true, Value.int 181 0, Value.ref 525, Value.none, Value.ref 526, Value.ref 527, Value.ref 528, Value.int 971 0, Value.int 359 0, Value.str (Str.ofString "/claim/cut.py") 972] }) :: (nat_lit 530, { cls := Value.type "function", data := Data.func { name := Str.ofString "acquire_sliding_window_entry", qualname := Str.ofString "MemoryStorage.acquire_sliding_window_entry", params := fa46, body := fb46, scope := fc46, globals := 3, closure := [], defaults := Value.ref 523, kwdefaults := Value.none, pyModule := Value.str (Str.ofString "limits.storage.memory") 850, code := Value.ref 529 } }) :: (nat_lit 531, { cls := Value.type "tuple", data := Data.seq #[] }) :: (nat_lit 533, { cls := Value.type "tuple", data := Data.seq #[Value.str (Str.ofString "self") 977, Value.str (Str.ofString "previous_key") 978, Value.str (Str.ofString "current_key") 979, Value.str (Str.ofString "expiry") 980, Value.str (Str.ofString "now") 981, Value.str (Str.ofString "previous_count") 982, Value.str (Str.ofString "current_count") 983, Value.str (Str.ofString "previous_ttl") 984, Value.str (Str.ofString "current_ttl") 985] }) :: (nat_lit 534, { cls := Value.type "tuple", data := Data.seq #[] }) :: (nat_lit 536, { cls := Value.type "code", data := Data.fields #[Value.str (Str.ofString "_get_sliding_window_info") 974, Value.str (Str.ofString "MemoryStorage._get_sliding_window_info") 975, Value.str (Str.ofString "/claim/cut.py") 976, Value.int 376 0, Value.int 5 0, Value.int 0 0, Value.int 0 0, Value.int 3 0, Value.ref 531, Value.bool true, Value.int 181 0, Value.ref 532, Value.none, Value.ref 533, Value.ref 534, Value.ref 535, Value.int 986 0, Value.int 376 0, Value.str (Str.ofString "/claim/cut.py") 987] }) :: (nat_lit 537, { cls := Value.type "function", data := Data.func { name := Str.ofString "_get_sliding_window_info", qualname := Str.ofString "MemoryStorage._get_sliding_window_info", params := fa47, body := fb47, scope := fc47, globals := 3, closure := [], defaults := Value.none, kwdefaults := Value.none, pyModule := Value.str (Str.ofString "limits.storage.memory") 850, code := Value.ref 536 } }) :: (nat_lit 538, { cls := Value.type "tuple", data := Data.seq #[] }) :: (nat_lit 540, { cls := Value.type "tuple", data := Data.seq #[Value.str (Str.ofString "self") 992, Value.str (Str.ofString "key") 993, Value.str (Str.ofString "expiry") 994, Value.str (Str.ofString "now") 995, Value.str (Str.ofString "previous_key") 996, Value.str (Str.ofString "current_key") 997] }) :: (nat_lit 541, { cls := Value.type "tuple", data := Data.seq #[] }) :: (nat_lit 543, { cls := Value.type "code", data := Data.fields #[Value.str (Str.ofString "get_sliding_window") 989, Value.str (Str.ofString "MemoryStorage.get_sliding_window") 990, Value.str (Str.ofString "/claim/cut.py") 991, Value.int 386 0, Value.int 3 0, Value.int 0 0, Value.int 0 0, Value.int 3 0, Value.ref 538, Value.bool true, Value.int 181 0, Value.ref 539, Value.none, Value.ref 540, Value.ref 541, Value.ref 542, Value.int 998 0, Value.int 386 0, Value.str (Str.ofString "/claim/cut.py") 999] }) :: (nat_lit 544, { cls := Value.type "function", data := Data.func { name := Str.ofString "get_sliding_window", qualname := Str.ofString "MemoryStorage.get_sliding_window", params := fa48, body := fb48, scope := fc48, globals := 3, closure := [], defaults := Value.none, kwdefaults := Value.none, pyModule := Value.str (Str.ofString "limits.storage.memory") 850, code := Value.ref 543 } }) :: (nat_lit 545, { cls := Value.type "tuple", data := Data.seq #[] }) :: (nat_lit 547, { cls := Value.type "tuple", data := Data.seq #[Value.str (Str.ofString "self") 1004, Value.str (Str.ofString "key") 1005, Value.str (Str.ofString "expiry") 1006, Value.str (Str.ofString "now") 1007, Value.str (Str.ofString "previous_key") 1008, Value.str (Str.ofString "current_key") 1009] }) :: (nat_lit 548, { cls := Value.type "tuple", data := Data.seq #[] }) :: (nat_lit 550, { cls := Value.type "code", data := Data.fields #[Value.str (Str.ofString "clear_sliding_window") 1001, Value.str (Str.ofString "MemoryStorage.clear_sliding_window") 1002, Value.str (Str.ofString "/claim/cut.py") 1003, Value.int 391 0, Value.int 3 0, Value.int 0 0, Value.int 0 0, Value.int 3 0, Value.ref 545, Value.bool true, Value.int 181 0, Value.ref 546, Value.none, Value.ref 547, Value.ref 548, Value.ref 549, Value.int 1010 0, Value.int 391 0, Value.str (Str.ofString "/claim/cut.py") 1011] }) :: (nat_lit 551, { cls := Value.type "function", data := Data.func { name := Str.ofString "clear_sliding_window", qualname := Str.ofString "MemoryStorage.clear_sliding_window", params := fa49, body := fb49, scope := fc49, globals := 3, closure := [], defaults := Value.none, kwdefaults := Value.none, pyModule := Value.str (Str.ofString "limits.storage.memory") 850, code := Value.ref 550 } }) :: (nat_lit 552, { cls := Value.type "tuple", data := Data.seq #[] }) :: (nat_lit 554, { cls := Value.type "tuple", data := Data.seq #[Value.str (Str.ofString "self") 1016] }) :: (nat_lit 555, { cls := Value.type "tuple", data := Data.seq #[] }) :: (nat_lit 557, { cls := Value.type "code", data := Data.fields #[Value.str (Str.ofString "check") 1013, Value.str (Str.ofString "MemoryStorage.check") 1014, Value.str (Str.ofString "/claim/cut.py") 1015, Value.int 397 0, Value.int 1 0, Value.int 0 0, Value.int 0 0, Value.int 3 0, Value.ref 552, Value.bool true, Value.int 181 0, Value.ref 553, Value.none, Value.ref 554, Value.ref 555, Value.ref 556, Value.int 1017 0, Value.int 397 0, Value.str (Str.ofString "/claim/cut.py") 1018] }) :: (nat_lit 558, { cls := Value.type "function", data := Data.func { name := Str.ofString "check", qualname := Str.ofString "MemoryStorage.check", params := fa50, body := fb50, scope := fc50, globals := 3, closure := [], defaults := Value.none, kwdefaults := Value.none, pyModule := Value.str (Str.ofString "limits.storage.memory") 850, code := Value.ref 557 } }) :: (nat_lit 559, { cls := Value.type "tuple", data := Data.seq #[] }) :: (nat_lit 561, { cls := Value.type "tuple", data := Data.seq #[Value.str (Str.ofString "self") 1023, Value.str (Str.ofString "num_items") 1024] }) :: (nat_lit 562, { cls := Value.type "tuple", data := Data.seq #[] }) :: (nat_lit 564, { cls := Value.type "code", data := Data.fields #[Value.str (Str.ofString "reset") 1020, Value.str (Str.ofString "MemoryStorage.reset") 1021, Value.str (Str.ofString "/claim/cut.py") 1022, Value.int 400 0, Value.int 1 0, Value.int 0 0, Value.int 0 0, Value.int 3 0, Value.ref 559, Value.bool true, Value.int 181 0, Value.ref 560, Value.none, Value.ref 561, Value.ref 562, Value.ref 563, Value.int 1025 0, Value.int 400 0, Value.str (Str.ofString "/claim/cut.py") 1026] }) :: (nat_lit 565, { cls := Value.type "function", data := Data.func { name := Str.ofString "reset", qualname := Str.ofString "MemoryStorage.reset", params := fa51, body := fb51, scope := fc51, globals := 3, closure := [], defaults := Value.none, kwdefaults := Value.none, pyModule := Value.str (Str.ofString "limits.storage.memory") 850, code := Value.ref 564 } }) :: (nat_lit 566, { cls := Value.type "tuple", data := Data.seq #[Value.str (Str.ofString "clock") 1028, Value.str (Str.ofString "events") 1029, Value.str (Str.ofString "expirations") 1030, Value.str (Str.ofString "storage") 1031] }) :: (nat_lit 567, { cls := Value.type "dict", data := Data.dict #[{ hash := PyData.keyHash P (Str.ofString "__module__"), key := Value.str (Str.ofString "__module__") 859, val := Value.str (Str.ofString "limits.storage.memory") 850 }, { hash := PyData.keyHash P (Str.ofString "__firstlineno__"), key := Value.str (Str.ofString "__firstlineno__") 863, val := Value.int 288 862 }, { hash := PyData.keyHash P (Str.ofString "__doc__"), key := Value.str (Str.ofString "__doc__") 865, val := Value.str fd27 864 }, { hash := PyData.keyHash P (Str.ofString "__init__"), key := Value.str (Str.ofString "__init__") 874, val := Value.ref 463 }, { hash := PyData.keyHash P (Str.ofString "expire_events"), key := Value.str (Str.ofString "expire_events") 881, val := Value.ref 470 }, { hash := PyData.keyHash P (Str.ofString "incr"), key := Value.str (Str.ofString "incr") 893, val := Value.ref 478 }, { hash := PyData.keyHash P (Str.ofString "decr"), key := Value.str (Str.ofString "decr") 904, val := Value.ref 486 }, { hash := PyData.keyHash P (Str.ofString "get"), key := Value.str (Str.ofString "get") 913, val := Value.ref 493 }, { hash := PyData.keyHash P (Str.ofString "clear"), key := Value.str (Str.ofString "clear") 922, val := Value.ref 500 }, { hash := PyData.keyHash P (Str.ofString "acquire_entry"), key := Value.str (Str.ofString "acquire_entry") 934, val := Value.ref 508 }, { hash := PyData.keyHash P (Str.ofString "get_expiry"), key := Value.str (Str.ofString "get_expiry") 943, val := Value.ref 515 }, { hash := PyData.keyHash P (Str.ofString "get_moving_window"), key := Value.str (Str.ofString "get_moving_window") 953, val := Value.ref 522 }, { hash := PyData.keyHash P (Str.ofString "acquire_sliding_window_entry"), key := Value.str (Str.ofString "acquire_sliding_window_entry") 973, val := Value.ref 530 }, { hash := PyData.keyHash P (Str.ofString "_get_sliding_window_info"), key := Value.str (Str.ofString "_get_sliding_window_info") 988, val := Value.ref 537 }, { hash := PyData.keyHash P (Str.ofString "get_sliding_window"), key := Value.str (Str.ofString "get_sliding_window") 1000, val := Value.ref 544 }, { hash := PyData.keyHash P (Str.ofString "clear_sliding_window"), key := Value.str (Str.ofString "clear_sliding_window") 1012, val := Value.ref 551 }, { hash := PyData.keyHash P (Str.ofString "check"), key := Value.str (Str.ofString "check") 1019, val := Value.ref 558 }, { hash := PyData.keyHash P (Str.ofString "reset"), key := Value.str (Str.ofString "reset") 1027, val := Value.ref 565 }, { hash := PyData.keyHash P (Str.ofString "__static_attributes__"), key := Value.str (Str.ofString "__static_attributes__") 1032, val := Value.ref 566 }] 1 }) :: (nat_lit 568, { cls := Value.type "type", data := Data.cls { name := Str.ofString "MemoryStorage", bases := [Value.ref 445], mro := [Value.ref 568, Value.ref 445, Value.type "object"], ns := 567, qualname := Str.ofString "MemoryStorage" }, slots := #[some (Value.ref 450), none, some (Value.str (Str.ofString "MemoryStorage") 852), some (Value.str (Str.ofString "MemoryStorage") 860), some (Value.builtin "object.__new__"), some (Value.bool true)] }) :: (nat_lit 571, { cls := Value.type "tuple", data := Data.seq #[] }) :: (nat_lit 573, { cls := Value.type "tuple", data := Data.seq #[Value.str (Str.ofString "script") 1040, Value.str (Str.ofString "head") 1041, Value.str (Str.ofString "length") 1042, Value.str (Str.ofString "most") 1043, Value.str (Str.ofString "limiter") 1044, Value.str (Str.ofString "item") 1045, Value.str (Str.ofString "names") 1046, Value.str (Str.ofString "log") 1047, Value.str (Str.ofString "number") 1048, Value.str (Str.ofString "cost") 1049, Value.str (Str.ofString "rows") 1050, Value.str (Str.ofString "wait") 1051, Value.str (Str.ofString "start") 1052, Value.str (Str.ofString "end") 1053, Value.str (Str.ofString "before") 1054, Value.str (Str.ofString "this") 1055, Value.str (Str.ofString "second") 1056, Value.str (Str.ofString "stats") 1057, Value.str (Str.ofString "moment") 1058, Value.str (Str.ofString "parts") 1059, Value.str (Str.ofString "left") 1060, Value.str (Str.ofString "weight") 1061, Value.str (Str.ofString "last") 1062, Value.str (Str.ofString "place") 1063, Value.str (Str.ofString "told") 1064, Value.str (Str.ofString "later") 1065, Value.str (Str.ofString "other") 1066, Value.str (Str.ofString "unused") 1067] }) :: (nat_lit 574, { cls := Value.type "tuple", data := Data.seq #[Value.str (Str.ofString "now") 1068] }) :: (nat_lit 576, { cls := Value.type "code", data := Data.fields #[Value.str (Str.ofString "law") 1037, Value.str (Str.ofString "law") 1038, Value.str (Str.ofString "/claim/cut.py") 1039, Value.int 407 0, Value.int 1 0, Value.int 0 0, Value.int 0 0, Value.int 3 0, Value.ref 571, Value.bool true, Value.int 181 0, Value.ref 572, Value.none, Value.ref 573, Value.ref 574, Value.ref 575, Value.int 1069 0, Value.int 407 0, Value.str (Str.ofString "/claim/cut.py") 1070] }) :: (nat_lit 577, { cls := Value.type "function", data := Data.func { name := Str.ofString "law", qualname := Str.ofString "law", params := fa52, body := fb52, scope := fc52, globals := 3, closure := [], defaults := Value.none, kwdefaults := Value.none, pyModule := Value.str (Str.ofString "law_ji0057_01") 1035, code := Value.ref 576 } }) :: [])
  _ _ _ (by conv => lhs; whnf) _ _ _ (by conv => lhs; whnf) _ _ _ (by conv => lhs; whnf) _ _ _ (by conv => lhs; whnf) _ _ _ (by conv => lhs; whnf) _ _ _ (by conv => lhs; whnf) _ _ _ (by conv => lhs; whnf) _ _ _ (by conv => lhs; whnf) _ _ _ (by conv => lhs; whnf) _ _ _ (by conv => lhs; whnf) _ _ _ (by conv => lhs; whnf) _ _ _ (by conv => lhs; whnf) _ _ _ (by conv => lhs; whnf) _ _ _ (by conv => lhs; whnf) _ _ _ (by conv => lhs; whnf) _ _ _ (by conv => lhs; whnf) _ _ _ (by conv => lhs; whnf) _ _ _ (by conv => lhs; whnf) _ _ _ (by conv => lhs; whnf) _ _ _ (by conv => lhs; whnf) _ _ _ (by conv => lhs; whnf) _ _ _ (by conv => lhs; whnf) _ _ _ (by conv => lhs; whnf) _ _ _ (by conv => lhs; whnf) _ _ _ (by conv => lhs; whnf) _ _ _ (by conv => lhs; whnf) _ _ _ (by conv => lhs; whnf) _ _ _ (by conv => lhs; whnf) _ _ _ (by conv => lhs; whnf) _ _ _ (by conv => lhs; whnf) _ _ _ (by conv => lhs; whnf) _ _ _ (by conv => lhs; whnf) _ _ _ (by conv => lhs; whnf) _ _ _ (by conv => lhs; whnf) _ _ _ (by conv => lhs; whnf) _ _ _ (by conv => lhs; whnf) _ _ _ (by conv => lhs; whnf) _ _ _ (by conv => lhs; whnf) _ _ _ (by conv => lhs; whnf) _ _ _ (by conv => lhs; whnf) _ _ _ (by conv => lhs; whnf) _ _ _ (by conv => lhs; whnf) _ _ _ (by conv => lhs; whnf) _ _ _ (by conv => lhs; whnf) _ _ _ (by conv => lhs; whnf) _ _ _ (by conv => lhs; whnf) _ _ _ (by conv => lhs; whnf) _ _ _ (by conv => lhs; whnf) _ _ _ (by conv => lhs; whnf) _ _ _ (by conv => lhs; whnf) _ _ _ (by conv => lhs; whnf) _ _ _ (by conv => lhs; whnf) _ _ _ (by conv => lhs; whnf) _ (by conv => lhs; whnf) _ (by conv => lhs; whnf) _ (by conv => lhs; whnf) _ (by conv => lhs; whnf) _ (by conv => lhs; whnf) _ (by conv => lhs; whnf) _ (by conv => lhs; whnf) _ (by conv => lhs; whnf) _ (by conv => lhs; whnf) _ (by conv => lhs; whnf) _ (by conv => lhs; whnf) _ (by conv => lhs; whnf) _ (by conv => lhs; whnf) _ (by conv => lhs; whnf) _ (by conv => lhs; whnf) _ (by conv => lhs; whnf) _ (by conv => lhs; whnf) _ (by conv => lhs; whnf) _ (by conv => lhs; whnf) _ (by conv => lhs; whnf) _ (by conv => lhs; whnf) _ (by conv => lhs; whnf) _ (by conv => lhs; whnf) _ (by conv => lhs; whnf) _ (by conv => lhs; whnf) _ (by conv => lhs; whnf) _ (by conv => lhs; whnf) _ (by conv => lhs; whnf)
noncomputable def hd.view_39 : Program := view hdP [0, 2, 3, 4, 6, 7, 9, 10, 11, 12, 13, 14, 16, 18, 20]
noncomputable abbrev hdL : List Str := [Str.ofString "_tuplegetter", Str.ofString "tuplegetter_util", Str.ofString "WindowStats", Str.ofString "RateLimiter", Str.ofString "SlidingWindowCounterRateLimiter", Str.ofString "tuplegetter_limits", Str.ofString "Granularity", Str.ofString "RateLimitItem", Str.ofString "RateLimitItemPerSecond", Str.ofString "TimestampedSlidingWindow", Str.ofString "MemoryStorage"]
noncomputable abbrev hdA : List Addr := (2 :: 3 :: 15 :: 17 :: 18 :: 20 :: 21 :: 29 :: 31 :: 32 :: 34 :: 35 :: 36 :: 37 :: 39 :: 40 :: 42 :: 43 :: 44 :: 46 :: 47 :: 49 :: 50 :: 51 :: 53 :: 54 :: 56 :: 57 :: 58 :: 59 :: 60 :: 61 :: 62 :: 65 :: 68 :: 73 :: 74 :: 75 :: 76 :: 78 :: 79 :: 81 :: 82 :: 83 :: 85 :: 86 :: 88 :: 89 :: 90 :: 91 :: 92 :: 93 :: 94 :: 96 :: 97 :: 99 :: 100 :: 101 :: 103 :: 104 :: 106 :: 107 :: 108 :: 110 :: 111 :: 113 :: 114 :: 115 :: 117 :: 118 :: 120 :: 121 :: 122 :: 123 :: 124 :: 126 :: 127 :: 129 :: 131 :: 132 :: 133 :: 143 :: 145 :: 146 :: 148 :: 149 :: 150 :: 151 :: 152 :: 154 :: 155 :: 157 :: 158 :: 159 :: 160 :: 161 :: 162 :: 163 :: 166 :: 173 :: 175 :: 176 :: 178 :: 179 :: 180 :: 181 :: 182 :: 184 :: 185 :: 187 :: 188 :: 189 :: 190 :: 191 :: 193 :: 194 :: 196 :: 197 :: 198 :: 199 :: 200 :: 202 :: 203 :: 205 :: 206 :: 207 :: 208 :: 209 :: 211 :: 212 :: 214 :: 215 :: 216 :: 217 :: 218 :: 228 :: 230 :: 231 :: 233 :: 234 :: 235 :: 236 :: 238 :: 239 :: 241 :: 242 :: 243 :: 245 :: 246 :: 248 :: 249 :: 250 :: 252 :: 253 :: 255 :: 256 :: 257 :: 258 :: 259 :: 260 :: 261 :: 264 :: 266 :: 267 :: 269 :: 270 :: 271 :: 274 :: 279 :: 280 :: 281 :: 282 :: 284 :: 285 :: 287 :: 288 :: 289 :: 291 :: 292 :: 294 :: 295 :: 296 :: 297 :: 298 :: 299 :: 300 :: 302 :: 303 :: 305 :: 306 :: 307 :: 309 :: 310 :: 312 :: 313 :: 314 :: 316 :: 317 :: 319 :: 320 :: 321 :: 323 :: 324 :: 326 :: 327 :: 328 :: 329 :: 330 :: 332 :: 333 :: 335 :: 337 :: 338 :: 339 :: 349 :: 350 :: 352 :: 353 :: 355 :: 356 :: 357 :: 359 :: 360 :: 362 :: 363 :: 364 :: 365 :: 366 :: 367 :: 369 :: 370 :: 372 :: 373 :: 374 :: 375 :: 376 :: 379 :: 380 :: 381 :: 383 :: 384 :: 386 :: 387 :: 388 :: 390 :: 391 :: 393 :: 394 :: 395 :: 397 :: 398 :: 400 :: 401 :: 402 :: 403 :: 404 :: 405 :: 406 :: 409 :: 419 :: 420 :: 421 :: 422 :: 423 :: 433 :: 435 :: 436 :: 438 :: 439 :: 440 :: 441 :: 442 :: 443 :: 444 :: 445 :: 446 :: 447 :: 450 :: 457 :: 459 :: 460 :: 462 :: 463 :: 464 :: 466 :: 467 :: 469 :: 470 :: 471 :: 472 :: 474 :: 475 :: 477 :: 478 :: 479 :: 480 :: 482 :: 483 :: 485 :: 486 :: 487 :: 489 :: 490 :: 492 :: 493 :: 494 :: 496 :: 497 :: 499 :: 500 :: 501 :: 502 :: 504 :: 505 :: 507 :: 508 :: 509 :: 511 :: 512 :: 514 :: 515 :: 516 :: 518 :: 519 :: 521 :: 522 :: 523 :: 524 :: 526 :: 527 :: 529 :: 530 :: 531 :: 533 :: 534 :: 536 :: 537 :: 538 :: 540 :: 541 :: 543 :: 544 :: 545 :: 547 :: 548 :: 550 :: 551 :: 552 :: 554 :: 555 :: 557 :: 558 :: 559 :: 561 :: 562 :: 564 :: 565 :: 566 :: 567 :: 568 :: 571 :: 573 :: 574 :: 576 :: 577 :: [])
theorem hdAe : ∀ P, hdA = (hd.heap_39 P).map (·.1) := fun _ => by kernel_rfl
noncomputable abbrev hdH : Hook := kmHook hd.heap_39 hdA hdAe [572]
noncomputable abbrev hdX : Shared → Bool := fun s => xlAt hd.view_39 [] s && recOk (RowW.records PySem.Challenge.rw_ji0057_01.row.toRowW) s
theorem hd_look (w : World) (os : OsState) : openSeen hd.view_39 hdL (importedModules hdP.main.body) hdX true (Shared.mk (hhF w.params) (Array.mk []) ({ }) 1072 os) = openGood hd.view_39 hdL := by
  refine looks_pair ?_ (looks_pair ?_ (looks_pair ?_ (looks_pair ?_ (looks_pair ?_ (looks_pair ?_ (looks_pair ?_ (looks_pair ?_ ?_))))))) <;> kernel_rfl
theorem hd_obs (w : World) (os : OsState) : Hook.obs hdH (Shared.mk (hhF w.params) (Array.mk []) ({ }) 1072 os) = Hook.val hdH w := by
  refine looks_pair ?_ ?_ <;> kernel_rfl
theorem hd_left : LeftO hdP hd.view_39 hdL hdX (Hook.obs hdH) (Hook.val hdH) 10800 true :=
  LeftO.of_pieces (boot_open (by kernel_rfl) (by kernel_rfl) (fun s => by kernel_rfl)) (m₀ := 11) (ann := some (Value.ref 6)) (by intro w; kernel_rfl) hd_run (by kernel_rfl) fun w => funext fun os => looks_pair (by kernel_rfl) (looks_pair (hd_look w os) (hd_obs w os))
@[reducible] noncomputable def hdS : PSigma fun T : Prop => T → PySem.Challenge.rw_ji0057_01.Holds := ⟨_, fun walk => by
  w_on
  refine holds_law (by kernel_rfl) fun said => ?_
  refine holds_open (q := hd.view_39) (loose := [Str.ofString "_tuplegetter", Str.ofString "tuplegetter_util", Str.ofString "WindowStats", Str.ofString "RateLimiter", Str.ofString "SlidingWindowCounterRateLimiter", Str.ofString "tuplegetter_limits", Str.ofString "Granularity", Str.ofString "RateLimitItem", Str.ofString "RateLimitItemPerSecond", Str.ofString "TimestampedSlidingWindow", Str.ofString "MemoryStorage"]) (Xt := hdX) (XP := XL hd.view_39 []) (Yf := (kmHook hd.heap_39 hdA hdAe [572]).obs) (Ya := (kmHook hd.heap_39 hdA hdAe [572]).val) (YP := (kmHook hd.heap_39 hdA hdAe [572]).says) (N := 10800) hd_left (Hook.of hdH) (Hook.keeps hdH) (fun s e => xl_of s (Bool.and_eq_true_iff.mp e).1) XL.keeps (by rfl) (by rfl) (by rfl) (fun s e => recFacts_of (Bool.and_eq_true_iff.mp e).2) (by rfl) (by first | assumption | decide +kernel) (by decide +kernel) ⟨rfl, rfl, rfl, rfl, rfl, by decide +kernel⟩ ?hw walk
  case hw => w_witness2⟩
theorem hd : hdS.1 → PySem.Challenge.rw_ji0057_01.Holds := hdS.2
end
section

abbrev PG : Program := PySem.Challenge.rw_ji0057_01.row.toRowW.prog

/-- the clock's answer: a call of the law's lambda -/
def ClockSpec (w : World) (p : Program) (loose : List Str) (mean : ExcName → Option Value) (mg mb : Str → Option Value) (f cell nl cq : Addr) (fo co oq : Obj) : Prop :=
  ∀ (now : Int) (tn : Tok) (news : List (Addr × Obj)) (pos : Pos)
    (dp un : Nat) (gd : Option (List Code)) (cn : Str) (cs : Scope) (a : Addr) (ccd : Value) (cl : List (Str × Addr)) (outer : List Env) (A₀ : Around) (base h₀ : Heap) (L : Addr) (m : Str → Option Value) (s : Shared) (Q E : Value → Shared → Prop),
    (f, fo) ∈ news → (cell, co) ∈ news → (nl, listOf #[.int now tn] 0) ∈ news → (cq, oq) ∈ news →
    Below A₀ base outer h₀ → Fr h₀ L s.heap m → (Mine.hd.heap_39 w.params).In h₀ → News h₀ L s.heap news → Top p loose mean mg mb h₀ → cs.kind = .function →
    dp + 2 < recursionLimit → un + 30 < cLine →
    (∀ t h' tk', Fr h₀ L h' m → News h₀ L h' news → Q (.int now t) { s with heap := h', toks := tk' }) →
    wpAny (model PG w) (ktrTop dp un gd cn cs L a ccd cl outer) (callWith pos (.ref f) [] (backTo pos (starEach [] (envX cn cs L a ccd cl))) []) Q E s

theorem clock_use {w : World} {p : Program} {loose : List Str} {mean : ExcName → Option Value} {mg mb : Str → Option Value} {f cell nl cq : Addr} {fo co oq : Obj} (hC : ClockSpec w p loose mean mg mb f cell nl cq fo co oq)
    {now : Int} {tn : Tok} {news : List (Addr × Obj)} {pos : Pos} {dp un : Nat} {gd : Option (List Code)} {cn : Str} {cs : Scope} {a : Addr} {ccd : Value} {cl : List (Str × Addr)} {outer : List Env} {A₀ : Around} {base h₀ : Heap} {L : Addr} {m : Str → Option Value} {s : Shared} {Q E : Value → Shared → Prop}
    (B : Below A₀ base outer h₀) (F : Fr h₀ L s.heap m) (X : (Mine.hd.heap_39 w.params).In h₀) (N : News h₀ L s.heap news) (T : Top p loose mean mg mb h₀) (hk : cs.kind = .function)
    (n5 : (f, fo) ∈ news) (n6 : (cell, co) ∈ news) (n7 : (nl, listOf #[.int now tn] 0) ∈ news) (n8 : (cq, oq) ∈ news) (hd : dp + 2 < recursionLimit) (hu : un + 30 < cLine)
    (ret : ∀ t h' tk', Fr h₀ L h' m → News h₀ L h' news → Q (.int now t) { s with heap := h', toks := tk' }) :
    wpAny (model PG w) (ktrTop dp un gd cn cs L a ccd cl outer) (callWith pos (.ref f) [] (backTo pos (starEach [] (envX cn cs L a ccd cl))) []) Q E s :=
  hC now tn news pos dp un gd cn cs a ccd cl outer A₀ base h₀ L m s Q E n5 n6 n7 n8 B F X N T hk hd hu ret

/-- the key's place in the two tables -/
def KeyOk (c1 c2 : List (Str × Int)) (k : Str) (now : Int) : Prop := (kdpHas c1 k = true → now < kdpLook c2 k 0) ∧ (kdpHas c1 k = false → kdpHas c2 k = false)
theorem look_none {c : List (Str × Int)} {k : Str} (h : kdpHas c k = false) : PySem.Spec.lookup (PyData.str k) (kdpD c) = none := by
  have hs := kdpD_isSome k c
  rw [h] at hs
  cases hl : PySem.Spec.lookup (PyData.str k) (kdpD c) with
  | none => rfl
  | some d => rw [hl] at hs; cases hs
theorem ok_gone1 {c1 c2 : List (Str × Int)} {k : Str} {now : Int} (h : KeyOk c1 c2 k now) (hl : kdpLook c2 k 0 ≤ now) : kdpHas c1 k = false := by
  cases e : kdpHas c1 k with
  | false => rfl
  | true => have := h.1 e; omega
theorem ok_gone2 {c1 c2 : List (Str × Int)} {k : Str} {now : Int} (h : KeyOk c1 c2 k now) (hl : kdpLook c2 k 0 ≤ now) : kdpHas c2 k = false := h.2 (ok_gone1 h hl)

-- the common premises of a contract's use
local macro_rules | `(tactic| walk_at "use common") => `(tactic| (walk_at "use commonZ"; (case N => k_asm)))
local macro_rules | `(tactic| walk_at "use commonZ") => `(tactic| (
  (case B | F | X | T => k_asm); (case hk => first | exact rfl | assumption); (case hd => ktr_room); (case hu => ktr_units)))
-- a store's premises
local macro_rules | `(tactic| walk_at "use store") => `(tactic| (
  (case n1 | n2 | n3 | n4 | n5 | n6 | n7 | n8 => k_mem); (case ls | le | hs | fs | he | fe => assumption)))
local macro_rules | `(tactic| walk_at "callWith ref") => `(tactic| (k_here; k_dflt (refine' clock_use ?hC ?B ?F ?X ?N ?T ?hk ?n5 ?n6 ?n7 ?n8 ?hd ?hu ?_; (case hC => assumption); walk_at "use common"; (case n5 | n6 | n7 | n8 => k_mem)); intro t9 h9 tk9 F' N'; (try dsimp only)))
local macro_rules | `(tactic| walk_at "getMethod ref") => `(tactic| (k_here; (with_reducible show wpAny _ _ (getMethod (Value.ref _) (PySem.Str.ofString "clock") _) _ _ _); walk_at "last getMethod ref"))
local macro_rules | `(tactic| walk_at "call builtin:dict.get") => `(tactic| (k_here; k_dflt ((show wpAny _ _ (call (Value.builtin "dict.get") [Value.ref _, Value.str _ _, Value.int _ _]) _ _ _); refine kdp_get2 (by k_tabat) ?_); intro _))
local macro_rules | `(tactic| walk_at "call builtin:dict.pop") => `(tactic| (k_here; k_dflt ((show wpAny _ _ (call (Value.builtin "dict.pop") [Value.ref _, Value.str _ _, _]) _ _ _); refine kt_pop_default PyProof.V.same_str (strKind_is _ _ _ _) (by rfl) (by k_tabat) (PySem.F.args_dict_pop_3 _ _ _) (look_none (by first | assumption | exact ok_gone1 (by assumption) (by assumption) | exact ok_gone2 (by assumption) (by assumption))) ?_)))
local macro_rules | `(tactic| k_mem) => `(tactic| first | assumption | exact List.mem_cons_self | (refine List.mem_cons_of_mem _ ?_; k_mem))
-- the ledger's entries that a contract asks back
local macro_rules | `(tactic| walk_at "use sub") => `(tactic| first
  | k_asm
  | (refine cb_drop (by k_asm) ?_; intro p9 hp9; rcases List.mem_cons.mp hp9 with h9 | h9; (· subst h9; k_mem); (· k_mem))
  | (refine cb_drop (by k_asm) ?_; intro p9 hp9; k_mem))
local macro_rules | `(tactic| walk_at "getMethod ref") => `(tactic| (k_here; (with_reducible show wpAny _ _ (getMethod (Value.ref _) (PySem.Str.ofString "sliding_window_keys") _) _ _ _); walk_at "last getMethod ref"))
local macro_rules | `(tactic| walk_at "my enter") => `(tactic| (refine' code_def ?k1 ?k2 ?k3 ?k4 ?k5 ?kA ?kF ?kK ?k6 ?k7 ?k8 ?k9 ?kB ?_ ?c2 ?c3 ?c4 ?c5; (case kA | kF => exact rfl); (case kK => first | exact rfl | assumption); (case k1 | k2 | k3 | k4 | k5 => k_asm); (case k6 | k7 => k_is); (case k8 => ktr_room); (case k9 => first | exact BindsTo.of_eq rfl | exact binds_K (by k_in) rfl (by k_is) rfl rfl rfl); (case c5 => decide); (case kB => exact locs rfl); (case c2 | c3 | c4 => exact rfl); k_whole; intro g' L' h' FG' F' N' B' X' T'; (try dsimp only); (try k_lift B'); (try k_fold)))
-- the two tables ahead of the rest
local macro_rules | `(tactic| walk_at "use two") => `(tactic| (refine cb_drop (by k_asm) ?_; intro p9 hp9; rcases List.mem_cons.mp hp9 with h9 | h9; (· subst h9; k_mem); rcases List.mem_cons.mp h9 with h9 | h9; (· subst h9; k_mem); (· k_mem)))
local macro_rules | `(tactic| walk_at "call ref") => `(tactic| (k_here; k_dflt ((show wpAny _ _ (call (Value.ref _) _ _) _ _ _); refine wpAny_call ?_; walk_at "my enter")))

set_option maxHeartbeats 4000000 in
theorem get_spec {w : World} {p : Program} {loose : List Str} {mean : ExcName → Option Value} {mg mb : Str → Option Value} {dp un : Nat} {gd : Option (List Code)} {cn : Str} {cs : Scope} {a : Addr} {ccd : Value} {cl : List (Str × Addr)} {outer : List Env} {A₀ : Around} {base h₀ : Heap} {L : Addr} {m : Str → Option Value} {s : Shared} {Q E : Value → Shared → Prop} {news : List (Addr × Obj)} {x1 d1 ds de dv f cell nl cq : Addr} {fo co oq os oe : Obj} {t1 t2 t3 t4 tn : Tok} {now : Int} {kvs kve : List (Str × Value)} {c1 c2 : List (Str × Int)} {k : Str} {tk : Tok} (B : Below A₀ base outer h₀) (F : Fr h₀ L s.heap m) (X : (Mine.hd.heap_39 w.params).In h₀) (N : News h₀ L s.heap news) (T : Top p loose mean mg mb h₀) (hk : cs.kind = .function) (hd : dp + 9 < recursionLimit) (hu : un + 80 < cLine) (hC : ClockSpec w p loose mean mg mb f cell nl cq fo co oq) (n1 : (x1, instObj 568 d1) ∈ news) (n2 : (d1, dictOf [⟨PySem.PyData.keyHash w.params (Str.ofString "clock"), .str (Str.ofString "clock") t1, .ref f⟩, ⟨PySem.PyData.keyHash w.params (Str.ofString "storage"), .str (Str.ofString "storage") t2, .ref ds⟩, ⟨PySem.PyData.keyHash w.params (Str.ofString "expirations"), .str (Str.ofString "expirations") t3, .ref de⟩, ⟨PySem.PyData.keyHash w.params (Str.ofString "events"), .str (Str.ofString "events") t4, .ref dv⟩] 4) ∈ news) (n5 : (f, fo) ∈ news) (n6 : (cell, co) ∈ news) (n7 : (nl, listOf #[.int now tn] 0) ∈ news) (n8 : (cq, oq) ∈ news) (ls : (ds == sysModules) = false) (le : (de == sysModules) = false) (hs : os.IsDictOf (strKind PG w) kvs) (fs : FlatPairs PyData.str kvs (kdpD c1)) (he : oe.IsDictOf (strKind PG w) kve) (fe : FlatPairs PyData.str kve (kdpD c2)) (n3 : (ds, os) ∈ news) (n4 : (de, oe) ∈ news) (ok : KeyOk c1 c2 k now)
    (ret : ∀ t h' tk', Fr h₀ L h' m → News h₀ L h' news → Q (.int (kdpLook c1 k 0) t) { s with heap := h', toks := tk' }) :
    wpAny (model PG w) (ktrTop dp un gd cn cs L a ccd cl outer) (call (.ref 493)  [.ref x1, .str k tk]) Q E s := by
  w_on
  revert X; (have hR : PySem.Challenge.rw_ji0057_01.name = PySem.Challenge.rw_ji0057_01.name := rfl); revert hR; k_fill; intro hR X; clear hR
  refine wpAny_call ?_
  k_dflt cell_enter
  w_strict (k_steps; (all_goals (exact ret _ _ _ (by k_asm) (by k_asm))))

local macro_rules | `(tactic| walk_at "call ref") => `(tactic| (k_here; (with_reducible show wpAny _ _ (call (Value.ref 493) _ _) _ _ _); k_dflt (apply get_spec; (case hC => assumption); walk_at "use common"; walk_at "use store"; (case ok => assumption)); intro t9 h9 tk9 F' N'; (try dsimp only)))

abbrev tupObj (vs : List Value) : Obj := { cls := .type "tuple", data := .seq vs.toArray }
def ttl (pc e now : Int) : Int := if pc = 0 then 0 else e - Int.fmod (now - e) e
set_option maxHeartbeats 4000000 in
theorem info_spec {w : World} {p : Program} {loose : List Str} {mean : ExcName → Option Value} {mg mb : Str → Option Value} {dp un : Nat} {gd : Option (List Code)} {cn : Str} {cs : Scope} {a : Addr} {ccd : Value} {cl : List (Str × Addr)} {outer : List Env} {A₀ : Around} {base h₀ : Heap} {L : Addr} {m : Str → Option Value} {s : Shared} {Q E : Value → Shared → Prop} {news : List (Addr × Obj)} {x1 d1 ds de dv f cell nl cq : Addr} {fo co oq os oe : Obj} {t1 t2 t3 t4 tn : Tok} {now : Int} {kvs kve : List (Str × Value)} {c1 c2 : List (Str × Int)} {pk ck : Str} {tp tc te tw : Tok} {e : Int} (B : Below A₀ base outer h₀) (F : Fr h₀ L s.heap m) (X : (Mine.hd.heap_39 w.params).In h₀) (N : News h₀ L s.heap news) (T : Top p loose mean mg mb h₀) (hk : cs.kind = .function) (hd : dp + 12 < recursionLimit) (hu : un + 120 < cLine) (hC : ClockSpec w p loose mean mg mb f cell nl cq fo co oq) (n1 : (x1, instObj 568 d1) ∈ news) (n2 : (d1, dictOf [⟨PySem.PyData.keyHash w.params (Str.ofString "clock"), .str (Str.ofString "clock") t1, .ref f⟩, ⟨PySem.PyData.keyHash w.params (Str.ofString "storage"), .str (Str.ofString "storage") t2, .ref ds⟩, ⟨PySem.PyData.keyHash w.params (Str.ofString "expirations"), .str (Str.ofString "expirations") t3, .ref de⟩, ⟨PySem.PyData.keyHash w.params (Str.ofString "events"), .str (Str.ofString "events") t4, .ref dv⟩] 4) ∈ news) (n5 : (f, fo) ∈ news) (n6 : (cell, co) ∈ news) (n7 : (nl, listOf #[.int now tn] 0) ∈ news) (n8 : (cq, oq) ∈ news) (ls : (ds == sysModules) = false) (le : (de == sysModules) = false) (hs : os.IsDictOf (strKind PG w) kvs) (fs : FlatPairs PyData.str kvs (kdpD c1)) (he : oe.IsDictOf (strKind PG w) kve) (fe : FlatPairs PyData.str kve (kdpD c2)) (n3 : (ds, os) ∈ news) (n4 : (de, oe) ∈ news)
    (ok1 : KeyOk c1 c2 pk now) (ok2 : KeyOk c1 c2 ck now) (h0 : 1000000 ≤ now) (h9 : now ≤ 2000000000) (e0 : 2 ≤ e) (e9 : e ≤ 8)
    (ret : ∀ pt q a1 a2 a3 a4 h' tk', pt = ttl (kdpLook c1 pk 0) e now → Fr h₀ L h' m → News h₀ L h' ((q, tupObj [.int (kdpLook c1 pk 0) a1, .int pt a2, .int (kdpLook c1 ck 0) a3, .int (e - Int.fmod now e + e) a4]) :: news) → Q (.ref q) { s with heap := h', toks := tk' }) :
    wpAny (model PG w) (ktrTop dp un gd cn cs L a ccd cl outer) (call (.ref 537)  [.ref x1, .str pk tp, .str ck tc, .int e te, .int now tw]) Q E s := by
  w_on
  revert X; (have hR : PySem.Challenge.rw_ji0057_01.name = PySem.Challenge.rw_ji0057_01.name := rfl); revert hR; k_fill; intro hR X; clear hR
  refine wpAny_call ?_
  k_dflt cell_enter
  w_strict (k_steps; (all_goals (refine ret _ _ _ _ _ _ _ _ ?_ (by k_asm) (by k_asm); (simp only [ttl]; first | (rw [if_pos (by assumption)]; done) | (rw [if_neg (by assumption)]; done)))))

local macro_rules | `(tactic| walk_at "call ref") => `(tactic| (k_here; (with_reducible show wpAny _ _ (call (Value.ref 537) _ _) _ _ _); k_dflt (apply info_spec; (case hC => assumption); walk_at "use common"; walk_at "use store"; (case ok1 | ok2 | h0 | h9 | e0 | e9 => assumption)); intro pt9 q9 ta9 tb9 tc9 td9 h9 tk9 hpt9 F' N'; (try dsimp only)))

theorem small_div {x e : Int} (h0 : 0 ≤ x) (h9 : x ≤ 2000000000) (e0 : 2 ≤ e) : (Int.fdiv x e).natAbs < 1000000000000000000 := by
  rw [Int.fdiv_eq_ediv_of_nonneg _ (by omega)]
  have h1 : 0 ≤ x / e := Int.ediv_nonneg h0 (by omega)
  have h2 : x / e ≤ x := Int.ediv_le_self _ h0
  omega
theorem not_big {n : Nat} (h : n < 1000000000000000000) : ¬ 10 ^ 4300 ≤ n := Nat.not_le.mpr (lt_digitLimit_of_lt h)
def kx (key : Str) (n : Int) : Str := Str.empty ++ key ++ Str.ofString "/" ++ Str.ofString (toString n)
theorem kx_size {key : Str} {n : Int} (hlen : key.length ≤ 100) (hn : n.natAbs < 10 ^ 4300) : (Str.empty ++ key ++ Str.ofString "/" ++ Str.ofString (toString n)).length ≤ sizeLine := by
  have e := int_text_length_le10 (k := 4300) (by decide) hn
  clear hn
  simp only [Str.length_append, PySem.ofString_length]
  rw [sizeLine_eq]
  have h0 : Str.empty.length = 0 := rfl
  have h1 : ("/" : String).length = 1 := rfl
  omega
local macro_rules | `(tactic| walk_at "formatField int") => `(tactic| (k_here; k_dflt (refine formatField_int rfl (Heap.NoDigits.keeps (Top.nodigits (by assumption)) (Fr.keep (by assumption))) (fun hsm => ?_) (fun hbig => absurd hbig (not_big (small_div (by omega) (by omega) (by omega)))))))
local macro_rules | `(tactic| walk_at "joinParts") => `(tactic| (k_here; (first | (with_reducible show wpAny _ _ (joinParts _ []) _ _ _) | (with_reducible show wpAny _ _ (joinParts _ (evalEach [] _)) _ _ _)); k_dflt (refine joinParts_nil ?_ (kx_size (by assumption) (by assumption)))))
set_option maxHeartbeats 4000000 in
theorem keys_spec {w : World} {p : Program} {loose : List Str} {mean : ExcName → Option Value} {mg mb : Str → Option Value} {dp un : Nat} {gd : Option (List Code)} {cn : Str} {cs : Scope} {a : Addr} {ccd : Value} {cl : List (Str × Addr)} {outer : List Env} {A₀ : Around} {base h₀ : Heap} {L : Addr} {m : Str → Option Value} {s : Shared} {Q E : Value → Shared → Prop} {news : List (Addr × Obj)} {q : Addr} {key : Str} {tp te tw : Tok} {e now : Int} (B : Below A₀ base outer h₀) (F : Fr h₀ L s.heap m) (X : (Mine.hd.heap_39 w.params).In h₀) (N : News h₀ L s.heap news) (T : Top p loose mean mg mb h₀) (hk : cs.kind = .function) (hd : dp + 12 < recursionLimit) (hu : un + 120 < cLine)
    (nq : (q, methodObj (.ref 439) (.ref 568)) ∈ news) (hlen : key.length ≤ 100) (h0 : 1000000 ≤ now) (h9 : now ≤ 2000000000) (e0 : 2 ≤ e) (e9 : e ≤ 8)
    (ret : ∀ q' a1 a2 h' tk', Fr h₀ L h' m → News h₀ L h' ((q', tupObj [.str (kx key (Int.fdiv (now - e) e)) a1, .str (kx key (Int.fdiv now e)) a2]) :: news) → Q (.ref q') { s with heap := h', toks := tk' }) :
    wpAny (model PG w) (ktrTop dp un gd cn cs L a ccd cl outer) (call (.ref q) [.str key tp, .int e te, .int now tw]) Q E s := by
  w_on
  revert X; (have hR : PySem.Challenge.rw_ji0057_01.name = PySem.Challenge.rw_ji0057_01.name := rfl); revert hR; k_fill; intro hR X; clear hR
  refine call_meth N nq ?_
  k_dflt cell_enter
  w_strict (k_steps; (all_goals (first | exact kx_size (by assumption) (by assumption) | exact ret _ _ _ _ _ (by k_asm) (by k_asm))))

local macro_rules | `(tactic| walk_at "call ref") => `(tactic| (k_here; k_dflt (apply keys_spec; walk_at "use common"; (case nq => k_mem); (case hlen | h0 | h9 | e0 | e9 => assumption)); intro q9 ta9 tb9 h9 tk9 F' N'; (try dsimp only)))


set_option maxHeartbeats 4000000 in
theorem window_spec {w : World} {p : Program} {loose : List Str} {mean : ExcName → Option Value} {mg mb : Str → Option Value} {dp un : Nat} {gd : Option (List Code)} {cn : Str} {cs : Scope} {a : Addr} {ccd : Value} {cl : List (Str × Addr)} {outer : List Env} {A₀ : Around} {base h₀ : Heap} {L : Addr} {m : Str → Option Value} {s : Shared} {Q E : Value → Shared → Prop} {news : List (Addr × Obj)} {x1 d1 ds de dv f cell nl cq : Addr} {fo co oq os oe : Obj} {t1 t2 t3 t4 tn : Tok} {now : Int} {kvs kve : List (Str × Value)} {c1 c2 : List (Str × Int)} {key : Str} {tp te : Tok} {e : Int} (B : Below A₀ base outer h₀) (F : Fr h₀ L s.heap m) (X : (Mine.hd.heap_39 w.params).In h₀) (N : News h₀ L s.heap news) (T : Top p loose mean mg mb h₀) (hk : cs.kind = .function) (hd : dp + 16 < recursionLimit) (hu : un + 200 < cLine) (hC : ClockSpec w p loose mean mg mb f cell nl cq fo co oq) (n1 : (x1, instObj 568 d1) ∈ news) (n2 : (d1, dictOf [⟨PySem.PyData.keyHash w.params (Str.ofString "clock"), .str (Str.ofString "clock") t1, .ref f⟩, ⟨PySem.PyData.keyHash w.params (Str.ofString "storage"), .str (Str.ofString "storage") t2, .ref ds⟩, ⟨PySem.PyData.keyHash w.params (Str.ofString "expirations"), .str (Str.ofString "expirations") t3, .ref de⟩, ⟨PySem.PyData.keyHash w.params (Str.ofString "events"), .str (Str.ofString "events") t4, .ref dv⟩] 4) ∈ news) (n5 : (f, fo) ∈ news) (n6 : (cell, co) ∈ news) (n7 : (nl, listOf #[.int now tn] 0) ∈ news) (n8 : (cq, oq) ∈ news) (ls : (ds == sysModules) = false) (le : (de == sysModules) = false) (hs : os.IsDictOf (strKind PG w) kvs) (fs : FlatPairs PyData.str kvs (kdpD c1)) (he : oe.IsDictOf (strKind PG w) kve) (fe : FlatPairs PyData.str kve (kdpD c2)) (n3 : (ds, os) ∈ news) (n4 : (de, oe) ∈ news)
    (ok1 : KeyOk c1 c2 (kx key (Int.fdiv (now - e) e)) now) (ok2 : KeyOk c1 c2 (kx key (Int.fdiv now e)) now) (hlen : key.length ≤ 100) (h0 : 1000000 ≤ now) (h9 : now ≤ 2000000000) (e0 : 2 ≤ e) (e9 : e ≤ 8)
    (ret : ∀ pt q a1 a2 a3 a4 h' tk', pt = ttl (kdpLook c1 (kx key (Int.fdiv (now - e) e)) 0) e now → Fr h₀ L h' m → News h₀ L h' ((q, tupObj [.int (kdpLook c1 (kx key (Int.fdiv (now - e) e)) 0) a1, .int pt a2, .int (kdpLook c1 (kx key (Int.fdiv now e)) 0) a3, .int (e - Int.fmod now e + e) a4]) :: news) → Q (.ref q) { s with heap := h', toks := tk' }) :
    wpAny (model PG w) (ktrTop dp un gd cn cs L a ccd cl outer) (call (.ref 544)  [.ref x1, .str key tp, .int e te]) Q E s := by
  w_on
  revert X; (have hR : PySem.Challenge.rw_ji0057_01.name = PySem.Challenge.rw_ji0057_01.name := rfl); revert hR; k_fill; intro hR X; clear hR
  refine wpAny_call ?_
  k_dflt cell_enter
  w_strict (k_steps; (all_goals (refine' ret _ _ _ _ _ _ _ _ ?e1 ?e2 ?e3; (case e1 => assumption); (case e2 => k_asm); (case e3 => walk_at "use sub"))))

local macro_rules | `(tactic| walk_at "call ref") => `(tactic| (k_here; (with_reducible show wpAny _ _ (call (Value.ref 544) _ _) _ _ _); k_dflt (apply window_spec; (case hC => assumption); walk_at "use common"; walk_at "use store"; (case ok1 | ok2 | hlen | h0 | h9 | e0 | e9 => assumption)); intro pt9 q9 ta9 tb9 tc9 td9 h9 tk9 hpt9 F' N'; (try dsimp only)))

theorem look_put (c : List (Str × Int)) (k j : Str) (v : Int) : kdpLook (kdpPut c k v) j 0 = if j = k then v else kdpLook c j 0 := by
  have h := kdpD_put c k v
  have h1 := kdpD_getD (kdpPut c k v) j 0
  rw [← h] at h1
  have h2 := kdpD_getD c j 0
  rw [lookup_putK keyEnc_str] at h1
  by_cases e : j = k
  · rw [if_pos e] at h1
    rw [if_pos e]
    exact (PyData.int.inj h1).symm
  · rw [if_neg e] at h1
    rw [if_neg e]
    rw [h2] at h1
    exact (PyData.int.inj h1).symm
theorem look_put_same (c : List (Str × Int)) (k : Str) (v : Int) : kdpLook (kdpPut c k v) k 0 = v := by rw [look_put, if_pos rfl]
theorem inc_zero {c : List (Str × Int)} {k : Str} {a : Int} (h : kdpLook (kdpPut c k (kdpLook c k 0 + a)) k 0 = a) : kdpLook c k 0 = 0 := by rw [look_put_same] at h; omega
theorem inc_pos {c : List (Str × Int)} {k : Str} {a : Int} (h : kdpLook (kdpPut c k (kdpLook c k 0 + a)) k 0 ≠ a) : ¬ kdpLook c k 0 = 0 := by rw [look_put_same] at h; omega
local macro_rules | `(tactic| k_all) => `(tactic| assumption)
local macro_rules | `(tactic| walk_at "setItem ref str") => `(tactic| (k_here; k_dflt ((show wpAny _ _ (setItem (Value.ref _) (Value.str _ _) (Value.int _ _)) _ _ _); refine' kdp_setItem ?F ?N ?U ?d ?f ?z ?_; (case F => k_asm); (case N => k_asm); (case U => k_updF); (case d => k_asm); (case f => k_asm); (case z => omega)); intro h' o' kvs' F' N' hd' hf'; (try dsimp only at N')))
local macro_rules | `(tactic| walk_at "subscriptTail") => `(tactic| (k_here; k_dflt ((show wpAny _ _ (subscriptTail _ _ (Value.ref _) (Value.str _ _)) _ _ _); refine kdp_item (by k_tabat) (by simp only [kdpHas_put, decide_true, Bool.true_or]) ?_); intro _))
set_option maxHeartbeats 4000000 in
theorem incr_spec {w : World} {p : Program} {loose : List Str} {mean : ExcName → Option Value} {mg mb : Str → Option Value} {dp un : Nat} {gd : Option (List Code)} {cn : Str} {cs : Scope} {a : Addr} {ccd : Value} {cl : List (Str × Addr)} {outer : List Env} {A₀ : Around} {base h₀ : Heap} {L : Addr} {m : Str → Option Value} {s : Shared} {Q E : Value → Shared → Prop} {news : List (Addr × Obj)} {x1 d1 ds de dv f cell nl cq : Addr} {fo co oq os oe : Obj} {t1 t2 t3 t4 tn : Tok} {now : Int} {kvs kve : List (Str × Value)} {c1 c2 : List (Str × Int)} {k : Str} {tk te ta : Tok} {e amt : Int} {rest : List (Addr × Obj)} (hnews : news = (ds, os) :: (de, oe) :: rest) (r1 : ∀ p ∈ rest, p.1 ≠ ds) (r2 : ∀ p ∈ rest, p.1 ≠ de) (r3 : @Ne Nat ds de)
    (B : Below A₀ base outer h₀) (F : Fr h₀ L s.heap m) (X : (Mine.hd.heap_39 w.params).In h₀) (N : News h₀ L s.heap news) (T : Top p loose mean mg mb h₀) (hk : cs.kind = .function) (hd : dp + 16 < recursionLimit) (hu : un + 200 < cLine) (hC : ClockSpec w p loose mean mg mb f cell nl cq fo co oq) (n1 : (x1, instObj 568 d1) ∈ rest) (n2 : (d1, dictOf [⟨PySem.PyData.keyHash w.params (Str.ofString "clock"), .str (Str.ofString "clock") t1, .ref f⟩, ⟨PySem.PyData.keyHash w.params (Str.ofString "storage"), .str (Str.ofString "storage") t2, .ref ds⟩, ⟨PySem.PyData.keyHash w.params (Str.ofString "expirations"), .str (Str.ofString "expirations") t3, .ref de⟩, ⟨PySem.PyData.keyHash w.params (Str.ofString "events"), .str (Str.ofString "events") t4, .ref dv⟩] 4) ∈ rest) (n5 : (f, fo) ∈ rest) (n6 : (cell, co) ∈ rest) (n7 : (nl, listOf #[.int now tn] 0) ∈ rest) (n8 : (cq, oq) ∈ rest) (ls : (ds == sysModules) = false) (le : (de == sysModules) = false) (hs : os.IsDictOf (strKind PG w) kvs) (fs : FlatPairs PyData.str kvs (kdpD c1)) (he : oe.IsDictOf (strKind PG w) kve) (fe : FlatPairs PyData.str kve (kdpD c2))
    (ok : KeyOk c1 c2 k now) (z1 : c1.length ≤ 1000) (z2 : c2.length ≤ 1000)
    (h0 : 1000000 ≤ now) (h9 : now ≤ 2000000000)
    (ret : ∀ os' oe' kvs' kve' c2' t h' tk', os'.IsDictOf (strKind PG w) kvs' → FlatPairs PyData.str kvs' (kdpD (kdpPut c1 k (kdpLook c1 k 0 + amt))) → oe'.IsDictOf (strKind PG w) kve' → FlatPairs PyData.str kve' (kdpD c2') →
      c2' = (if kdpLook c1 k 0 = 0 then kdpPut c2 k (now + e) else c2) → Fr h₀ L h' m → News h₀ L h' ((ds, os') :: (de, oe') :: rest) → Q (.int (kdpLook c1 k 0 + amt) t) { s with heap := h', toks := tk' }) :
    wpAny (model PG w) (ktrTop dp un gd cn cs L a ccd cl outer) (call (.ref 478)  [.ref x1, .str k tk, .int e te] [(Str.ofString "amount", .int amt ta)]) Q E s := by
  subst hnews
  w_on
  revert X; (have hR : PySem.Challenge.rw_ji0057_01.name = PySem.Challenge.rw_ji0057_01.name := rfl); revert hR; k_fill; intro hR X; clear hR
  refine wpAny_call ?_
  k_dflt (walk_at "my enter")
  w_strict (k_steps; (all_goals (rw [look_put_same]; refine' ret _ _ _ _ _ _ _ _ ?e1 ?e2 ?e3 ?e4 ?e5 ?e6 ?e7; (case e6 => k_asm); (case e7 => k_asm); (case e1 => assumption); (case e2 => assumption); (case e3 => assumption); (case e4 => assumption); (case e5 => first | (rw [if_pos (inc_zero (by assumption))]; done) | (rw [if_neg (inc_pos (by assumption))]; done)))))

local macro_rules | `(tactic| walk_at "call ref") => `(tactic| (k_here; (with_reducible show wpAny _ _ (call (Value.ref 478) _ _) _ _ _); k_dflt ((show wpAny _ _ (call (Value.ref 478) [Value.ref _, Value.str _ _, Value.int _ _] [(_, Value.int _ _)]) _ _ _); apply incr_spec rfl; (case hC | n1 | n2 | n5 | n6 | n7 | n8 | r1 | r2 | r3 => assumption); walk_at "use commonZ"; (case N => walk_at "use two"); (case ls | le | hs | fs | he | fe | ok | z1 | z2 | h0 | h9 => assumption)); intro os9 oe9 kvs9 kve9 c9 t9 h9 tk9 hd9 hf9 hd8 hf8 hc9 F' N'; (try dsimp only)))

theorem ttl_lo (P e now : Int) (e0 : 2 ≤ e) : 0 ≤ ttl P e now := by
  unfold ttl
  split
  · exact Int.le_refl _
  · have := Int.fmod_lt_of_pos (now - e) (show 0 < e by omega); omega
theorem ttl_hi (P e now : Int) (e0 : 2 ≤ e) : ttl P e now ≤ e := by
  unfold ttl
  split
  · omega
  · have := Int.fmod_nonneg_of_pos (now - e) (show 0 < e by omega); omega
def weighed (c1 : List (Str × Int)) (key : Str) (e now : Int) : Int :=
  Int.fdiv (kdpLook c1 (kx key (Int.fdiv (now - e) e)) 0 * ttl (kdpLook c1 (kx key (Int.fdiv (now - e) e)) 0) e now) e + kdpLook c1 (kx key (Int.fdiv now e)) 0
set_option maxHeartbeats 4000000 in
theorem acq_spec {w : World} {p : Program} {loose : List Str} {mean : ExcName → Option Value} {mg mb : Str → Option Value} {dp un : Nat} {gd : Option (List Code)} {cn : Str} {cs : Scope} {a : Addr} {ccd : Value} {cl : List (Str × Addr)} {outer : List Env} {A₀ : Around} {base h₀ : Heap} {L : Addr} {m : Str → Option Value} {s : Shared} {Q E : Value → Shared → Prop} {news : List (Addr × Obj)} {x1 d1 ds de dv f cell nl cq : Addr} {fo co oq os oe : Obj} {t1 t2 t3 t4 tn : Tok} {now : Int} {kvs kve : List (Str × Value)} {c1 c2 : List (Str × Int)} {key : Str} {tk tl te ta : Tok} {limit e amt : Int} {rest : List (Addr × Obj)} (hnews : news = (ds, os) :: (de, oe) :: rest) (r1 : ∀ p ∈ rest, p.1 ≠ ds) (r2 : ∀ p ∈ rest, p.1 ≠ de) (r3 : @Ne Nat ds de)
    (B : Below A₀ base outer h₀) (F : Fr h₀ L s.heap m) (X : (Mine.hd.heap_39 w.params).In h₀) (N : News h₀ L s.heap news) (T : Top p loose mean mg mb h₀) (hk : cs.kind = .function) (hd : dp + 20 < recursionLimit) (hu : un + 300 < cLine) (hC : ClockSpec w p loose mean mg mb f cell nl cq fo co oq) (n1 : (x1, instObj 568 d1) ∈ rest) (n2 : (d1, dictOf [⟨PySem.PyData.keyHash w.params (Str.ofString "clock"), .str (Str.ofString "clock") t1, .ref f⟩, ⟨PySem.PyData.keyHash w.params (Str.ofString "storage"), .str (Str.ofString "storage") t2, .ref ds⟩, ⟨PySem.PyData.keyHash w.params (Str.ofString "expirations"), .str (Str.ofString "expirations") t3, .ref de⟩, ⟨PySem.PyData.keyHash w.params (Str.ofString "events"), .str (Str.ofString "events") t4, .ref dv⟩] 4) ∈ rest) (n5 : (f, fo) ∈ rest) (n6 : (cell, co) ∈ rest) (n7 : (nl, listOf #[.int now tn] 0) ∈ rest) (n8 : (cq, oq) ∈ rest) (ls : (ds == sysModules) = false) (le : (de == sysModules) = false) (hs : os.IsDictOf (strKind PG w) kvs) (fs : FlatPairs PyData.str kvs (kdpD c1)) (he : oe.IsDictOf (strKind PG w) kve) (fe : FlatPairs PyData.str kve (kdpD c2))
    (ok1 : KeyOk c1 c2 (kx key (Int.fdiv (now - e) e)) now) (ok2 : KeyOk c1 c2 (kx key (Int.fdiv now e)) now) (z1 : c1.length ≤ 1000) (z2 : c2.length ≤ 1000)
    (hlen : key.length ≤ 100) (h0 : 1000000 ≤ now) (h9 : now ≤ 2000000000) (e0 : 2 ≤ e) (e9 : e ≤ 8)
    (p0 : 0 ≤ kdpLook c1 (kx key (Int.fdiv (now - e) e)) 0) (p9 : kdpLook c1 (kx key (Int.fdiv (now - e) e)) 0 ≤ 9) (q0 : 0 ≤ kdpLook c1 (kx key (Int.fdiv now e)) 0) (q9 : kdpLook c1 (kx key (Int.fdiv now e)) 0 ≤ 9)
    (retF : (limit < amt ∨ limit < weighed c1 key e now + amt) → ∀ h' tk', Fr h₀ L h' m → News h₀ L h' ((ds, os) :: (de, oe) :: rest) → Q (.bool false) { s with heap := h', toks := tk' })
    (retT : amt ≤ limit → weighed c1 key e now + amt ≤ limit → ∀ os' oe' kvs' kve' c2' h' tk', os'.IsDictOf (strKind PG w) kvs' → FlatPairs PyData.str kvs' (kdpD (kdpPut c1 (kx key (Int.fdiv now e)) (kdpLook c1 (kx key (Int.fdiv now e)) 0 + amt))) → oe'.IsDictOf (strKind PG w) kve' → FlatPairs PyData.str kve' (kdpD c2') →
      c2' = (if kdpLook c1 (kx key (Int.fdiv now e)) 0 = 0 then kdpPut c2 (kx key (Int.fdiv now e)) (now + 2 * e) else c2) → Fr h₀ L h' m → News h₀ L h' ((ds, os') :: (de, oe') :: rest) → Q (.bool true) { s with heap := h', toks := tk' }) :
    wpAny (model PG w) (ktrTop dp un gd cn cs L a ccd cl outer) (call (.ref 530)  [.ref x1, .str key tk, .int limit tl, .int e te, .int amt ta]) Q E s := by
  subst hnews
  w_on
  revert X; (have hR : PySem.Challenge.rw_ji0057_01.name = PySem.Challenge.rw_ji0057_01.name := rfl); revert hR; k_fill; intro hR X; clear hR
  refine wpAny_call ?_
  k_dflt (walk_at "my enter")
  w_strict (k_steps; (all_goals (try (rename (_ = ttl _ _ _) => hpt; subst hpt))); (all_goals first
    | (refine' retF ?e1 _ _ ?e2 ?e3; (case e2 => k_asm); (case e3 => first | k_asm | walk_at "use two"); (case e1 => (unfold weighed; omega)))
    | (refine' retT ?e8 ?e9 _ _ _ _ _ _ _ ?e1 ?e2 ?e3 ?e4 ?e5 ?e6 ?e7; (case e6 => k_asm); (case e7 => k_asm); (case e1 => assumption); (case e2 => assumption); (case e3 => assumption); (case e4 => assumption); (case e5 => assumption); (case e8 => omega); (case e9 => (unfold weighed; omega)))))

local macro_rules | `(tactic| walk_at "call ref") => `(tactic| (k_here; (with_reducible show wpAny _ _ (call (Value.ref 530) _ _) _ _ _); k_dflt (apply acq_spec rfl; (case hC | n1 | n2 | n5 | n6 | n7 | n8 | r1 | r2 | r3 => assumption); walk_at "use commonZ"; (case N => walk_at "use two"); (case ls | le | hs | fs | he | fe | ok1 | ok2 | z1 | z2 | hlen | h0 | h9 | e0 | e9 | p0 | p9 | q0 | q9 => assumption)); (all_goals (first | (intro ha9 hw9 os9 oe9 kvs9 kve9 c9 h9 tk9 hd9 hf9 hd8 hf8 hc9 F' N'; (try dsimp only)) | (intro hw9 h9 tk9 F' N'; (try dsimp only))))))

theorem ga_split : splitId "tuple.__getattribute__" = some ("tuple", "__getattribute__") := by decide +kernel
theorem ga_kind : builtinKind "tuple.__getattribute__" = some .slot := by simp only [builtinKind, ga_split]; decide +kernel
theorem ga_ne : (Value.builtin "tuple.__getattribute__" == Value.builtin "object.__getattribute__") = false := by decide +kernel
section
variable {prog : Program} {w : World} {A : Around} {E : Value → Shared → Prop} {s : Shared} {K : Frag} {x C : Addr} {ox : Obj} {od : Option Obj} {name : Str} {expr : Bool} {Q : Value → Shared → Prop}
theorem looks_inst_of {M : Model} {h : Heap} {base : Value} (X : K.In h) (I : InstAt h x ox C od) (hm : mroIn K C base = some true) : Looks M h (isInstance (.ref x) base) true := by
  unfold isInstance
  exact I.type.andThen (looks_mroIn X hm)
theorem entry_tuple_gaM : entryFor table "tuple.__getattribute__" = some Builtin.«object.__getattribute__» :=
  entryFor_alias (id' := "object.__getattribute__") (by kernel_rfl) (by first | rfl | decide +kernel) (by decide +kernel) (by kernel_rfl)
set_option maxHeartbeats 400000 in
theorem get_bindT {g a : Value} (X : K.In s.heap) (I : InstAt s.heap x ox C od) (hga : findIn K (.ref C) "__getattribute__" = some (some (.builtin "tuple.__getattribute__")))
    (hm : mroIn K C (.type "tuple") = some true) (hf : findObj K C od name = some (.bind g a)) (hk : findIn K (.ref C) "__getattr__" = some none)
    (h : wpAny (model prog w) A.in1 (call g [a, .ref x, .ref C]) (fun v s' => wpAny (model prog w) A (handedOut v) Q E s') (fun _ _ => False) { s with toks := s.toks + 1 }) :
    wpAny (model prog w) A (getAttr (.ref x) name expr) Q E s := by
  obtain ⟨hh, gg, d, t, os⟩ := s
  have L0 := I.type (M := model prog w)
  have L1 := looks_findIn (M := model prog w) X hga
  have L2 := looks_findIn (M := model prog w) X hk
  have L3 := looks_find (M := model prog w) X I hf
  have L4 := looks_inst_of (M := model prog w) X I hm
  unfold getAttr getAttrBy
  refine wpAny_bind (wpAny_mkText (wpAny_holding (wpAny_bind (L0.at (wpAny_bind (L1.at ?_))))))
  have e1 : (if (onTheHeap (Value.ref C) && Value.builtin "tuple.__getattribute__" == Value.builtin "object.__getattribute__") = true then getAttrEveryday (.ref x) (.str name t) true else getAttrByItsOwn (.ref x) (.str name t) (.ref C) (.builtin "tuple.__getattribute__") true expr) = getAttrByItsOwn (.ref x) (.str name t) (.ref C) (.builtin "tuple.__getattribute__") true expr := by
    rw [ga_ne, Bool.and_false, if_neg Bool.false_ne_true]
  dsimp only
  rw [e1]
  unfold getAttrByItsOwn
  refine wpAny_bind ?_
  have e2 : hookBefore (Value.ref C) = typeLookup (.ref C) "__getattr__" := rfl
  rw [e2]
  refine L2.at ?_
  refine wpAny_bind (wpAny_attempt (wpAny_holding ?_))
  have e : callGetattribute (.ref x) (.str name t) (.builtin "tuple.__getattribute__") expr = boundAndCalled (.builtin "tuple.__getattribute__") (.ref x) (.str name t) := by
    unfold callGetattribute
    cases expr <;> rfl
  rw [e]
  unfold boundAndCalled
  rw [F.slot_tuple_getattribute.bind]
  refine wpAny_bind (wpAny_pure ?_)
  show wpAny _ _ (call (.builtin "tuple.__getattribute__") [.ref x, .str name t]) _ _ _
  refine wpAny_call ?_
  refine codeAny_call_builtin F.slot_tuple_getattribute.plain entry_tuple_gaM ?_
  refine @check_slot (model prog w) _ _ _ "tuple.__getattribute__" "tuple" "__getattribute__" (.ref x) [.str name t] [] _ ga_kind ga_split L4 (F.args_tuple_getattribute_2 (.ref x) (.str name t)) ?_
  unfold Builtin.«object.__getattribute__»
  repeat ((fail_if_success (with_reducible show wpAny _ _ (call _ _ _) _ _ _)); lk)
  exact wpAny_mono h (fun v s' z => wpAny_pure z) fun _ _ z => z.elim
end


theorem gi_split : splitId "tuple.__getitem__" = some ("tuple", "__getitem__") := by decide +kernel
theorem gi_kind : builtinKind "tuple.__getitem__" = some .slot := by simp only [builtinKind, gi_split]; decide +kernel
theorem cls_of_mro {K : Frag} {C : Addr} {b : Value} {r : Bool} (h : mroIn K C b = some r) : (clsIn K C).isSome = true := by
  unfold mroIn at h
  cases e : clsIn K C with
  | none => rw [e] at h; cases h
  | some cd => rfl
section
variable {prog : Program} {w : World} {A : Around} {E : Value → Shared → Prop} {s : Shared} {K : Frag} {x C : Addr} {ox : Obj} {od : Option Obj} {Q : Value → Shared → Prop}
theorem issub_nested {Q : Fin → Shared → Prop} (X : K.In s.heap) (hc : (clsIn K C).isSome = true) (hm : mroIn K C (.type "tuple") = some true) (hq : Q (.done (.ret (.bool true))) s) :
    wpAny (model prog w) A (Builtin.«issubclass.nested» ⟨[.ref C, .type "tuple", rawInt 0], []⟩) Q E s := by
  obtain ⟨hh, g, d, t, os⟩ := s
  obtain ⟨cd, hcd⟩ := Option.isSome_iff_exists.mp hc
  have L0 : Looks (model prog w) hh (typeOf (.type "tuple")) (.type "type") := Looks.of_pure (by kernel_rfl)
  have ho : ∃ c dd sl, hh.get? C = some ⟨c, dd, .cls cd, sl⟩ := by
    unfold clsIn at hcd
    split at hcd
    · rename_i ho; cases hcd; exact ⟨_, _, _, X _ _ ho⟩
    · cases hcd
  obtain ⟨c, dd, sl, ho⟩ := ho
  have L2 := looks_mroIn (M := model prog w) X hm
  unfold Builtin.«issubclass.nested»
  repeat lk
  exact hq
theorem issub_call (X : K.In s.heap) (hm : mroIn K C (.type "tuple") = some true) (hq : Q (.bool true) s) : wpAny (model prog w) A (call (.builtin "issubclass") [.ref C, .type "tuple"]) Q E s :=
  call_issubclass (S := fun _ R s => K.In s.heap ∧ R (.ok (.ret (.bool true))) s) (fun _ _ _ _ _ hs => issubclass_outer (issub_nested hs.1 (cls_of_mro hm) hm hs.2)) ⟨X, hq⟩
theorem getitem_sub {vs : List Value} {n : Nat} {i : Int} {u : Tok} {k : Nat} {y : Value} (X : K.In s.heap) (I : InstAt s.heap x ox C od) (hd : ox.data = .seq vs.toArray n) (hm : mroIn K C (.type "tuple") = some true)
    (hlo : -2 ^ 63 ≤ i) (hhi : i < 2 ^ 63) (hk : seqIndex? i vs.length = some k) (hy : vs[k]? = some y) (hq : Q y s) :
    wpAny (model prog w) A (call (.builtin "tuple.__getitem__") [.ref x, .int i u]) Q E s := by
  refine wpAny_call ?_
  refine codeAny_call_builtin F.slot_tuple_getitem.plain F.entry_tuple_getitem ?_
  refine @check_slot (model prog w) _ _ _ "tuple.__getitem__" "tuple" "__getitem__" (.ref x) [.int i u] [] _ gi_kind gi_split (looks_inst_of X I hm) (F.args_tuple_getitem_2 (.ref x) (.int i u)) ?_
  have hI := I.at_
  obtain ⟨hh, g, d, t, os⟩ := s
  have f1 := AutoSeq1.idx_int
  have hf : ¬ (decide (i < -2 ^ 63) || decide (i ≥ 2 ^ 63)) = true := by simp; omega
  obtain ⟨oc, odd, oda, osl⟩ := ox
  dsimp only at hd hI
  subst hd
  wp_walk using wpAny_loadPart' hI
  refine wpAny_ite_false (decide_eq_false hf) ?_
  simp only [List.size_toArray, List.getElem?_toArray, hk, hy, Option.bind_some]
  wp_walk
  exact hq
theorem get_fieldT {g a : Value} {name : Str} {expr : Bool} {oq : Obj} (X : K.In s.heap) (I : InstAt s.heap x ox C (some oq)) (hga : findIn K (.ref C) "__getattribute__" = some (some (.builtin "tuple.__getattribute__")))
    (hm : mroIn K C (.type "tuple") = some true) (ha : findIn K (.ref C) name = some (some a)) (hg : specialIn K a "__get__" = some (some g)) (ht : takesIn K a = some true) (hk : findIn K (.ref C) "__getattr__" = some none)
    (h : wpAny (model prog w) A.in1 (call g [a, .ref x, .ref C]) (fun v s' => wpAny (model prog w) A (handedOut v) Q E s') (fun _ _ => False) { s with toks := s.toks + 1 }) :
    wpAny (model prog w) A (getAttr (.ref x) name expr) Q E s := get_bindT X I hga hm (findObj_data (cls_of_mro hm) ha hg ht) hk h
end


def InstEv (w : World) (news : List (Addr × Obj)) (x : Addr) (ox : Obj) (C : Addr) (od : Obj) : Prop :=
  ∀ (g : Heap) (L' : Addr) (h' : Heap) (m' : Str → Option Value), Fr g L' h' m' → News g L' h' news → (Mine.hd.heap_39 w.params).In g → InstAt h' x ox C (some od)
theorem InstEv.at {w : World} {news : List (Addr × Obj)} {x C : Addr} {ox od : Obj} {g : Heap} {L' : Addr} {h' : Heap} {m' : Str → Option Value} (hI : InstEv w news x ox C od) (F : Fr g L' h' m') (N : News g L' h' news) (X : (Mine.hd.heap_39 w.params).In g) : InstAt h' x ox C (some od) := hI g L' h' m' F N X
theorem instEv_N {w : World} {news : List (Addr × Obj)} {x C dx : Addr} {vs : List Value} {n : Nat} {sl : Array (Option Value)} {od : Obj} (h1 : (x, (⟨.ref C, some dx, .seq vs.toArray n, sl⟩ : Obj)) ∈ news) (h2 : (dx, od) ∈ news) : InstEv w news x ⟨.ref C, some dx, .seq vs.toArray n, sl⟩ C od :=
  fun _ _ _ _ _ N _ => ⟨(N _ h1).1, rfl, rfl, (N _ h2).1⟩
theorem instEv_K {w : World} {news : List (Addr × Obj)} {x C dx : Addr} {vs : List Value} {n : Nat} {sl : Array (Option Value)} {od : Obj} (h1 : (Mine.hd.heap_39 w.params).lookup x = some (⟨.ref C, some dx, .seq vs.toArray n, sl⟩ : Obj)) (h2 : (Mine.hd.heap_39 w.params).lookup dx = some od) : InstEv w news x ⟨.ref C, some dx, .seq vs.toArray n, sl⟩ C od :=
  fun _ _ _ _ F _ X => ⟨F.keep _ _ (X _ _ h1), rfl, rfl, F.keep _ _ (X _ _ h2)⟩
local macro_rules | `(tactic| walk_at "call type:type") => `(tactic| (k_here; k_dflt ((show wpAny _ _ (call (Value.type "type") [Value.ref _]) _ _ _); refine' kto_own (InstEv.at ?e ?F ?N ?X) ?_; (case e => assumption); (case F => k_asm); (case N => k_asm); (case X => k_asm); k_whole)))
local macro_rules | `(tactic| walk_at "call builtin:issubclass") => `(tactic| (k_here; k_dflt ((show wpAny _ _ (call (Value.builtin "issubclass") [Value.ref _, Value.type "tuple"]) _ _ _); refine' issub_call ?X ?m ?_; (case X => k_in); (case m => k_is); k_whole)))
local macro_rules | `(tactic| walk_at "call builtin:tuple.__getitem__") => `(tactic| (k_here; k_dflt ((show wpAny _ _ (call (Value.builtin "tuple.__getitem__") [Value.ref _, Value.int _ _]) _ _ _); refine' getitem_sub ?X (InstEv.at ?e ?F ?N ?Y) ?dd ?m ?a ?b ?kk ?yy ?_; (case e => assumption); (case F => k_asm); (case N => k_asm); (case Y => k_asm); (case dd => exact rfl); (case kk => exact rfl); (case yy => exact rfl); (case X => k_in); (case m => k_is); (case a => decide); (case b => decide); k_whole)))
theorem meta_tupleM : typeOf (.type "tuple") = pure (.type "type") := by kernel_rfl
local macro_rules | `(tactic| walk_at "getMethod type:tuple") => `(tactic| (k_here; refine' method_type ?F ?X ?m (by decide +kernel) ?e ?h ?_; (case F => k_asm); (case X => k_asm); (case m => exact meta_tupleM); (case e => k_dflt k_is); (case h => k_handed)))
set_option maxHeartbeats 4000000 in
theorem fieldW0 {w : World} {p : Program} {loose : List Str} {mean : ExcName → Option Value} {mg mb : Str → Option Value} {dp un : Nat} {gd : Option (List Code)} {cn : Str} {cs : Scope} {a : Addr} {ccd : Value} {cl : List (Str × Addr)} {outer : List Env} {A₀ : Around} {base h₀ : Heap} {L : Addr} {m : Str → Option Value} {s : Shared} {Q E : Value → Shared → Prop} {news : List (Addr × Obj)} {x dx : Addr} {v0 v1 : Value} {n : Nat} {sl : Array (Option Value)} {od : Obj} (B : Below A₀ base outer h₀) (F : Fr h₀ L s.heap m) (X : (Mine.hd.heap_39 w.params).In h₀) (N : News h₀ L s.heap news) (T : Top p loose mean mg mb h₀) (hk : cs.kind = .function) (hd : dp + 20 < recursionLimit) (hu : un + 100 < cLine)
    (hI : InstEv w news x ⟨.ref 132, some dx, .seq [v0, v1].toArray n, sl⟩ 132 od) (hv : handedIn v0 = true)
    (ret : ∀ h' tk', Fr h₀ L h' m → News h₀ L h' news → Q v0 { s with heap := h', toks := tk' }) :
    wpAny (model PG w) (ktrTop dp un gd cn cs L a ccd cl outer) (call (.ref 43)  [.ref 124, .ref x, .ref 132]) Q E s := by
  w_on
  revert X; (have hR : PySem.Challenge.rw_ji0057_01.name = PySem.Challenge.rw_ji0057_01.name := rfl); revert hR; k_fill; intro hR X; clear hR
  refine wpAny_call ?_
  k_dflt (walk_at "my enter")
  w_strict (k_steps; (all_goals (exact ret _ _ (by k_asm) (by k_asm))))
set_option maxHeartbeats 4000000 in
theorem attrW0 {w : World} {p : Program} {loose : List Str} {mean : ExcName → Option Value} {mg mb : Str → Option Value} {dp un : Nat} {gd : Option (List Code)} {cn : Str} {cs : Scope} {a : Addr} {ccd : Value} {cl : List (Str × Addr)} {outer : List Env} {A₀ : Around} {base h₀ : Heap} {L : Addr} {m : Str → Option Value} {s : Shared} {Q E : Value → Shared → Prop} {news : List (Addr × Obj)} {x dx : Addr} {v0 v1 : Value} {n : Nat} {sl : Array (Option Value)} {od : Obj} {expr : Bool} (B : Below A₀ base outer h₀) (F : Fr h₀ L s.heap m) (X : (Mine.hd.heap_39 w.params).In h₀) (N : News h₀ L s.heap news) (T : Top p loose mean mg mb h₀) (hk : cs.kind = .function) (hd : dp + 20 < recursionLimit) (hu : un + 101 < cLine)
    (hI : InstEv w news x ⟨.ref 132, some dx, .seq [v0, v1].toArray n, sl⟩ 132 od) (hv : handedIn v0 = true)
    (ret : ∀ h' tk', Fr h₀ L h' m → News h₀ L h' news → Q v0 { s with heap := h', toks := tk' }) :
    wpAny (model PG w) (ktrTop dp un gd cn cs L a ccd cl outer) (getAttr (.ref x) (Str.ofString "reset_time") expr) Q E s := by
  w_on
  revert X; (have hR : PySem.Challenge.rw_ji0057_01.name = PySem.Challenge.rw_ji0057_01.name := rfl); revert hR; k_fill; intro hR X; clear hR
  refine' get_fieldT (X.keeps F.keep) (InstEv.at hI F N X) ?ga ?m ?a ?g ?t ?k ?_
  (case ga => k_is)
  (case m => k_is)
  (case a => k_is)
  (case g => k_is)
  (case t => k_is)
  (case k => k_is)
  exact fieldW0 (un := un + 1) (s := { s with toks := s.toks + 1 }) B F X N T hk hd (by omega) hI hv (fun h' tk' F' N' => by rw [handedOut_of hv]; exact wpAny_pure (ret h' tk' F' N'))
set_option maxHeartbeats 4000000 in
theorem fieldW1 {w : World} {p : Program} {loose : List Str} {mean : ExcName → Option Value} {mg mb : Str → Option Value} {dp un : Nat} {gd : Option (List Code)} {cn : Str} {cs : Scope} {a : Addr} {ccd : Value} {cl : List (Str × Addr)} {outer : List Env} {A₀ : Around} {base h₀ : Heap} {L : Addr} {m : Str → Option Value} {s : Shared} {Q E : Value → Shared → Prop} {news : List (Addr × Obj)} {x dx : Addr} {v0 v1 : Value} {n : Nat} {sl : Array (Option Value)} {od : Obj} (B : Below A₀ base outer h₀) (F : Fr h₀ L s.heap m) (X : (Mine.hd.heap_39 w.params).In h₀) (N : News h₀ L s.heap news) (T : Top p loose mean mg mb h₀) (hk : cs.kind = .function) (hd : dp + 20 < recursionLimit) (hu : un + 100 < cLine)
    (hI : InstEv w news x ⟨.ref 132, some dx, .seq [v0, v1].toArray n, sl⟩ 132 od) (hv : handedIn v1 = true)
    (ret : ∀ h' tk', Fr h₀ L h' m → News h₀ L h' news → Q v1 { s with heap := h', toks := tk' }) :
    wpAny (model PG w) (ktrTop dp un gd cn cs L a ccd cl outer) (call (.ref 43)  [.ref 127, .ref x, .ref 132]) Q E s := by
  w_on
  revert X; (have hR : PySem.Challenge.rw_ji0057_01.name = PySem.Challenge.rw_ji0057_01.name := rfl); revert hR; k_fill; intro hR X; clear hR
  refine wpAny_call ?_
  k_dflt (walk_at "my enter")
  w_strict (k_steps; (all_goals (exact ret _ _ (by k_asm) (by k_asm))))
set_option maxHeartbeats 4000000 in
theorem attrW1 {w : World} {p : Program} {loose : List Str} {mean : ExcName → Option Value} {mg mb : Str → Option Value} {dp un : Nat} {gd : Option (List Code)} {cn : Str} {cs : Scope} {a : Addr} {ccd : Value} {cl : List (Str × Addr)} {outer : List Env} {A₀ : Around} {base h₀ : Heap} {L : Addr} {m : Str → Option Value} {s : Shared} {Q E : Value → Shared → Prop} {news : List (Addr × Obj)} {x dx : Addr} {v0 v1 : Value} {n : Nat} {sl : Array (Option Value)} {od : Obj} {expr : Bool} (B : Below A₀ base outer h₀) (F : Fr h₀ L s.heap m) (X : (Mine.hd.heap_39 w.params).In h₀) (N : News h₀ L s.heap news) (T : Top p loose mean mg mb h₀) (hk : cs.kind = .function) (hd : dp + 20 < recursionLimit) (hu : un + 101 < cLine)
    (hI : InstEv w news x ⟨.ref 132, some dx, .seq [v0, v1].toArray n, sl⟩ 132 od) (hv : handedIn v1 = true)
    (ret : ∀ h' tk', Fr h₀ L h' m → News h₀ L h' news → Q v1 { s with heap := h', toks := tk' }) :
    wpAny (model PG w) (ktrTop dp un gd cn cs L a ccd cl outer) (getAttr (.ref x) (Str.ofString "remaining") expr) Q E s := by
  w_on
  revert X; (have hR : PySem.Challenge.rw_ji0057_01.name = PySem.Challenge.rw_ji0057_01.name := rfl); revert hR; k_fill; intro hR X; clear hR
  refine' get_fieldT (X.keeps F.keep) (InstEv.at hI F N X) ?ga ?m ?a ?g ?t ?k ?_
  (case ga => k_is)
  (case m => k_is)
  (case a => k_is)
  (case g => k_is)
  (case t => k_is)
  (case k => k_is)
  exact fieldW1 (un := un + 1) (s := { s with toks := s.toks + 1 }) B F X N T hk hd (by omega) hI hv (fun h' tk' F' N' => by rw [handedOut_of hv]; exact wpAny_pure (ret h' tk' F' N'))
set_option maxHeartbeats 4000000 in
theorem fieldG0 {w : World} {p : Program} {loose : List Str} {mean : ExcName → Option Value} {mg mb : Str → Option Value} {dp un : Nat} {gd : Option (List Code)} {cn : Str} {cs : Scope} {a : Addr} {ccd : Value} {cl : List (Str × Addr)} {outer : List Env} {A₀ : Around} {base h₀ : Heap} {L : Addr} {m : Str → Option Value} {s : Shared} {Q E : Value → Shared → Prop} {news : List (Addr × Obj)} {x dx : Addr} {v0 v1 : Value} {n : Nat} {sl : Array (Option Value)} {od : Obj} (B : Below A₀ base outer h₀) (F : Fr h₀ L s.heap m) (X : (Mine.hd.heap_39 w.params).In h₀) (N : News h₀ L s.heap news) (T : Top p loose mean mg mb h₀) (hk : cs.kind = .function) (hd : dp + 20 < recursionLimit) (hu : un + 100 < cLine)
    (hI : InstEv w news x ⟨.ref 338, some dx, .seq [v0, v1].toArray n, sl⟩ 338 od) (hv : handedIn v0 = true)
    (ret : ∀ h' tk', Fr h₀ L h' m → News h₀ L h' news → Q v0 { s with heap := h', toks := tk' }) :
    wpAny (model PG w) (ktrTop dp un gd cn cs L a ccd cl outer) (call (.ref 242)  [.ref 330, .ref x, .ref 338]) Q E s := by
  w_on
  revert X; (have hR : PySem.Challenge.rw_ji0057_01.name = PySem.Challenge.rw_ji0057_01.name := rfl); revert hR; k_fill; intro hR X; clear hR
  refine wpAny_call ?_
  k_dflt (walk_at "my enter")
  w_strict (k_steps; (all_goals (exact ret _ _ (by k_asm) (by k_asm))))
set_option maxHeartbeats 4000000 in
theorem attrG0 {w : World} {p : Program} {loose : List Str} {mean : ExcName → Option Value} {mg mb : Str → Option Value} {dp un : Nat} {gd : Option (List Code)} {cn : Str} {cs : Scope} {a : Addr} {ccd : Value} {cl : List (Str × Addr)} {outer : List Env} {A₀ : Around} {base h₀ : Heap} {L : Addr} {m : Str → Option Value} {s : Shared} {Q E : Value → Shared → Prop} {news : List (Addr × Obj)} {x dx : Addr} {v0 v1 : Value} {n : Nat} {sl : Array (Option Value)} {od : Obj} {expr : Bool} (B : Below A₀ base outer h₀) (F : Fr h₀ L s.heap m) (X : (Mine.hd.heap_39 w.params).In h₀) (N : News h₀ L s.heap news) (T : Top p loose mean mg mb h₀) (hk : cs.kind = .function) (hd : dp + 20 < recursionLimit) (hu : un + 101 < cLine)
    (hI : InstEv w news x ⟨.ref 338, some dx, .seq [v0, v1].toArray n, sl⟩ 338 od) (hv : handedIn v0 = true)
    (ret : ∀ h' tk', Fr h₀ L h' m → News h₀ L h' news → Q v0 { s with heap := h', toks := tk' }) :
    wpAny (model PG w) (ktrTop dp un gd cn cs L a ccd cl outer) (getAttr (.ref x) (Str.ofString "seconds") expr) Q E s := by
  w_on
  revert X; (have hR : PySem.Challenge.rw_ji0057_01.name = PySem.Challenge.rw_ji0057_01.name := rfl); revert hR; k_fill; intro hR X; clear hR
  refine' get_fieldT (X.keeps F.keep) (InstEv.at hI F N X) ?ga ?m ?a ?g ?t ?k ?_
  (case ga => k_is)
  (case m => k_is)
  (case a => k_is)
  (case g => k_is)
  (case t => k_is)
  (case k => k_is)
  exact fieldG0 (un := un + 1) (s := { s with toks := s.toks + 1 }) B F X N T hk hd (by omega) hI hv (fun h' tk' F' N' => by rw [handedOut_of hv]; exact wpAny_pure (ret h' tk' F' N'))
set_option maxHeartbeats 4000000 in
theorem fieldG1 {w : World} {p : Program} {loose : List Str} {mean : ExcName → Option Value} {mg mb : Str → Option Value} {dp un : Nat} {gd : Option (List Code)} {cn : Str} {cs : Scope} {a : Addr} {ccd : Value} {cl : List (Str × Addr)} {outer : List Env} {A₀ : Around} {base h₀ : Heap} {L : Addr} {m : Str → Option Value} {s : Shared} {Q E : Value → Shared → Prop} {news : List (Addr × Obj)} {x dx : Addr} {v0 v1 : Value} {n : Nat} {sl : Array (Option Value)} {od : Obj} (B : Below A₀ base outer h₀) (F : Fr h₀ L s.heap m) (X : (Mine.hd.heap_39 w.params).In h₀) (N : News h₀ L s.heap news) (T : Top p loose mean mg mb h₀) (hk : cs.kind = .function) (hd : dp + 20 < recursionLimit) (hu : un + 100 < cLine)
    (hI : InstEv w news x ⟨.ref 338, some dx, .seq [v0, v1].toArray n, sl⟩ 338 od) (hv : handedIn v1 = true)
    (ret : ∀ h' tk', Fr h₀ L h' m → News h₀ L h' news → Q v1 { s with heap := h', toks := tk' }) :
    wpAny (model PG w) (ktrTop dp un gd cn cs L a ccd cl outer) (call (.ref 242)  [.ref 333, .ref x, .ref 338]) Q E s := by
  w_on
  revert X; (have hR : PySem.Challenge.rw_ji0057_01.name = PySem.Challenge.rw_ji0057_01.name := rfl); revert hR; k_fill; intro hR X; clear hR
  refine wpAny_call ?_
  k_dflt (walk_at "my enter")
  w_strict (k_steps; (all_goals (exact ret _ _ (by k_asm) (by k_asm))))
set_option maxHeartbeats 4000000 in
theorem attrG1 {w : World} {p : Program} {loose : List Str} {mean : ExcName → Option Value} {mg mb : Str → Option Value} {dp un : Nat} {gd : Option (List Code)} {cn : Str} {cs : Scope} {a : Addr} {ccd : Value} {cl : List (Str × Addr)} {outer : List Env} {A₀ : Around} {base h₀ : Heap} {L : Addr} {m : Str → Option Value} {s : Shared} {Q E : Value → Shared → Prop} {news : List (Addr × Obj)} {x dx : Addr} {v0 v1 : Value} {n : Nat} {sl : Array (Option Value)} {od : Obj} {expr : Bool} (B : Below A₀ base outer h₀) (F : Fr h₀ L s.heap m) (X : (Mine.hd.heap_39 w.params).In h₀) (N : News h₀ L s.heap news) (T : Top p loose mean mg mb h₀) (hk : cs.kind = .function) (hd : dp + 20 < recursionLimit) (hu : un + 101 < cLine)
    (hI : InstEv w news x ⟨.ref 338, some dx, .seq [v0, v1].toArray n, sl⟩ 338 od) (hv : handedIn v1 = true)
    (ret : ∀ h' tk', Fr h₀ L h' m → News h₀ L h' news → Q v1 { s with heap := h', toks := tk' }) :
    wpAny (model PG w) (ktrTop dp un gd cn cs L a ccd cl outer) (getAttr (.ref x) (Str.ofString "name") expr) Q E s := by
  w_on
  revert X; (have hR : PySem.Challenge.rw_ji0057_01.name = PySem.Challenge.rw_ji0057_01.name := rfl); revert hR; k_fill; intro hR X; clear hR
  refine' get_fieldT (X.keeps F.keep) (InstEv.at hI F N X) ?ga ?m ?a ?g ?t ?k ?_
  (case ga => k_is)
  (case m => k_is)
  (case a => k_is)
  (case g => k_is)
  (case t => k_is)
  (case k => k_is)
  exact fieldG1 (un := un + 1) (s := { s with toks := s.toks + 1 }) B F X N T hk hd (by omega) hI hv (fun h' tk' F' N' => by rw [handedOut_of hv]; exact wpAny_pure (ret h' tk' F' N'))

local macro_rules | `(tactic| walk_at "getAttr ref") => `(tactic| (k_here; k_dflt ((first | ((with_reducible show wpAny _ _ (getAttr (Value.ref _) (Str.ofString "seconds") _) _ _ _); apply attrG0) | ((with_reducible show wpAny _ _ (getAttr (Value.ref _) (Str.ofString "name") _) _ _ _); apply attrG1)); walk_at "use common"; (case hI => first | assumption | (refine' instEv_K ?l1 ?l2; (case l1 | l2 => k_is))); (case hv => rfl)); intro h9 tk9 F' N'; (try dsimp only)))
local macro_rules | `(tactic| walk_at "getAttr ref") => `(tactic| (k_here; k_dflt ((first | ((with_reducible show wpAny _ _ (getAttr (Value.ref _) (Str.ofString "reset_time") _) _ _ _); apply attrW0) | ((with_reducible show wpAny _ _ (getAttr (Value.ref _) (Str.ofString "remaining") _) _ _ _); apply attrW1)); walk_at "use common"; (case hI => first | assumption | exact instEv_N (by k_mem) (by k_mem)); (case hv => rfl)); intro h9 tk9 F' N'; (try dsimp only)))

section
variable {prog : Program} {w : World} {A A₀ : Around} {E : Value → Shared → Prop} {s : Shared} {K : Frag} {C L : Addr} {h₀ base : Heap} {m mg mb : Str → Option Value} {news : List (Addr × Obj)} {p : Program} {loose : List Str} {mean : ExcName → Option Value} {Q : Value → Shared → Prop}
/-- entering a def, and what stood outside the ledger stands behind it -/
theorem code_defG {env : Env} {outer : List Env} {R : Result → Shared → Prop} {name qual : Str} {params : Arguments} {body : List Stmt} {scope : Scope} {dV kV doc pm cdv ct oc : Value} {an od : Option Addr} {osl : Array (Option Value)} {f : Addr} {args : Args} {binds : List (Str × Value)}
    (B : Below A₀ base outer h₀) (F : Fr h₀ L s.heap m) (X₀ : K.In h₀) (N : News h₀ L s.heap news) (T : Top p loose mean mg mb h₀) (hA : A.frames = some (env :: outer)) (hf : env.frame = some L) (hke : env.scope.kind = .function)
    (ho : K.lookup f = some ⟨oc, od, .func (fnOf name qual params body scope dV kV doc pm an cdv ct), osl⟩) (hcd : codeIn K cdv qual = true) (hroom : A.depth < recursionLimit)
    (hbind : BindsTo s (fnOf name qual params body scope dV kV doc pm an cdv ct) args binds) (hloc : ∀ y ∈ binds, scope.names.lookup y.1 = some .local)
    (h : ∀ g L' h₁, Fr h₀ L g m → Fr g L' h₁ (fun y => binds.reverse.lookup y) → News g L' h₁ news → Below A base (env :: outer) g → K.In g → Top p loose mean mg mb g → (∀ b o, s.heap.get? b = some o → b ∉ news.map (·.1) → g.get? b = some o) →
      wpAny (model prog w) (A.deeper (envOf qual scope L' f cdv)) (execs body (envOf qual scope L' f cdv))
        (fun fl s' => LeaveK h₀ L m g (fun r s'' => (∀ b o, g.get? b = some o → s''.heap.get? b = some o) → R r s'') (match fl with | .ret v => v | _ => .none) s')
        (fun e s' => wpAny (model prog w) (A.deeper (envOf qual scope L' f cdv)) (leaving (envOf qual scope L' f cdv) e) (fun _ s'' => R (.error e) s'') (fun e' s'' => R (.error e') s'') s')
        { s with heap := h₁, toks := s.toks + binds.length })
    (hco : scope.isCoroutine = false) (hgen : scope.isGenerator = false) (hk : scope.kind = .function)
    (hcell : ∀ x ∈ scope.names, x.2 ≠ .cell) : codeAny (model prog w) A (.call (.ref f) args) R s := by
  have hlim := T.nolimit
  have ho' := (X₀.keeps F.keep) _ _ ho
  have hcd' := codeRec_of (X₀.keeps F.keep) hcd
  obtain ⟨FG, BG, st, lv⟩ := groundX (R := R) B F N hA hf hke
  refine codeAny_call_def (fd := fnX name qual params body scope [] dV kV doc pm an cdv ct) (body := body) (binds := binds) hroom ho' rfl (hlim.keeps F.keep) hcd' rfl hbind hcell hloc (fun h₁ hns hk₁ => ?_) hco hgen hk
  refine wpAny_mono (h _ s.heap.objs.size h₁ FG ⟨hns, fun b o e => hk₁ b o (of_hideAll _ e), Nat.le_of_eq (hideAll_size _ _)⟩
    (fun p hp => ⟨hk₁ _ _ (N p hp).1, Nat.ne_of_lt (Heap.lt_size (N p hp).1), hideAll_none _ (List.mem_map_of_mem hp)⟩) BG (X₀.keeps st) (T.keeps st) (fun b o e hn => hideAll_get _ e hn)) (fun fl s' hl => lv _ _ ?_) fun _ _ y => y
  obtain ⟨L', m', news', F', N', k⟩ := hl
  exact ⟨L', m', news', F', N', fun a b => k a b F'.keep⟩
theorem news_keep {h h' : Heap} (N : News h₀ L h news) (hk : ∀ b o, h.get? b = some o → h'.get? b = some o) : News h₀ L h' news := fun q hq => ⟨hk _ _ (N q hq).1, (N q hq).2⟩
/-- the whole stays: what stood outside, and the ledger's own entries -/
theorem all_stays {h h' g : Heap} {news' : List (Addr × Obj)} (N : News h₀ L h news) (N' : News h₀ L h' news') (hs : ∀ q ∈ news, q ∈ news') (h1 : ∀ b o, h.get? b = some o → b ∉ news.map (·.1) → g.get? b = some o) (h2 : ∀ b o, g.get? b = some o → h'.get? b = some o) :
    ∀ b o, h.get? b = some o → h'.get? b = some o := by
  intro b o e
  by_cases hb : b ∈ news.map (·.1)
  · obtain ⟨q, hq, rfl⟩ := List.mem_map.mp hb
    have := (N q hq).1
    rw [e] at this
    cases this
    exact (N' q (hs q hq)).1
  · exact h2 b o (h1 b o e hb)
end

local macro_rules | `(tactic| walk_at "my enterG") => `(tactic| (refine' code_defG ?k1 ?k2 ?k3 ?k4 ?k5 ?kA ?kF ?kK ?k6 ?k7 ?k8 ?k9 ?kB ?_ ?c2 ?c3 ?c4 ?c5; (case kA | kF => exact rfl); (case kK => assumption); (case k1 | k2 | k3 | k4 | k5 => k_asm); (case k6 | k7 => k_is); (case k8 => ktr_room); (case k9 => first | exact BindsTo.of_eq rfl | exact binds_K (by k_in) rfl (by k_is) rfl rfl rfl); (case c5 => decide); (case kB => exact locs rfl); (case c2 | c3 | c4 => exact rfl); k_whole; intro g' L' h' FG' F' N' B' X' T' hG'; (try dsimp only); (try k_lift B'); (try k_fold)))

abbrev tupK (its : Array Value) (k : Nat) : Obj := { cls := .type "tuple", data := .seq its k }
def TupSrc (prog : Program) (w : World) (A : Around) (h₀ : Heap) (L : Addr) (m : Str → Option Value) (env : Env) (elt : PySem.Expr) (x : Str) (scope : Scope) (cl : List (Str × Addr)) (Fin : Shared → List Value → List (Addr × Obj) → Prop) (xv : Value) (s₁ : Shared) : Prop :=
  ∃ ax its k news, xv = .ref ax ∧ A.handled = none ∧ Fr h₀ L s₁.heap m ∧ News h₀ L s₁.heap news ∧ (ax, tupK its k) ∈ news ∧ its.size ≤ sizeLine ∧
    ∀ s₂ : Shared, (∃ h, s₂ = { s₁ with heap := h }) → LCg.CompRest prog w A h₀ L m env elt x scope cl s₂ (fun nw => (ax, tupK its k) ∈ nw) (fun i v => its[i]? = some v) (Fin s₂) its.size 0 [] news
/-- a list comprehension over a tuple of the ledger -/
theorem comp_tup {prog : Program} {w : World} {A : Around} {E : Value → Shared → Prop} {s : Shared} {h₀ : Heap} {L : Addr} {m : Str → Option Value} {env : Env} {elt iter : PySem.Expr} {x : Str} {px : Pos} {scope : Scope} {cl : List (Str × Addr)} {pos : Pos} {Q : Value → Shared → Prop}
    (_F₀ : Fr h₀ L s.heap m) (hclos : closureFor scope env = pure cl) (hcell : ∀ y ∈ scope.names, y.2 ≠ .cell) (hkind : scope.kind = .function)
    (hnames : ∀ y ∈ scope.names, y.2 = .local → scope.names.lookup y.1 = some .local) (hx : scope.names.lookup x = some .local)
    (h : wpAny (model prog w) A (eval iter env) (TupSrc prog w A h₀ L m env elt x scope cl (fun s₂ => LCg.FinE h₀ L m s₂ Q)) E s)
    (hs : ∀ x, foldedSetIterable iter env x = pure x := by intro _; rfl) :
    wpAny (model prog w) A (eval (.ListComp elt [⟨.Name x px, iter, [], 0⟩] scope pos) env) Q E s := by
  rw [eval_ListComp]
  refine wpAny_comprehension_free (use := none) rfl hs hclos hkind hnames (wpAny_mono h (fun xv s₁ h₁ => ?_) fun _ _ e => e)
  obtain ⟨ax, its, k, news, rfl, hh, F, N, hm, hsz, R⟩ := h₁
  have ho := (N _ hm).1
  have hl : s₁.heap.IsTuple ax its := ⟨_, ho, rfl, k, rfl⟩
  have hlt : ax < s₁.heap.objs.size := Heap.lt_size ho
  have up : ∀ b o, s₁.heap.get? b = some o → (s₁.heap.push { cls := .type "tuple_iterator", data := .fields #[.ref ax, .int 0 0] }).get? b = some o := fun b o e => Heap.get?_push_of_some _ e
  refine wpAny_pyIter_tuple hl ?_
  refine LCg.block_U (Walks.tuple hh s₁.heap.objs.size ax (Nat.ne_of_lt hlt) its) hsz (fun i h st => by obtain ⟨o, e, _⟩ := st.1; exact ⟨o, e⟩) ?_ hcell hkind hx ⟨⟨_, Heap.get?_push_size _ rfl, rfl, rfl⟩, hl.at (up ax)⟩ (fun b hb => ?_)
    (F.keeps up) (N.grown up) (Nat.ne_of_lt F.ns.lt) (next_is_new F) (fun p hp => Nat.ne_of_lt (Heap.lt_size (N p hp).1)) hm (R _ ⟨_, rfl⟩) ?_
  · intro i h h' o nw st e e' _ Nw S
    refine ⟨?_, ⟨_, (Nw _ S).1, rfl, k, rfl⟩⟩
    obtain ⟨o', q, r⟩ := st.1
    rw [e] at q; cases q
    exact ⟨o, e', r⟩
  · rw [Heap.size_push]
    rcases List.mem_cons.mp hb with rfl | hb
    · exact Nat.lt_succ_self _
    · rw [List.mem_singleton.mp hb]; exact Nat.lt_succ_of_lt hlt
  · intro D C h tk m' ys news' F' N' o1 hn hC₀ hD₀ hCL hDL hCD offC fin
    refine ⟨m', hn, fun h'' hs'' => fin D h'' tk (F'.change hs'' hCL hC₀) (fun p hp => ?_) o1⟩
    refine ⟨hs''.extBut _ _ ?_ (N' p hp).1, (N' p hp).2⟩
    rcases List.mem_cons.mp hp with rfl | hp
    · exact Ne.symm hCD
    · exact offC p hp

local macro_rules | `(tactic| lcg_src) => `(tactic| ((try dsimp only); k_mem))
local macro_rules | `(tactic| walk_at "eval ListComp") => `(tactic| (k_here; lcg_look; k_dflt (refine' comp_tup ?F0 ?a ?b ?c ?d ?e ?_; (case F0 => k_asm); (case a => rfl); (case b => decide); (case c => rfl); (case d => decide); (case e => rfl))))
local macro_rules | `(tactic| walk_at "TupSrc") => `(tactic| (k_here; k_dflt (refine' ⟨_, _, _, _, rfl, ?a, ?b, ?c, ?d, ?e, ?_⟩; (case a => rfl); (case b | c => k_asm); (case d => k_mem); (case e => exact Nat.le_of_ble_eq_true rfl)); rintro s9 ⟨g9, e9⟩; subst e9; lcg_lit))

set_option maxHeartbeats 4000000 in
theorem expiry_spec {w : World} {p : Program} {loose : List Str} {mean : ExcName → Option Value} {mg mb : Str → Option Value} {dp un : Nat} {gd : Option (List Code)} {cn : Str} {cs : Scope} {a : Addr} {ccd : Value} {cl : List (Str × Addr)} {outer : List Env} {A₀ : Around} {base h₀ : Heap} {L : Addr} {m : Str → Option Value} {s : Shared} {Q E : Value → Shared → Prop} {news : List (Addr × Obj)} {x3 d3 : Addr} {t5 t6 t7 t8 tm tl : Tok} {most len : Int} (B : Below A₀ base outer h₀) (F : Fr h₀ L s.heap m) (X : (Mine.hd.heap_39 w.params).In h₀) (N : News h₀ L s.heap news) (T : Top p loose mean mg mb h₀) (hk : cs.kind = .function) (hd : dp + 30 < recursionLimit) (hu : un + 200 < cLine) (i1 : (x3, instObj 423 d3) ∈ news) (i2 : (d3, dictOf [⟨PySem.PyData.keyHash w.params (Str.ofString "namespace"), .str (Str.ofString "namespace") t5, .str (Str.ofString "LIMITER") t8⟩, ⟨PySem.PyData.keyHash w.params (Str.ofString "amount"), .str (Str.ofString "amount") t6, .int most tm⟩, ⟨PySem.PyData.keyHash w.params (Str.ofString "multiples"), .str (Str.ofString "multiples") t7, .int len tl⟩] 3) ∈ news) 
    (ret : ∀ t h' tk', Fr h₀ L h' m → News h₀ L h' news → Q (.int len t) { s with heap := h', toks := tk' }) :
    wpAny (model PG w) (ktrTop dp un gd cn cs L a ccd cl outer) (call (.ref 373)  [.ref x3]) Q E s := by
  w_on
  revert X; (have hR : PySem.Challenge.rw_ji0057_01.name = PySem.Challenge.rw_ji0057_01.name := rfl); revert hR; k_fill; intro hR X; clear hR
  refine wpAny_call ?_
  k_dflt (walk_at "my enter")
  w_strict (k_steps; (all_goals (rw [Int.one_mul]; exact ret _ _ _ (by k_asm) (by k_asm))))

-- an item's premises
local macro_rules | `(tactic| walk_at "call ref") => `(tactic| (k_here; (with_reducible show wpAny _ _ (call (Value.ref 373) _ _) _ _ _); k_dflt (apply expiry_spec; walk_at "use common"; (case i1 | i2 => k_mem)); intro t9 h9 tk9 F' N'; (try dsimp only)))

theorem text_len {n : Int} (h : n.natAbs < 1000) : (Str.ofString (toString n)).length ≤ 4 := by
  have e := int_text_length_le10 (a := n) (k := 3) (by decide) (by omega)
  rw [PySem.ofString_length]
  exact e
theorem key_weight {a b : Int} (ha : a.natAbs < 1000) (hb : b.natAbs < 1000) : ((([Str.ofString "ann", Str.ofString (toString a), Str.ofString (toString b), Str.ofString "second"] : List Str).map (·.length)).sum + ([Str.ofString "ann", Str.ofString (toString a), Str.ofString (toString b), Str.ofString "second"] : List Str).length) ≤ 1048576 := by
  have h1 := text_len ha
  have h2 := text_len hb
  have h3 : (Str.ofString "ann").length = 3 := by decide
  have h4 : (Str.ofString "second").length = 6 := by decide
  simp only [List.map_cons, List.map_nil, List.sum_cons, List.sum_nil, List.length_cons, List.length_nil, h3, h4]
  omega
theorem join_short {a b : Int} (ha : a.natAbs < 1000) (hb : b.natAbs < 1000) : (Txt.join (Str.ofString "/") [Str.ofString "ann", Str.ofString (toString a), Str.ofString (toString b), Str.ofString "second"]).length ≤ 60 := by
  show (PySem.Builtin.Str.glued (Str.ofString "/") _).length ≤ 60
  rw [StrLaws.glued_eq_join]
  refine Nat.le_trans (StrLaws.join_length_le _ _) ?_
  have h1 := text_len ha
  have h2 := text_len hb
  have h3 : (Str.ofString "ann").length = 3 := by decide
  have h4 : (Str.ofString "second").length = 6 := by decide
  have h5 : (Str.ofString "/").length = 1 := by decide
  simp only [List.map_cons, List.map_nil, List.sum_cons, List.sum_nil, List.length_cons, List.length_nil, h3, h4, h5]
  omega
theorem join4 {prog : Program} {w : World} {A : Around} {E : Value → Shared → Prop} {s : Shared} {t : Tok} {Q : Value → Shared → Prop} {D : Addr} {items : Array Value} {a b : Int} (hl : s.heap.IsList D items)
    (hi : StrsAre items.toList [Str.ofString "ann", Str.ofString (toString a), Str.ofString (toString b), Str.ofString "second"]) (ha : a.natAbs < 1000) (hb : b.natAbs < 1000)
    (h : ∀ jn, Txt.join (Str.ofString "/") [Str.ofString "ann", Str.ofString (toString a), Str.ofString (toString b), Str.ofString "second"] = jn → jn.length ≤ 60 → ∀ t' k, Q (.str jn t') { s with toks := k }) :
    wpAny (model prog w) A (call (.builtin "str.join") [.str (Str.ofString "/") t, .ref D]) Q E s :=
  join_listW hl hi (by decide +kernel) (key_weight ha hb) (h _ rfl (join_short ha hb))
local macro_rules | `(tactic| walk_at "call builtin:str.join") => `(tactic| (k_here; k_dflt ((show wpAny _ _ (call (Value.builtin "str.join") [Value.str _ _, Value.ref _]) _ _ _); refine' join4 (News.isList ?N ?m) ?hi ?ha ?hb ?_; (case N => k_asm); (case m => k_mem); (case hi => (repeat constructor)); (case ha => omega); (case hb => omega)); intro jn9 hjn9 hl9 _ _))
theorem line60 {x : Str} (h : x.length ≤ 60) : x.length ≤ sizeLine := Nat.le_trans h (by rw [sizeLine_eq]; omega)
theorem key_len {jn : Str} (h : jn.length ≤ 60) : (Str.empty ++ Str.ofString "LIMITER" ++ Str.ofString "/" ++ jn).length ≤ 100 := by
  simp only [Str.length_append]
  have h0 : Str.empty.length = 0 := rfl
  have h1 : (Str.ofString "LIMITER").length = 7 := by decide
  have h2 : (Str.ofString "/").length = 1 := by decide
  omega
theorem key_line {jn : Str} (h : jn.length ≤ 60) : (Str.empty ++ Str.ofString "LIMITER" ++ Str.ofString "/" ++ jn).length ≤ sizeLine :=
  Nat.le_trans (key_len h) (by rw [sizeLine_eq]; omega)
def keyOf (most len : Int) : Str := Str.empty ++ Str.ofString "LIMITER" ++ Str.ofString "/" ++ Txt.join (Str.ofString "/") [Str.ofString "ann", Str.ofString (toString most), Str.ofString (toString len), Str.ofString "second"]
theorem keyOf_len {most len : Int} (m0 : 1 ≤ most) (m9 : most ≤ 9) (l0 : 2 ≤ len) (l9 : len ≤ 8) : (keyOf most len).length ≤ 100 := key_len (join_short (by omega) (by omega))
local macro_rules | `(tactic| walk_at "formatField str") => `(tactic| (k_here; k_dflt (refine formatField_str ?_ (line60 (by assumption))); intro _ _))
local macro_rules | `(tactic| walk_at "joinParts") => `(tactic| (k_here; (first | (with_reducible show wpAny _ _ (joinParts _ []) _ _ _) | (with_reducible show wpAny _ _ (joinParts _ (evalEach [] _)) _ _ _)); k_dflt (refine joinParts_nil ?_ (key_line (by assumption)))))
set_option maxHeartbeats 4000000 in
theorem key_spec {w : World} {p : Program} {loose : List Str} {mean : ExcName → Option Value} {mg mb : Str → Option Value} {dp un : Nat} {gd : Option (List Code)} {cn : Str} {cs : Scope} {a : Addr} {ccd : Value} {cl : List (Str × Addr)} {outer : List Env} {A₀ : Around} {base h₀ : Heap} {L : Addr} {m : Str → Option Value} {s : Shared} {Q E : Value → Shared → Prop} {news : List (Addr × Obj)} {x3 d3 : Addr} {t5 t6 t7 t8 tm tl : Tok} {most len : Int} {nm : Addr} {tA : Tok} {n : Nat} (hnews : news = [(nm, ({ cls := .type "tuple", data := .seq [.str (Str.ofString "ann") tA].toArray n } : Obj)), (x3, instObj 423 d3), (d3, dictOf [⟨PySem.PyData.keyHash w.params (Str.ofString "namespace"), .str (Str.ofString "namespace") t5, .str (Str.ofString "LIMITER") t8⟩, ⟨PySem.PyData.keyHash w.params (Str.ofString "amount"), .str (Str.ofString "amount") t6, .int most tm⟩, ⟨PySem.PyData.keyHash w.params (Str.ofString "multiples"), .str (Str.ofString "multiples") t7, .int len tl⟩] 3)])
    (B : Below A₀ base outer h₀) (F : Fr h₀ L s.heap m) (X : (Mine.hd.heap_39 w.params).In h₀) (N : News h₀ L s.heap news) (T : Top p loose mean mg mb h₀) (hk : cs.kind = .function) (hd : dp + 30 < recursionLimit) (hu : un + 300 < cLine) (m0 : 1 ≤ most) (m9 : most ≤ 9) (l0 : 2 ≤ len) (l9 : len ≤ 8)
    (ret : ∀ t h' tk', Fr h₀ L h' m → (∀ b o, s.heap.get? b = some o → h'.get? b = some o) → Q (.str (keyOf most len) t) { s with heap := h', toks := tk' }) :
    wpAny (model PG w) (ktrTop dp un gd cn cs L a ccd cl outer) (call (.ref 380)  [.ref x3, .ref nm]) Q E s := by
  subst hnews
  w_on
  revert X; (have hR : PySem.Challenge.rw_ji0057_01.name = PySem.Challenge.rw_ji0057_01.name := rfl); revert hR; k_fill; intro hR X; clear hR
  refine wpAny_call ?_
  k_dflt (walk_at "my enterG")
  w_strict (k_steps; (all_goals first | exact key_line (by assumption) | (subst_vars; exact ret _ _ _ (by k_asm) (all_stays N (by k_asm) (by lcg_sub) (by assumption) (by assumption)))))

local macro_rules | `(tactic| walk_at "call ref") => `(tactic| (k_here; (with_reducible show wpAny _ _ (call (Value.ref 380) _ _) _ _ _); k_dflt (apply key_spec rfl; walk_at "use commonZ"; (case N => (refine cb_drop (by k_asm) ?_; lcg_sub)); (case m0 | m9 | l0 | l9 => assumption)); intro t9 h9 tk9 F' hk9; (rename News _ _ _ _ => N9); (have N' := news_keep N9 hk9); (try dsimp only)))

set_option maxHeartbeats 4000000 in
theorem hit_spec {w : World} {p : Program} {loose : List Str} {mean : ExcName → Option Value} {mg mb : Str → Option Value} {dp un : Nat} {gd : Option (List Code)} {cn : Str} {cs : Scope} {a : Addr} {ccd : Value} {cl : List (Str × Addr)} {outer : List Env} {A₀ : Around} {base h₀ : Heap} {L : Addr} {m : Str → Option Value} {s : Shared} {Q E : Value → Shared → Prop} {news : List (Addr × Obj)} {x1 d1 ds de dv f cell nl cq : Addr} {fo co oq os oe : Obj} {t1 t2 t3 t4 tn : Tok} {now : Int} {kvs kve : List (Str × Value)} {c1 c2 : List (Str × Int)} {x3 d3 : Addr} {t5 t6 t7 t8 tm tl : Tok} {most len : Int} {x2 d2 : Addr} {u1 : Tok} {nm : Addr} {tA ta : Tok} {n : Nat} {amt : Int} {rest : List (Addr × Obj)} (hnews : news = (ds, os) :: (de, oe) :: rest) (r1 : ∀ p ∈ rest, p.1 ≠ ds) (r2 : ∀ p ∈ rest, p.1 ≠ de) (r3 : @Ne Nat ds de)
    (B : Below A₀ base outer h₀) (F : Fr h₀ L s.heap m) (X : (Mine.hd.heap_39 w.params).In h₀) (N : News h₀ L s.heap news) (T : Top p loose mean mg mb h₀) (hk : cs.kind = .function) (hd : dp + 40 < recursionLimit) (hu : un + 500 < cLine) (hC : ClockSpec w p loose mean mg mb f cell nl cq fo co oq) (n1 : (x1, instObj 568 d1) ∈ rest) (n2 : (d1, dictOf [⟨PySem.PyData.keyHash w.params (Str.ofString "clock"), .str (Str.ofString "clock") t1, .ref f⟩, ⟨PySem.PyData.keyHash w.params (Str.ofString "storage"), .str (Str.ofString "storage") t2, .ref ds⟩, ⟨PySem.PyData.keyHash w.params (Str.ofString "expirations"), .str (Str.ofString "expirations") t3, .ref de⟩, ⟨PySem.PyData.keyHash w.params (Str.ofString "events"), .str (Str.ofString "events") t4, .ref dv⟩] 4) ∈ rest) (n5 : (f, fo) ∈ rest) (n6 : (cell, co) ∈ rest) (n7 : (nl, listOf #[.int now tn] 0) ∈ rest) (n8 : (cq, oq) ∈ rest) (ls : (ds == sysModules) = false) (le : (de == sysModules) = false) (hs : os.IsDictOf (strKind PG w) kvs) (fs : FlatPairs PyData.str kvs (kdpD c1)) (he : oe.IsDictOf (strKind PG w) kve) (fe : FlatPairs PyData.str kve (kdpD c2)) (i1 : (x3, instObj 423 d3) ∈ rest) (i2 : (d3, dictOf [⟨PySem.PyData.keyHash w.params (Str.ofString "namespace"), .str (Str.ofString "namespace") t5, .str (Str.ofString "LIMITER") t8⟩, ⟨PySem.PyData.keyHash w.params (Str.ofString "amount"), .str (Str.ofString "amount") t6, .int most tm⟩, ⟨PySem.PyData.keyHash w.params (Str.ofString "multiples"), .str (Str.ofString "multiples") t7, .int len tl⟩] 3) ∈ rest) (m1 : (x2, instObj 218 d2) ∈ rest) (m2 : (d2, dictOf [⟨PySem.PyData.keyHash w.params (Str.ofString "storage"), .str (Str.ofString "storage") u1, .ref x1⟩] 1) ∈ rest) (i3 : (nm, tupK [.str (Str.ofString "ann") tA].toArray n) ∈ rest)
    (ok1 : KeyOk c1 c2 (kx (keyOf most len) (Int.fdiv (now - len) len)) now) (ok2 : KeyOk c1 c2 (kx (keyOf most len) (Int.fdiv now len)) now) (z1 : c1.length ≤ 1000) (z2 : c2.length ≤ 1000)
    (h0 : 1000000 ≤ now) (h9 : now ≤ 2000000000) (m0 : 1 ≤ most) (m9 : most ≤ 9) (l0 : 2 ≤ len) (l9 : len ≤ 8)
    (p0 : 0 ≤ kdpLook c1 (kx (keyOf most len) (Int.fdiv (now - len) len)) 0) (p9 : kdpLook c1 (kx (keyOf most len) (Int.fdiv (now - len) len)) 0 ≤ 9) (q0 : 0 ≤ kdpLook c1 (kx (keyOf most len) (Int.fdiv now len)) 0) (q9 : kdpLook c1 (kx (keyOf most len) (Int.fdiv now len)) 0 ≤ 9)
    (retF : (most < amt ∨ most < weighed c1 (keyOf most len) len now + amt) → ∀ h' tk', Fr h₀ L h' m → News h₀ L h' ((ds, os) :: (de, oe) :: rest) → Q (.bool false) { s with heap := h', toks := tk' })
    (retT : amt ≤ most → weighed c1 (keyOf most len) len now + amt ≤ most → ∀ os' oe' kvs' kve' c2' h' tk', os'.IsDictOf (strKind PG w) kvs' → FlatPairs PyData.str kvs' (kdpD (kdpPut c1 (kx (keyOf most len) (Int.fdiv now len)) (kdpLook c1 (kx (keyOf most len) (Int.fdiv now len)) 0 + amt))) → oe'.IsDictOf (strKind PG w) kve' → FlatPairs PyData.str kve' (kdpD c2') →
      c2' = (if kdpLook c1 (kx (keyOf most len) (Int.fdiv now len)) 0 = 0 then kdpPut c2 (kx (keyOf most len) (Int.fdiv now len)) (now + 2 * len) else c2) → Fr h₀ L h' m → News h₀ L h' ((ds, os') :: (de, oe') :: rest) → Q (.bool true) { s with heap := h', toks := tk' }) :
    wpAny (model PG w) (ktrTop dp un gd cn cs L a ccd cl outer) (call (.ref 188)  [.ref x2, .ref x3, .ref nm, .int amt ta]) Q E s := by
  subst hnews
  have hlen := keyOf_len m0 m9 l0 l9
  w_on
  revert X; (have hR : PySem.Challenge.rw_ji0057_01.name = PySem.Challenge.rw_ji0057_01.name := rfl); revert hR; k_fill; intro hR X; clear hR
  refine wpAny_call ?_
  k_dflt (walk_at "my enter")
  w_strict (k_steps; (all_goals first
    | (refine' retF ?e1 _ _ ?e2 ?e3; (case e2 => k_asm); (case e3 => k_asm); (case e1 => assumption))
    | (refine' retT ?e8 ?e9 _ _ _ _ _ _ _ ?e1 ?e2 ?e3 ?e4 ?e5 ?e6 ?e7; (case e6 => k_asm); (case e7 => k_asm); (case e1 => assumption); (case e2 => assumption); (case e3 => assumption); (case e4 => assumption); (case e5 => assumption); (case e8 => assumption); (case e9 => assumption))))


set_option maxHeartbeats 4000000 in
theorem test_spec {w : World} {p : Program} {loose : List Str} {mean : ExcName → Option Value} {mg mb : Str → Option Value} {dp un : Nat} {gd : Option (List Code)} {cn : Str} {cs : Scope} {a : Addr} {ccd : Value} {cl : List (Str × Addr)} {outer : List Env} {A₀ : Around} {base h₀ : Heap} {L : Addr} {m : Str → Option Value} {s : Shared} {Q E : Value → Shared → Prop} {news : List (Addr × Obj)} {x1 d1 ds de dv f cell nl cq : Addr} {fo co oq os oe : Obj} {t1 t2 t3 t4 tn : Tok} {now : Int} {kvs kve : List (Str × Value)} {c1 c2 : List (Str × Int)} {x3 d3 : Addr} {t5 t6 t7 t8 tm tl : Tok} {most len : Int} {x2 d2 : Addr} {u1 : Tok} {nm : Addr} {tA ta : Tok} {n : Nat} {cost : Int}
    (B : Below A₀ base outer h₀) (F : Fr h₀ L s.heap m) (X : (Mine.hd.heap_39 w.params).In h₀) (N : News h₀ L s.heap news) (T : Top p loose mean mg mb h₀) (hk : cs.kind = .function) (hd : dp + 40 < recursionLimit) (hu : un + 500 < cLine) (hC : ClockSpec w p loose mean mg mb f cell nl cq fo co oq) (n1 : (x1, instObj 568 d1) ∈ news) (n2 : (d1, dictOf [⟨PySem.PyData.keyHash w.params (Str.ofString "clock"), .str (Str.ofString "clock") t1, .ref f⟩, ⟨PySem.PyData.keyHash w.params (Str.ofString "storage"), .str (Str.ofString "storage") t2, .ref ds⟩, ⟨PySem.PyData.keyHash w.params (Str.ofString "expirations"), .str (Str.ofString "expirations") t3, .ref de⟩, ⟨PySem.PyData.keyHash w.params (Str.ofString "events"), .str (Str.ofString "events") t4, .ref dv⟩] 4) ∈ news) (n5 : (f, fo) ∈ news) (n6 : (cell, co) ∈ news) (n7 : (nl, listOf #[.int now tn] 0) ∈ news) (n8 : (cq, oq) ∈ news) (ls : (ds == sysModules) = false) (le : (de == sysModules) = false) (hs : os.IsDictOf (strKind PG w) kvs) (fs : FlatPairs PyData.str kvs (kdpD c1)) (he : oe.IsDictOf (strKind PG w) kve) (fe : FlatPairs PyData.str kve (kdpD c2)) (n3 : (ds, os) ∈ news) (n4 : (de, oe) ∈ news) (i1 : (x3, instObj 423 d3) ∈ news) (i2 : (d3, dictOf [⟨PySem.PyData.keyHash w.params (Str.ofString "namespace"), .str (Str.ofString "namespace") t5, .str (Str.ofString "LIMITER") t8⟩, ⟨PySem.PyData.keyHash w.params (Str.ofString "amount"), .str (Str.ofString "amount") t6, .int most tm⟩, ⟨PySem.PyData.keyHash w.params (Str.ofString "multiples"), .str (Str.ofString "multiples") t7, .int len tl⟩] 3) ∈ news) (m1 : (x2, instObj 218 d2) ∈ news) (m2 : (d2, dictOf [⟨PySem.PyData.keyHash w.params (Str.ofString "storage"), .str (Str.ofString "storage") u1, .ref x1⟩] 1) ∈ news) (i3 : (nm, tupK [.str (Str.ofString "ann") tA].toArray n) ∈ news)
    (ok1 : KeyOk c1 c2 (kx (keyOf most len) (Int.fdiv (now - len) len)) now) (ok2 : KeyOk c1 c2 (kx (keyOf most len) (Int.fdiv now len)) now)
    (h0 : 1000000 ≤ now) (h9 : now ≤ 2000000000) (m0 : 1 ≤ most) (m9 : most ≤ 9) (l0 : 2 ≤ len) (l9 : len ≤ 8)
    (p0 : 0 ≤ kdpLook c1 (kx (keyOf most len) (Int.fdiv (now - len) len)) 0) (p9 : kdpLook c1 (kx (keyOf most len) (Int.fdiv (now - len) len)) 0 ≤ 9) (q0 : 0 ≤ kdpLook c1 (kx (keyOf most len) (Int.fdiv now len)) 0) (q9 : kdpLook c1 (kx (keyOf most len) (Int.fdiv now len)) 0 ≤ 9)
    (g0 : -100 ≤ cost) (g9 : cost ≤ 100)
    (ret : ∀ h' tk', Fr h₀ L h' m → News h₀ L h' news → Q (.bool (decide (weighed c1 (keyOf most len) len now < most - cost + 1))) { s with heap := h', toks := tk' }) :
    wpAny (model PG w) (ktrTop dp un gd cn cs L a ccd cl outer) (call (.ref 197)  [.ref x2, .ref x3, .ref nm, .int cost ta]) Q E s := by
  have hlen := keyOf_len m0 m9 l0 l9
  w_on
  revert X; (have hR : PySem.Challenge.rw_ji0057_01.name = PySem.Challenge.rw_ji0057_01.name := rfl); revert hR; k_fill; intro hR X; clear hR
  refine wpAny_call ?_
  k_dflt (walk_at "my enter")
  w_strict (k_steps; (all_goals ((rename (_ = ttl _ _ _) => hpt); subst hpt; exact ret _ _ (by k_asm) (by walk_at "use sub"))))


theorem best_tuple : Builtin.Slots.bestBase [.type "tuple"] = pure (.type "tuple") := by first | rfl | kernel_rfl
theorem tn_split : splitId "tuple.__new__" = some ("tuple", "__new__") := by decide +kernel
theorem tn_kind : builtinKind "tuple.__new__" = some .builtinFn := by decide +kernel
theorem tn_init : typeLookup (.type "tuple") "__init__" = pure (some (.builtin "object.__init__")) := init_tuple_lookup
def tupSubIn (K : Frag) (C : Addr) : Bool := match K.lookup C with
  | some ⟨_, _, .cls cd, sl⟩ => !cd.hasDel && (sl.toList[4]?).join == some .none && cd.mro == [.ref C, .type "tuple", .type "object"] && cd.bases == [.type "tuple"] &&
      specialIn K (.ref C) "__call__" == some (some (.builtin "type.__call__")) && instIn K (.ref C) (.type "type") == some true && findIn K (.ref C) "__init__" == some (some (.builtin "object.__init__"))
  | _ => false
structure TupSub (M : Model) (h : Heap) (C : Addr) : Prop where
  obj : ∃ oc od cd sl, h.get? C = some ⟨oc, od, .cls cd, sl⟩ ∧ cd.hasDel = false ∧ cd.mro.isEmpty = false
  mro : Looks M h (mroOf (.ref C)) [.ref C, .type "tuple", .type "object"]
  made : Looks M h (Bind.madeBy (.ref C)) none
  base : Looks M h (Bind.staticBase (.ref C)) (.type "tuple")
  self : Looks M h (isSubtype (.ref C) (.ref C)) true
  top : Looks M h (isSubtype (.ref C) (.type "object")) true
  tup : Looks M h (isSubtype (.ref C) (.type "tuple")) true
  call : Looks M h (specialOf (.ref C) "__call__") (some (.builtin "type.__call__"))
  typ : Looks M h (isInstance (.ref C) (.type "type")) true
  init : Looks M h (typeLookup (.ref C) "__init__") (some (.builtin "object.__init__"))
theorem tupSub_of {K : Frag} {M : Model} {h : Heap} (X : K.In h) {C : Addr} (e : tupSubIn K C = true) : TupSub M h C := by
  unfold tupSubIn at e
  split at e
  · rename_i oc od cd sl ho
    simp only [Bool.and_eq_true, Bool.not_eq_true', beq_iff_eq] at e
    obtain ⟨⟨⟨⟨⟨⟨e1, e2⟩, e3⟩, e4⟩, e5⟩, e6⟩, e7⟩ := e
    have hc : clsIn K C = some cd := by unfold clsIn; rw [ho]
    have ne : cd.mro.isEmpty = false := by rw [e3]; rfl
    have hm : Looks M h (mroOf (.ref C)) [.ref C, .type "tuple", .type "object"] := e3 ▸ (looks_clsIn X hc).andThen .now
    have made : Looks M h (Bind.madeBy (.ref C)) none := by
      intro A Q E s k q
      unfold Bind.madeBy
      refine wpAny_bind (hm A _ E s k ?_)
      rw [List.forIn_cons]
      refine wpAny_bind (wpAny_bind (wpAny_bind (wpAny_bind (wpAny_loadPart (k _ _ (X _ _ ho)) (wpAny_pure ?_)))))
      dsimp only
      rw [← Array.getElem?_toList, e2]
      exact wpAny_pure (wpAny_pure (wpAny_pure q))
    have hs : ∀ b, (cd.mro.contains b) = true → Looks M h (isSubtype (.ref C) b) true := fun b hb => looks_mroIn X (by unfold mroIn; rw [hc, Option.bind_some, if_neg (by rw [ne]; decide), hb])
    refine ⟨⟨oc, od, cd, sl, X _ _ ho, e1, ne⟩, hm, made, ?_, hs _ (by rw [e3]; simp), hs _ (by rw [e3]; simp), hs _ (by rw [e3]; simp), looks_specialIn X e5, looks_instIn X e6, looks_findIn X e7⟩
    intro A Q E s k q
    unfold Bind.staticBase
    refine wpAny_bind (hm A _ E s k ?_)
    rw [List.forIn_cons]
    refine wpAny_bind (wpAny_bind (wpAny_bind (made A _ E s k ?_)))
    have hb : Looks M h (classData C) cd := looks_clsIn X hc
    dsimp only [Option.isSome]
    rw [if_neg Bool.false_ne_true]
    refine wpAny_bind (hb A _ E s k ?_)
    rw [e4, best_tuple]
    refine wpAny_bind (wpAny_pure (wpAny_pure ?_))
    dsimp only
    rw [List.forIn_cons]
    refine wpAny_bind (wpAny_bind ?_)
    dsimp only
    rw [F.called_tuple.made]
    exact wpAny_pure (wpAny_pure (wpAny_pure (wpAny_pure q)))
  · cases e

theorem tn_args (a b : Value) (sig : Manifest.Signature) (hs : Manifest.signature? "tuple.__new__" = some sig) : Bind.checkArgs "tuple.__new__" sig ⟨[a, b], []⟩ = pure () := by
  have : sig = ((Manifest.signature? "tuple.__new__").get (by decide +kernel)) := by simp only [hs, Option.get_some]
  subst this
  kernel_rfl
section
variable {prog : Program} {w : World} {A : Around} {K : Frag} {C : Addr} {R : Result → Shared → Prop} {h : Heap} {g : Array GenState} {d : Drawn} {t : Nat} {os : OsState}
theorem new_tup {l : Addr} {o : Obj} {items : Array Value} {n : Nat} (Y : TupSub (model prog w) h C) (ho : h.get? l = some o) (hc : o.cls = .type "tuple") (hd : o.data = .seq items n) (hsz : items.size ≤ sizeLine)
    (hq : ∀ h' : Heap, (∀ b o', h.get? b = some o' → h'.get? b = some o') → R (.ok (.ret (.ref (h'.objs.size + 1)))) ⟨(h'.push emptyDict).push ⟨.ref C, some h'.objs.size, .seq items 0, #[]⟩, g, d, t, os⟩) :
    codeAny (model prog w) A (.call (.builtin "tuple.__new__") ⟨[.ref C, .ref l], []⟩) R ⟨h, g, d, t, os⟩ := by
  obtain ⟨⟨oc, od, cd, sl, hC, e1, e4⟩, mro, made, base, self, top, tup, call, typ, init⟩ := Y
  have made2 := F.called_tuple.made
  refine codeAny_call_builtin_code (Code.quiet_builtin _ (by decide +kernel)) ?_
  simp only [checkBuiltinCall, tn_kind, tn_split]
  have here : Looks (model prog w) h (Bind.madeHere "tuple.__new__" (.ref C)) () := base.andThen (by rw [made2]; exact Looks.of_pure (by simp only [pure_bind, Option.map_some, bne_self_eq_false, Bool.false_eq_true, if_false]))
  have isT : Looks (model prog w) h (isType (.ref C)) true := by (unfold isType; exact (Looks.ld (part := some .none) hC).andThen .now)
  cases hsig : Manifest.signature? "tuple.__new__" with
  | none => exact absurd hsig (by decide +kernel)
  | some sig =>
    have hargs := tn_args (.ref C) (.ref l) sig hsig
    repeat (first | rw [hargs] | rw [made2] | simp only [bne_self_eq_false, Bool.false_eq_true, if_false, Bool.not_true, beq_self_eq_true, if_true] | lk)
    refine codeAny_builtin F.entry_tuple_new ?_
    unfold Builtin.«tuple.__new__»
    have hbi : (some (Value.builtin "object.__init__") == some (Value.builtin "object.__init__")) = true := by decide +kernel
    have ht : Looks (model prog w) h (Builtin.Tuple.tupleIsExact (.ref l)) true := by (unfold Builtin.Tuple.tupleIsExact; exact ((Looks.ld (part := none) ho).andThen .now).andThen (Looks.of_pure (by rw [hc]; rfl)))
    have hcol : ∀ {A' : Around} {E' : Value → Shared → Prop} {Q' : List Value → Shared → Prop}, (∀ h', (∀ b o', h.get? b = some o' → h'.get? b = some o') → Q' items.toList ⟨h', g, d, t, os⟩) → wpAny (model prog w) A' (collect (.ref l)) Q' E' ⟨h, g, d, t, os⟩ := fun hQ => wpAny_collect_seq l (.inr rfl) ho hc hd hQ hsz
    repeat ((fail_if_success (with_reducible show wpAny _ _ (collect _) _ _ _)); (first | rw [hbi] | simp only [bne_self_eq_false, Bool.false_eq_true, if_false, Bool.not_true, beq_self_eq_true, if_true] | lk))
    refine hcol fun h' k => ?_
    have hC' := Heap.get?_push_of_some (⟨.ref C, some h'.objs.size, .seq items 0, #[]⟩ : Obj) (Heap.get?_push_of_some emptyDict (k _ _ hC))
    show wpAny _ _ (alloc emptyDict >>= fun x => newObj (.ref C) (.seq items.toList.toArray) (some x) >>= fun v => ret v) _ _ _
    rw [Array.toArray_toList]
    refine wpAny_bind (wpAny_alloc (wpAny_bind ?_))
    unfold newObj newObjAsIs classHasDel
    dsimp only
    rw [if_neg (Nat.not_lt.mpr hsz)]
    refine wpAny_bind (wpAny_alloc (wpAny_bind (wpAny_bind (wpAny_load hC' (wpAny_pure ?_)))))
    rw [e1]
    refine wpAny_pure (wpAny_pure ?_)
    show R _ _
    rw [Heap.size_push]
    exact hq h' k
end
theorem oi_args3 (a b c : Value) : argsOk "object.__init__" ⟨[a, b, c], []⟩ := by unfold argsOk; kernel_rfl
section
variable {prog : Program} {w : World} {A A₀ : Around} {E : Value → Shared → Prop} {s : Shared} {K : Frag} {C L : Addr} {h₀ base : Heap} {m mg mb : Str → Option Value} {news : List (Addr × Obj)} {Q : Value → Shared → Prop}
theorem new_tupK {l : Addr} {vs : List Value} {n : Nat} (F : Fr h₀ L s.heap m) (X : K.In h₀) (N : News h₀ L s.heap news) (hm : tupSubIn K C = true) (hl : (l, tupK vs.toArray n) ∈ news) (hsz : vs.toArray.size ≤ sizeLine)
    (hq : ∀ x dx h', Fr h₀ L h' m → News h₀ L h' ((x, (⟨.ref C, some dx, .seq vs.toArray 0, #[]⟩ : Obj)) :: (dx, dictOf [] 0) :: news) → Q (.ref x) { s with heap := h' }) :
    wpAny (model prog w) A (call (.builtin "tuple.__new__") [.ref C, .ref l]) Q E s := by
  obtain ⟨hh, g, d, t, os⟩ := s
  refine wpAny_call (new_tup (tupSub_of (X.keeps F.keep) hm) (N _ hl).1 rfl rfl hsz fun h' k => ?_)
  have F' : Fr h₀ L h' m := F.after k
  have N' : News h₀ L h' news := news_keep N k
  have z := (N'.push F' emptyDict).push (F'.push _) (⟨.ref C, some h'.objs.size, .seq vs.toArray 0, #[]⟩ : Obj)
  rw [Heap.size_push] at z
  exact hq _ h'.objs.size _ ((F'.push _).push _) z
theorem make_tup {a b : Value} {fN : Addr} (X : K.In s.heap) (hm : tupSubIn K C = true)
    (hg : ∀ {A' : Around} {E' Q' : Value → Shared → Prop}, Q' (.ref fN) { s with toks := s.toks + 1 } → wpAny (model prog w) A' (getAttr (.ref C) "__new__") Q' E' s)
    (hq : wpAny (model prog w) (A.under (.builtin "type.__call__" ⟨[.ref C, a, b], []⟩)) (call (.ref fN) [.ref C, a, b]) (fun v s' => ∃ x ox od, v = .ref x ∧ InstAt s'.heap x ox C od ∧ K.In s'.heap ∧ Q (.ref x) s') E { s with toks := s.toks + 1 }) :
    wpAny (model prog w) A (call (.ref C) [a, b]) Q E s := by
  obtain ⟨h, g, d, t, os⟩ := s
  obtain ⟨⟨oc, od, cd, sl, hC, e1, e4⟩, mro, made, base, self, top, tup, call, typ, init⟩ := tupSub_of (M := model prog w) X hm
  refine wpAny_call (codeAny_of_tree ?_)
  show wpAny _ _ (callAny (.ref C) _) _ _ _
  refine nd_load hC ?_
  show wpAny _ _ (callAny.viaDunder (.ref C) _) _ _ _
  unfold callAny.viaDunder
  refine wpAny_bind (call.at ?_)
  dsimp only
  rw [tc_bind]
  refine wpAny_bind (wpAny_pure (wpAny_bind (wpAny_pure ?_)))
  refine wpAny_pure (a := Fin.again (.call (.builtin "type.__call__") ⟨[.ref C, a, b], []⟩)) (And.intro rfl ?_)
  refine codeAny_call_builtin_at (Code.quiet_builtin _ (by decide +kernel)) entry_typeCall (check_slot tc_kind tc_split typ (tc_args _ _ _) ?_)
  unfold Builtin.«type.__call__»
  repeat ((fail_if_success (with_reducible show wpAny _ _ (getAttr _ _ _) _ _ _)); (first | simp only [List.isEmpty_cons, Bool.false_eq_true, if_false] | lk))
  refine hg ?_
  refine wpAny_bind (wpAny_holding (wpAny_mono hq (fun v s' z => ?_) fun _ _ z => z))
  obtain ⟨x, ox, od', rfl, I, X', hQ⟩ := z
  obtain ⟨⟨oc', odd', cd', sl', hC', e1', e4'⟩, mro', made', base', self', top', tup', call', typ', init'⟩ := tupSub_of (M := model prog w) X' hm
  obtain ⟨h', g', d', t', os'⟩ := s'
  have t1 := I.type (M := model prog w)
  have b1 : Looks (model prog w) h' (bindSpecial (.builtin "object.__init__") (.ref x)) (.builtin "object.__init__", [.ref x]) := Looks.of_pure (oi_bind _)
  have i1 : Looks (model prog w) h' (isInstance (.ref x) (.ref C)) true := t1.andThen self'
  have i2 : Looks (model prog w) h' (isInstance (.ref x) (.type "object")) true := t1.andThen top'
  unfold callSpecial? specialOf
  repeat ((fail_if_success (with_reducible show wpAny _ _ (PySem.call _ _ _) _ _ _)); (first | simp only [Bool.not_true, Bool.false_eq_true, if_false] | lk))
  refine wpAny_call (codeAny_call_builtin oi_plain entry_oi (@check_slot (model prog w) _ _ _ "object.__init__" "object" "__init__" (.ref x) [a, b] [] _ oi_kind oi_split i2 (oi_args3 (.ref x) a b) ?_))
  unfold Builtin.«object.__init__»
  have q1 : (some (Value.builtin "object.__init__") != some (Value.builtin "object.__init__")) = false := by decide +kernel
  have q2 : ((none : Option String) != some "object.__new__") = true := by decide +kernel
  repeat (first | simp only [q1, q2, List.isEmpty_cons, Bool.not_true, Bool.not_false, Bool.true_or, Bool.false_or, Bool.or_true, Bool.false_eq_true, if_false, if_true] | lk)
  exact hQ
end


theorem tupSubIn_of {K : Frag} {C : Addr} {oc : Value} {od : Option Addr} {cd : ClassData} {sl : Array (Option Value)} (h0 : K.lookup C = some ⟨oc, od, .cls cd, sl⟩) (h1 : cd.hasDel = false) (h2 : (sl.toList[4]?).join = some .none)
    (h3 : cd.mro = [.ref C, .type "tuple", .type "object"]) (h4 : cd.bases = [.type "tuple"]) (h5 : specialIn K (.ref C) "__call__" = some (some (.builtin "type.__call__"))) (h6 : instIn K (.ref C) (.type "type") = some true)
    (h7 : findIn K (.ref C) "__init__" = some (some (.builtin "object.__init__"))) : tupSubIn K C = true := by
  unfold tupSubIn
  rw [h0]
  simp only [h1, h2, h3, h4, h5, h6, h7, beq_self_eq_true, Bool.not_false, Bool.and_self]
theorem tup132 {w : World} {h₀ : Heap} (X : (Mine.hd.heap_39 w.params).In h₀) : tupSubIn (Mine.hd.heap_39 w.params) 132 = true := by
  w_on
  revert X; (have hR : PySem.Challenge.rw_ji0057_01.name = PySem.Challenge.rw_ji0057_01.name := rfl); revert hR; k_fill; intro hR X; clear hR
  refine' tupSubIn_of ?h0 ?h1 ?h2 ?h3 ?h4 ?h5 ?h6 ?h7
  (case h0 => k_is)
  (case h1 => rfl)
  (case h2 => rfl)
  (case h3 => rfl)
  (case h4 => rfl)
  (case h5 => k_is)
  (case h6 => k_is)
  (case h7 => k_is)
local macro_rules | `(tactic| walk_at "getMethod type:tuple") => `(tactic| (k_here; refine' method_type ?F ?X ?m (by decide +kernel) ?e ?h ?_; (case F => k_asm); (case X => k_asm); (case m => exact meta_tupleM); (case e => k_dflt k_is); (case h => k_handed)))
abbrev statsObj (dx : Addr) (r v : Value) : Obj := ⟨.ref 132, some dx, .seq [r, v].toArray 0, #[]⟩
local macro_rules | `(tactic| walk_at "call builtin:tuple.__new__") => `(tactic| (k_here; k_dflt ((show wpAny _ _ (call (Value.builtin "tuple.__new__") [Value.ref _, Value.ref _]) _ _ _); refine' new_tupK ?F ?X ?N ?hm ?hl ?hs ?_; (case F => k_asm); (case X => first | k_asm | ktn_no "tn: X"); (case N => first | k_asm | ktn_no "tn: N"); (case hm => exact tup132 (by k_asm)); (case hl => first | k_mem | ktn_no "tn: hl"); (case hs => first | size_fits | ktn_no "tn: hs")); intro x9 dx9 h9 F' N'; (try dsimp only)))
set_option maxHeartbeats 4000000 in
theorem wfn_spec {w : World} {p : Program} {loose : List Str} {mean : ExcName → Option Value} {mg mb : Str → Option Value} {dp un : Nat} {gd : Option (List Code)} {cn : Str} {cs : Scope} {a : Addr} {ccd : Value} {cl : List (Str × Addr)} {outer : List Env} {A₀ : Around} {base h₀ : Heap} {L : Addr} {m : Str → Option Value} {s : Shared} {Q E : Value → Shared → Prop} {news : List (Addr × Obj)} {v0 v1 : Value} (B : Below A₀ base outer h₀) (F : Fr h₀ L s.heap m) (X : (Mine.hd.heap_39 w.params).In h₀) (N : News h₀ L s.heap news) (T : Top p loose mean mg mb h₀) (hk : cs.kind = .function) (hd : dp + 20 < recursionLimit) (hu : un + 100 < cLine)
    (ret : ∀ x dx h' tk', Fr h₀ L h' m → News h₀ L h' ((x, statsObj dx v0 v1) :: (dx, dictOf [] 0) :: news) → Q (.ref x) { s with heap := h', toks := tk' }) :
    wpAny (model PG w) (ktrTop dp un gd cn cs L a ccd cl outer) (call (.ref 82)  [.ref 132, v0, v1]) Q E s := by
  w_on
  revert X; (have hR : PySem.Challenge.rw_ji0057_01.name = PySem.Challenge.rw_ji0057_01.name := rfl); revert hR; k_fill; intro hR X; clear hR
  refine wpAny_call ?_
  k_dflt (walk_at "my enter")
  w_strict (k_steps; (all_goals exact ret _ _ _ _ (by k_asm) (by walk_at "use two")))
set_option maxHeartbeats 4000000 in
theorem wstats_spec {w : World} {p : Program} {loose : List Str} {mean : ExcName → Option Value} {mg mb : Str → Option Value} {dp un : Nat} {gd : Option (List Code)} {cn : Str} {cs : Scope} {a : Addr} {ccd : Value} {cl : List (Str × Addr)} {outer : List Env} {A₀ : Around} {base h₀ : Heap} {L : Addr} {m : Str → Option Value} {s : Shared} {Q E : Value → Shared → Prop} {news : List (Addr × Obj)} {v0 v1 : Value} (B : Below A₀ base outer h₀) (F : Fr h₀ L s.heap m) (X : (Mine.hd.heap_39 w.params).In h₀) (N : News h₀ L s.heap news) (T : Top p loose mean mg mb h₀) (hk : cs.kind = .function) (hd : dp + 30 < recursionLimit) (hu : un + 200 < cLine)
    (ret : ∀ x dx h' tk', Fr h₀ L h' m → News h₀ L h' ((x, statsObj dx v0 v1) :: (dx, dictOf [] 0) :: news) → Q (.ref x) { s with heap := h', toks := tk' }) :
    wpAny (model PG w) (ktrTop dp un gd cn cs L a ccd cl outer) (call (.ref 132)  [v0, v1]) Q E s := by
  w_on
  revert X; (have hR : PySem.Challenge.rw_ji0057_01.name = PySem.Challenge.rw_ji0057_01.name := rfl); revert hR; k_fill; intro hR X; clear hR
  have k3 : typeIn (Mine.hd.heap_39 w.params) (.ref 132) = some (.type "type") := by k_is
  have k5 : findCls (Mine.hd.heap_39 w.params) (.ref 132) (.type "type") "__new__" = some (.get (.builtin "staticmethod.__get__") (.ref 133) .none (.ref 132)) := by k_is
  have k6 : recIn (Mine.hd.heap_39 w.params) 133 "staticmethod" = some [.ref 82] := by k_is
  have k4 : readsIn (Mine.hd.heap_39 w.params) 132 (.type "type") = true := by k_is
  refine make_tup (fN := 82) (X.keeps F.keep) (tup132 X) (fun hq => cls_sm F X k3 k4 k5 k6 rfl hq) ?_
  refine wfn_spec (s := { s with toks := s.toks + 1 }) B F X N T hk ?hd ?hu ?_
  (case hd => show dp + 1 + 20 < recursionLimit; omega)
  (case hu => show un + 1 + 100 < cLine; omega)
  exact fun x dx h' tk' F' N' => ⟨x, statsObj dx v0 v1, some (dictOf [] 0), rfl, ⟨(N' _ List.mem_cons_self).1, rfl, rfl, (N' _ (List.mem_cons_of_mem _ List.mem_cons_self)).1⟩, X.keeps F'.keep, ret x dx h' tk' F' N'⟩

local macro_rules | `(tactic| walk_at "call ref") => `(tactic| (k_here; (with_reducible show wpAny _ _ (call (Value.ref 132) _ _) _ _ _); k_dflt (apply wstats_spec; walk_at "use common"); intro x9 dx9 h9 tk9 F' N'; (try dsimp only)))

set_option maxHeartbeats 4000000 in
theorem window_spec2 {w : World} {p : Program} {loose : List Str} {mean : ExcName → Option Value} {mg mb : Str → Option Value} {dp un : Nat} {gd : Option (List Code)} {cn : Str} {cs : Scope} {a : Addr} {ccd : Value} {cl : List (Str × Addr)} {outer : List Env} {A₀ : Around} {base h₀ : Heap} {L : Addr} {m : Str → Option Value} {s : Shared} {Q E : Value → Shared → Prop} {news : List (Addr × Obj)} {x1 d1 ds de dv f cell nl cq : Addr} {fo co oq os oe : Obj} {t1 t2 t3 t4 tn : Tok} {now : Int} {kvs kve : List (Str × Value)} {c1 c2 : List (Str × Int)} {key : Str} {tp te : Tok} {e : Int} (B : Below A₀ base outer h₀) (F : Fr h₀ L s.heap m) (X : (Mine.hd.heap_39 w.params).In h₀) (N : News h₀ L s.heap news) (T : Top p loose mean mg mb h₀) (hk : cs.kind = .function) (hd : dp + 16 < recursionLimit) (hu : un + 200 < cLine) (hC : ClockSpec w p loose mean mg mb f cell nl cq fo co oq) (n1 : (x1, instObj 568 d1) ∈ news) (n2 : (d1, dictOf [⟨PySem.PyData.keyHash w.params (Str.ofString "clock"), .str (Str.ofString "clock") t1, .ref f⟩, ⟨PySem.PyData.keyHash w.params (Str.ofString "storage"), .str (Str.ofString "storage") t2, .ref ds⟩, ⟨PySem.PyData.keyHash w.params (Str.ofString "expirations"), .str (Str.ofString "expirations") t3, .ref de⟩, ⟨PySem.PyData.keyHash w.params (Str.ofString "events"), .str (Str.ofString "events") t4, .ref dv⟩] 4) ∈ news) (n5 : (f, fo) ∈ news) (n6 : (cell, co) ∈ news) (n7 : (nl, listOf #[.int now tn] 0) ∈ news) (n8 : (cq, oq) ∈ news) (ls : (ds == sysModules) = false) (le : (de == sysModules) = false) (hs : os.IsDictOf (strKind PG w) kvs) (fs : FlatPairs PyData.str kvs (kdpD c1)) (he : oe.IsDictOf (strKind PG w) kve) (fe : FlatPairs PyData.str kve (kdpD c2)) (n3 : (ds, os) ∈ news) (n4 : (de, oe) ∈ news)
    (ok1 : KeyOk c1 c2 (kx key (Int.fdiv (now - e) e)) now) (ok2 : KeyOk c1 c2 (kx key (Int.fdiv now e)) now) (hlen : key.length ≤ 100) (h0 : 1000000 ≤ now) (h9 : now ≤ 2000000000) (e0 : 2 ≤ e) (e9 : e ≤ 8)
    (p0 : 0 ≤ kdpLook c1 (kx key (Int.fdiv (now - e) e)) 0) (p9 : kdpLook c1 (kx key (Int.fdiv (now - e) e)) 0 ≤ 9) (q0 : 0 ≤ kdpLook c1 (kx key (Int.fdiv now e)) 0) (q9 : kdpLook c1 (kx key (Int.fdiv now e)) 0 ≤ 9)
    (ret : ∀ P C cu pt q a1 a2 a3 a4 h' tk', kdpLook c1 (kx key (Int.fdiv (now - e) e)) 0 = P → kdpLook c1 (kx key (Int.fdiv now e)) 0 = C → cu = e - Int.fmod now e + e → pt = ttl P e now → 0 ≤ P → P ≤ 9 → 0 ≤ C → C ≤ 9 → 0 ≤ pt → pt ≤ 8 → 0 ≤ cu → cu ≤ 16 → Fr h₀ L h' m → News h₀ L h' ((q, tupObj [.int P a1, .int pt a2, .int C a3, .int cu a4]) :: news) → Q (.ref q) { s with heap := h', toks := tk' }) :
    wpAny (model PG w) (ktrTop dp un gd cn cs L a ccd cl outer) (call (.ref 544)  [.ref x1, .str key tp, .int e te]) Q E s :=
  window_spec B F X N T hk hd hu hC n1 n2 n5 n6 n7 n8 ls le hs fs he fe n3 n4 ok1 ok2 hlen h0 h9 e0 e9 fun pt q a1 a2 a3 a4 h' tk' hpt F' N' => ret _ _ _ pt q a1 a2 a3 a4 h' tk' rfl rfl rfl hpt p0 p9 q0 q9 (hpt ▸ ttl_lo _ _ _ e0) (hpt ▸ Int.le_trans (ttl_hi _ _ _ e0) e9) (by have := Int.fmod_lt_of_pos now (show 0 < e by omega); omega) (by have := Int.fmod_nonneg_of_pos now (show 0 < e by omega); omega) F' N'
local macro_rules | `(tactic| walk_at "call ref") => `(tactic| (k_here; (with_reducible show wpAny _ _ (call (Value.ref 544) _ _) _ _ _); k_dflt ((show wpAny _ _ (call (Value.ref 544) [Value.ref _, Value.str _ _, Value.int _ _]) _ _ _); refine' window_spec2 ?B ?F ?X ?N ?T ?hk ?hd ?hu ?hC ?n1 ?n2 ?n5 ?n6 ?n7 ?n8 ?ls ?le ?hs ?fs ?he ?fe ?n3 ?n4 ?ok1 ?ok2 ?hlen ?h0 ?h9 ?e0 ?e9 ?p0 ?p9 ?q0 ?q9 ?_; (case hC => assumption); walk_at "use common"; walk_at "use store"; (case ok1 => assumption); (case ok2 => assumption); (case hlen => assumption); (case h0 => assumption); (case h9 => assumption); (case e0 => assumption); (case e9 => assumption); (case p0 => assumption); (case p9 => assumption); (case q0 => assumption); (case q9 => assumption)); intro P9 C9 cu9 pt9 q9 ta9 tb9 tc9 td9 h9 tk9 hP9 hC9 hcu9 hpt9 b1 b2 b3 b4 b5 b6 b7 b8 F' N'; (try dsimp only)))
def leftOf (most w : Int) : Int := if most - w > 0 then most - w else 0
def told (now len P C cu pt : Int) : Int × Int :=
  if P = 0 then if C = 0 then (now, 1) else (now + Int.fmod cu len, 1)
  else if C = 0 then (now * P + Int.fmod (pt * P) len, P)
  else (now * P + (if Int.fmod cu len * P < Int.fmod (pt * P) len then Int.fmod cu len * P else Int.fmod (pt * P) len), P)
theorem told_00 {now len P C cu pt : Int} (h : P = 0) (h' : C = 0) : (now, 1) = told now len P C cu pt := by unfold told; rw [if_pos h, if_pos h']
theorem told_0c {now len P C cu pt : Int} (h : P = 0) (h' : C ≠ 0) : (now + Int.fmod cu len, 1) = told now len P C cu pt := by unfold told; rw [if_pos h, if_neg h']
theorem told_p0 {now len P C cu pt : Int} (h : P ≠ 0) (h' : C = 0) : (now * P + Int.fmod (pt * P) len, P) = told now len P C cu pt := by unfold told; rw [if_neg h, if_pos h']
theorem told_pc {now len P C cu pt : Int} (h : P ≠ 0) (h' : C ≠ 0) : (now * P + (if Int.fmod cu len * P < Int.fmod (pt * P) len then Int.fmod cu len * P else Int.fmod (pt * P) len), P) = told now len P C cu pt := by unfold told; rw [if_neg h, if_neg h']
local macro_rules | `(tactic| walk_at "use three") => `(tactic| (refine cb_drop (by k_asm) ?_; intro p9 hp9; rcases List.mem_cons.mp hp9 with h9 | h9; (· subst h9; k_mem); rcases List.mem_cons.mp h9 with h9 | h9; (· subst h9; k_mem); rcases List.mem_cons.mp h9 with h9 | h9; (· subst h9; k_mem); (· k_mem)))
local macro_rules | `(tactic| walk_at "truthy int") => `(tactic| (k_here; dsimp only))
local macro_rules | `(tactic| walk_at "truthy bool") => `(tactic| (k_here; dsimp only))
local macro_rules | `(tactic| walk_at "compareOp Lt int int") => `(tactic| (k_here; dsimp only))
local macro_rules | `(tactic| walk_at "compareOp Gt int int") => `(tactic| (k_here; dsimp only))
set_option maxHeartbeats 4000000 in
theorem stats_spec {w : World} {p : Program} {loose : List Str} {mean : ExcName → Option Value} {mg mb : Str → Option Value} {dp un : Nat} {gd : Option (List Code)} {cn : Str} {cs : Scope} {a : Addr} {ccd : Value} {cl : List (Str × Addr)} {outer : List Env} {A₀ : Around} {base h₀ : Heap} {L : Addr} {m : Str → Option Value} {s : Shared} {Q E : Value → Shared → Prop} {news : List (Addr × Obj)} {x1 d1 ds de dv f cell nl cq : Addr} {fo co oq os oe : Obj} {t1 t2 t3 t4 tn : Tok} {now : Int} {kvs kve : List (Str × Value)} {c1 c2 : List (Str × Int)} {x3 d3 : Addr} {t5 t6 t7 t8 tm tl : Tok} {most len : Int} {x2 d2 : Addr} {u1 : Tok} {nm : Addr} {tA : Tok} {n : Nat}
    (B : Below A₀ base outer h₀) (F : Fr h₀ L s.heap m) (X : (Mine.hd.heap_39 w.params).In h₀) (N : News h₀ L s.heap news) (T : Top p loose mean mg mb h₀) (hk : cs.kind = .function) (hd : dp + 80 < recursionLimit) (hu : un + 800 < cLine) (hC : ClockSpec w p loose mean mg mb f cell nl cq fo co oq) (n1 : (x1, instObj 568 d1) ∈ news) (n2 : (d1, dictOf [⟨PySem.PyData.keyHash w.params (Str.ofString "clock"), .str (Str.ofString "clock") t1, .ref f⟩, ⟨PySem.PyData.keyHash w.params (Str.ofString "storage"), .str (Str.ofString "storage") t2, .ref ds⟩, ⟨PySem.PyData.keyHash w.params (Str.ofString "expirations"), .str (Str.ofString "expirations") t3, .ref de⟩, ⟨PySem.PyData.keyHash w.params (Str.ofString "events"), .str (Str.ofString "events") t4, .ref dv⟩] 4) ∈ news) (n5 : (f, fo) ∈ news) (n6 : (cell, co) ∈ news) (n7 : (nl, listOf #[.int now tn] 0) ∈ news) (n8 : (cq, oq) ∈ news) (ls : (ds == sysModules) = false) (le : (de == sysModules) = false) (hs : os.IsDictOf (strKind PG w) kvs) (fs : FlatPairs PyData.str kvs (kdpD c1)) (he : oe.IsDictOf (strKind PG w) kve) (fe : FlatPairs PyData.str kve (kdpD c2)) (n3 : (ds, os) ∈ news) (n4 : (de, oe) ∈ news) (i1 : (x3, instObj 423 d3) ∈ news) (i2 : (d3, dictOf [⟨PySem.PyData.keyHash w.params (Str.ofString "namespace"), .str (Str.ofString "namespace") t5, .str (Str.ofString "LIMITER") t8⟩, ⟨PySem.PyData.keyHash w.params (Str.ofString "amount"), .str (Str.ofString "amount") t6, .int most tm⟩, ⟨PySem.PyData.keyHash w.params (Str.ofString "multiples"), .str (Str.ofString "multiples") t7, .int len tl⟩] 3) ∈ news) (m1 : (x2, instObj 218 d2) ∈ news) (m2 : (d2, dictOf [⟨PySem.PyData.keyHash w.params (Str.ofString "storage"), .str (Str.ofString "storage") u1, .ref x1⟩] 1) ∈ news) (i3 : (nm, tupK [.str (Str.ofString "ann") tA].toArray n) ∈ news)
    (ok1 : KeyOk c1 c2 (kx (keyOf most len) (Int.fdiv (now - len) len)) now) (ok2 : KeyOk c1 c2 (kx (keyOf most len) (Int.fdiv now len)) now)
    (h0 : 1000000 ≤ now) (h9 : now ≤ 2000000000) (m0 : 1 ≤ most) (m9 : most ≤ 9) (l0 : 2 ≤ len) (l9 : len ≤ 8)
    (p0 : 0 ≤ kdpLook c1 (kx (keyOf most len) (Int.fdiv (now - len) len)) 0) (p9 : kdpLook c1 (kx (keyOf most len) (Int.fdiv (now - len) len)) 0 ≤ 9) (q0 : 0 ≤ kdpLook c1 (kx (keyOf most len) (Int.fdiv now len)) 0) (q9 : kdpLook c1 (kx (keyOf most len) (Int.fdiv now len)) 0 ≤ 9)
    (ret : ∀ P C cu pt left mom parts tl tm tp x dx t h' tk', kdpLook c1 (kx (keyOf most len) (Int.fdiv (now - len) len)) 0 = P → kdpLook c1 (kx (keyOf most len) (Int.fdiv now len)) 0 = C → cu = len - Int.fmod now len + len → pt = ttl P len now →
      left = leftOf most (Int.fdiv (P * pt) len + C) → (mom, parts) = told now len P C cu pt → Fr h₀ L h' m → News h₀ L h' ((x, statsObj dx (.ref t) (.int left tl)) :: (dx, dictOf [] 0) :: (t, tupObj [.int mom tm, .int parts tp]) :: news) → Q (.ref x) { s with heap := h', toks := tk' }) :
    wpAny (model PG w) (ktrTop dp un gd cn cs L a ccd cl outer) (call (.ref 206)  [.ref x2, .ref x3, .ref nm]) Q E s := by
  have hlen := keyOf_len m0 m9 l0 l9
  w_on
  revert X; (have hR : PySem.Challenge.rw_ji0057_01.name = PySem.Challenge.rw_ji0057_01.name := rfl); revert hR; k_fill; intro hR X; clear hR
  refine wpAny_call ?_
  k_dflt (walk_at "my enter")
  w_strict (k_steps; (all_goals (first | (refine' ret _ _ _ _ _ _ _ _ _ _ _ _ _ _ _ ?eP ?eC ?eU ?eQ ?eL ?eT ?eF ?eN; (case eN => walk_at "use three"); (case eF => k_asm); (case eP => assumption); (case eC => assumption); (case eU => assumption); (case eQ => assumption); (case eL => rfl); (case eT => first | exact told_00 (by assumption) (by assumption) | exact told_0c (by assumption) (by assumption) | exact told_p0 (by assumption) (by assumption) | exact told_pc (by assumption) (by assumption))) | (exfalso; contradiction))))

end
set_option genInjectivity false in
structure LS where
  now : Int
  tn : Tok
  log : List (Int × Int)
  lvs : List Value
  ln : Nat
  os : Obj
  oe : Obj
  kvs : List (Str × Value)
  kve : List (Str × Value)
  c1 : List (Str × Int)
  c2 : List (Str × Int)
def logDat (log : List (Int × Int)) : List Dat := log.map fun p => .tuple [.int p.1, .int p.2]
abbrev Led1 (ds de ll nl : Addr) (c : LS) : List (Addr × Obj) := [(ds, c.os), (de, c.oe), (ll, listOf c.lvs.toArray c.ln), (nl, listOf #[.int c.now c.tn] 0)]
def Facts1 (w : World) (nx : List (Addr × Obj)) (c : LS) : Prop :=
  c.os.IsDictOf (strKind PG w) c.kvs ∧ FlatPairs PyData.str c.kvs (kdpD c.c1) ∧ c.oe.IsDictOf (strKind PG w) c.kve ∧ FlatPairs PyData.str c.kve (kdpD c.c2) ∧ DatAll nx c.lvs (logDat c.log)
section
variable {w : World} {A : Around} {E : Value → Shared → Prop} {s : Shared} {env : Env} {h₀ : Heap} {x : Str} {body : List Stmt} {Q : Flow → Shared → Prop}
theorem loop1 {l ll nl ds de : Addr} {vs : List Value} {ns : List Int} {nn : Nat} {m₀ : Str → Option Value} {news : List (Addr × Obj)} (cst : List (Addr × Obj)) (stored : List Str) (Inv : List Int → LS → Prop) (c₀ : LS)
    (hh : A.handled = none) (hl : (l, listOf vs.toArray nn) ∈ cst) (hi : IntsAre vs ns) (F : Fr h₀ env.locals s.heap m₀) (N : News h₀ env.locals s.heap news) (hn : ∀ p ∈ Led1 ds de ll nl c₀ ++ (cst ++ []), p ∈ news) (hf : Facts1 w (cst ++ []) c₀) (hp : Inv [] c₀)
    (turn : ∀ (c : LS) tl pre post n t (u : Str → Option Value) h tk own, ns = pre ++ n :: post → KdSep own tl (ds :: de :: ll :: nl :: cst.map (·.1)) → OwnOff (tl ++ own) (ds :: de :: ll :: nl :: cst.map (·.1)) → Facts1 w (cst ++ tl) c → Inv pre c →
      Fr h₀ env.locals h (fun y => if y = x then some (.int n t) else if stored.contains y then u y else m₀ y) → News h₀ env.locals h (Led1 ds de ll nl c ++ (cst ++ (tl ++ own))) →
      wpAny (model PG w) A (execs body env) (InvPostG h₀ env.locals (KdS (Led1 ds de ll nl) cst (fun _ => []) (Facts1 w) x stored m₀ Inv (ds :: de :: ll :: nl :: cst.map (·.1)) (pre ++ [n])) own { s with heap := h, toks := tk } Q) E { s with heap := h, toks := tk })
    (done : ∀ (c : LS) tl (u : Str → Option Value) h tk, OwnOff tl (ds :: de :: ll :: nl :: cst.map (·.1)) → Facts1 w (cst ++ tl) c → Inv ns c → Fr h₀ env.locals h (fun y => if y = x then u y else if stored.contains y then u y else m₀ y) → News h₀ env.locals h (Led1 ds de ll nl c ++ (cst ++ tl)) → Q .next { s with heap := h, toks := tk }) :
    wpAny (model PG w) A (pyIter (.ref l)) (fun it s₂ => LoopAtV PG w A h₀ env x body Q E it s₂) E s :=
  kd_listI (Led1 ds de ll nl) cst (fun _ => []) (Facts1 w) stored Inv (ds :: de :: ll :: nl :: cst.map (·.1)) c₀ hh hl hi F N hn (fun _ => rfl) hf (fun _ h => nomatch h) hp
    (fun c tl pre post n t u h tk own e1 _ e3 e4 e5 e6 e7 e8 => turn c tl pre post n t u h tk own e1 e3 e4 e5 e6 e7 e8) done
end

/-- the costs of the log's entries in the window n -/
def cnt (L : Int) (log : List (Int × Int)) (n : Int) : Int := (log.map fun p => if p.1 / L = n then p.2 else 0).sum
def LogOk (now : Int) (log : List (Int × Int)) : Prop := ∀ p ∈ log, 1000000 ≤ p.1 ∧ p.1 ≤ now ∧ 1 ≤ p.2 ∧ p.2 ≤ 3
theorem cnt_nil (L n : Int) : cnt L [] n = 0 := rfl
theorem cnt_snoc (L : Int) (log : List (Int × Int)) (p : Int × Int) (n : Int) : cnt L (log ++ [p]) n = cnt L log n + (if p.1 / L = n then p.2 else 0) := by
  simp [cnt, List.sum_append]
theorem cnt_nonneg {L now : Int} {log : List (Int × Int)} (h : LogOk now log) (n : Int) : 0 ≤ cnt L log n := by
  induction log with
  | nil => exact Int.le_refl _
  | cons p r ih =>
    have h1 := h p List.mem_cons_self
    have h2 := ih (fun q hq => h q (List.mem_cons_of_mem _ hq))
    have e : cnt L (p :: r) n = (if p.1 / L = n then p.2 else 0) + cnt L r n := by simp [cnt]
    rw [e]
    split <;> omega
theorem cnt_later {L now : Int} {log : List (Int × Int)} (h : LogOk now log) (hL : 0 < L) {n : Int} (hn : now / L < n) : cnt L log n = 0 := by
  induction log with
  | nil => rfl
  | cons p r ih =>
    have h1 := h p List.mem_cons_self
    have h2 := ih (fun q hq => h q (List.mem_cons_of_mem _ hq))
    have e : cnt L (p :: r) n = (if p.1 / L = n then p.2 else 0) + cnt L r n := by simp [cnt]
    have h3 : p.1 / L ≤ now / L := Int.ediv_le_ediv hL h1.2.1
    rw [e, h2, if_neg (by omega)]
    rfl
/-- the weighed count at a second t -/
def Wt (L : Int) (log : List (Int × Int)) (t : Int) : Int := cnt L log (t / L - 1) * (L - t % L) / L + cnt L log (t / L)
/-- the whole part of the told moment -/
def tel (L : Int) (log : List (Int × Int)) (t : Int) : Int :=
  if cnt L log (t / L - 1) = 0 then (if cnt L log (t / L) = 0 then t else t - t % L + L)
  else t + (cnt L log (t / L - 1) * (L - t % L) % L) / cnt L log (t / L - 1)
theorem next_same {L t : Int} (hL : 2 ≤ L) (h : t % L + 1 < L) : (t + 1) / L = t / L ∧ (t + 1) % L = t % L + 1 := by
  have e := Int.emod_add_mul_ediv t L
  have h0 := Int.emod_nonneg t (show L ≠ 0 by omega)
  have e1 : t + 1 = (t % L + 1) + L * (t / L) := by omega
  refine ⟨?_, ?_⟩
  · rw [e1, Int.add_mul_ediv_left _ _ (by omega), Int.ediv_eq_zero_of_lt (by omega) h]; omega
  · rw [e1, Int.add_mul_emod_self_left, Int.emod_eq_of_lt (by omega) h]
theorem next_new {L t : Int} (hL : 2 ≤ L) (h : ¬ t % L + 1 < L) : (t + 1) / L = t / L + 1 ∧ (t + 1) % L = 0 ∧ t % L = L - 1 := by
  have e := Int.emod_add_mul_ediv t L
  have h1 := Int.emod_lt_of_pos t (show 0 < L by omega)
  have e2 : t % L = L - 1 := by omega
  have e1 : t + 1 = 0 + L * (t / L + 1) := by rw [Int.mul_add]; omega
  refine ⟨?_, ?_, e2⟩
  · rw [e1, Int.add_mul_ediv_left _ _ (by omega), Int.zero_ediv]; omega
  · rw [e1, Int.add_mul_emod_self_left, Int.zero_emod]
theorem Wt_nonneg {L now t : Int} {log : List (Int × Int)} (h : LogOk now log) (hL : 2 ≤ L) : 0 ≤ Wt L log t ∧ cnt L log (t / L) ≤ Wt L log t := by
  have h1 := cnt_nonneg (L := L) h (t / L)
  have h2 := cnt_nonneg (L := L) h (t / L - 1)
  have h3 := Int.emod_lt_of_pos t (show 0 < L by omega)
  have h4 : 0 ≤ cnt L log (t / L - 1) * (L - t % L) / L := Int.ediv_nonneg (Int.mul_nonneg h2 (by omega)) (by omega)
  unfold Wt
  omega
theorem Wt_new {L now t : Int} {log : List (Int × Int)} (h : LogOk now log) (hL : 2 ≤ L) (ht : now ≤ t) (hw : ¬ t % L + 1 < L) : Wt L log (t + 1) = cnt L log (t / L) := by
  obtain ⟨e1, e2, e3⟩ := next_new hL hw
  have h1 : now / L ≤ t / L := Int.ediv_le_ediv (by omega) ht
  unfold Wt
  rw [e1, e2, cnt_later h (by omega) (show now / L < t / L + 1 by omega), Int.sub_zero, Int.mul_ediv_cancel _ (by omega)]
  have : t / L + 1 - 1 = t / L := by omega
  rw [this]; omega
theorem Wt_same {L t : Int} {log : List (Int × Int)} (hL : 2 ≤ L) (hw : t % L + 1 < L) : Wt L log (t + 1) = cnt L log (t / L - 1) * (L - t % L - 1) / L + cnt L log (t / L) := by
  obtain ⟨e1, e2⟩ := next_same hL hw
  unfold Wt
  rw [e1, e2]
  have : L - (t % L + 1) = L - t % L - 1 := by omega
  rw [this]
theorem Wt_step {L now t : Int} {log : List (Int × Int)} (h : LogOk now log) (hL : 2 ≤ L) (ht : now ≤ t) : Wt L log (t + 1) ≤ Wt L log t := by
  by_cases hw : t % L + 1 < L
  · rw [Wt_same hL hw]
    unfold Wt
    have h2 := cnt_nonneg (L := L) h (t / L - 1)
    have h3 : cnt L log (t / L - 1) * (L - t % L - 1) ≤ cnt L log (t / L - 1) * (L - t % L) := Int.mul_le_mul_of_nonneg_left (by omega) h2
    have := Int.ediv_le_ediv (show 0 < L by omega) h3
    omega
  · rw [Wt_new h hL ht hw]
    exact (Wt_nonneg h hL).2
theorem Wt_mono {L now t : Int} {log : List (Int × Int)} (h : LogOk now log) (hL : 2 ≤ L) (ht : now ≤ t) (k : Nat) : Wt L log (t + k) ≤ Wt L log t := by
  induction k with
  | zero => simp
  | succ k ih =>
    have := Wt_step (t := t + k) h hL (by omega)
    have e : t + ((k + 1 : Nat) : Int) = t + k + 1 := by omega
    rw [e]; omega
theorem Wt_le {L now t u : Int} {log : List (Int × Int)} (h : LogOk now log) (hL : 2 ≤ L) (ht : now ≤ t) (hu : t ≤ u) : Wt L log u ≤ Wt L log t := by
  have := Wt_mono h hL ht (u - t).toNat
  have e : t + ((u - t).toNat : Int) = u := by omega
  rwa [e] at this
/-- within the window: the weighed count, d seconds on -/
theorem Wt_in {L t : Int} {log : List (Int × Int)} (hL : 2 ≤ L) (d : Nat) (hw : t % L + d < L) : Wt L log (t + d) = cnt L log (t / L - 1) * (L - t % L - d) / L + cnt L log (t / L) := by
  have e := Int.emod_add_mul_ediv t L
  have h0 := Int.emod_nonneg t (show L ≠ 0 by omega)
  have e1 : t + d = (t % L + d) + L * (t / L) := by omega
  have q1 : (t + d) / L = t / L := by rw [e1, Int.add_mul_ediv_left _ _ (by omega), Int.ediv_eq_zero_of_lt (by omega) hw]; omega
  have q2 : (t + d) % L = t % L + d := by rw [e1, Int.add_mul_emod_self_left, Int.emod_eq_of_lt (by omega) hw]
  unfold Wt
  rw [q1, q2]
  have : L - (t % L + d) = L - t % L - d := by omega
  rw [this]
/-- at the window's end -/
theorem Wt_end {L now t : Int} {log : List (Int × Int)} (h : LogOk now log) (hL : 2 ≤ L) (ht : now ≤ t) : Wt L log (t - t % L + L) = cnt L log (t / L) := by
  have e := Int.emod_add_mul_ediv t L
  have h0 := Int.emod_nonneg t (show L ≠ 0 by omega)
  have h1 := Int.emod_lt_of_pos t (show 0 < L by omega)
  have e1 : t - t % L + L - 1 = (L - 1) + L * (t / L) := by omega
  have q1 : (t - t % L + L - 1) / L = t / L := by rw [e1, Int.add_mul_ediv_left _ _ (by omega), Int.ediv_eq_zero_of_lt (by omega) (by omega)]; omega
  have q2 : (t - t % L + L - 1) % L = L - 1 := by rw [e1, Int.add_mul_emod_self_left, Int.emod_eq_of_lt (by omega) (by omega)]
  have := Wt_new (t := t - t % L + L - 1) h hL (by omega) (by omega)
  rw [q1] at this
  rw [← this]
  congr 1
  omega
theorem Wt_end1 {L now t : Int} {log : List (Int × Int)} (h : LogOk now log) (hL : 2 ≤ L) (ht : now ≤ t) (hc : 0 < cnt L log (t / L)) : Wt L log (t - t % L + L + 1) < cnt L log (t / L) := by
  have e := Int.emod_add_mul_ediv t L
  have h0 := Int.emod_nonneg t (show L ≠ 0 by omega)
  have h1 := Int.emod_lt_of_pos t (show 0 < L by omega)
  have h2 : now / L ≤ t / L := Int.ediv_le_ediv (by omega) ht
  have e1 : t - t % L + L + 1 = 1 + L * (t / L + 1) := by rw [Int.mul_add]; omega
  have q1 : (t - t % L + L + 1) / L = t / L + 1 := by rw [e1, Int.add_mul_ediv_left _ _ (by omega), Int.ediv_eq_zero_of_lt (by omega) (by omega)]; omega
  have q2 : (t - t % L + L + 1) % L = 1 := by rw [e1, Int.add_mul_emod_self_left, Int.emod_eq_of_lt (by omega) (by omega)]
  unfold Wt
  rw [q1, q2, cnt_later h (by omega) (show now / L < t / L + 1 by omega)]
  have : t / L + 1 - 1 = t / L := by omega
  rw [this]
  have h3 : cnt L log (t / L) * (L - 1) < cnt L log (t / L) * L := Int.mul_lt_mul_of_pos_left (by omega) hc
  have := Int.ediv_lt_of_lt_mul (show 0 < L by omega) h3
  omega
theorem tel_ge {L now t : Int} {log : List (Int × Int)} (h : LogOk now log) (hL : 2 ≤ L) : t ≤ tel L log t := by
  have h1 := Int.emod_lt_of_pos t (show 0 < L by omega)
  have h2 := cnt_nonneg (L := L) h (t / L - 1)
  unfold tel
  split
  · split <;> omega
  · have := Int.ediv_nonneg (Int.emod_nonneg (cnt L log (t / L - 1) * (L - t % L)) (show L ≠ 0 by omega)) h2
    omega
/-- the parts of P * d: weight and rest -/
theorem parts_eq {L P d : Int} : P * d = L * (P * d / L) + P * d % L := (Int.mul_ediv_add_emod _ _).symm
theorem rest_le {L P d : Int} (hL : 2 ≤ L) (hP : 0 < P) (hd : 0 ≤ d) : (P * d % L) / P ≤ d := by
  have h1 : P * d % L ≤ P * d := by
    have e := parts_eq (L := L) (P := P) (d := d)
    have : 0 ≤ P * d / L := Int.ediv_nonneg (Int.mul_nonneg (by omega) hd) (by omega)
    have : 0 ≤ L * (P * d / L) := Int.mul_nonneg (by omega) this
    omega
  have := Int.ediv_le_ediv hP h1
  rwa [Int.mul_ediv_cancel_left _ (by omega)] at this
theorem tel_le {L now t : Int} {log : List (Int × Int)} (h : LogOk now log) (hL : 2 ≤ L) : tel L log t ≤ t - t % L + L := by
  have h1 := Int.emod_lt_of_pos t (show 0 < L by omega)
  have h2 := cnt_nonneg (L := L) h (t / L - 1)
  unfold tel
  split
  · split <;> omega
  · have := rest_le (P := cnt L log (t / L - 1)) (d := L - t % L) hL (by omega) (by omega)
    omega
/-- up to the told moment the weighed count stays -/
theorem stays {L now t u : Int} {log : List (Int × Int)} (h : LogOk now log) (hL : 2 ≤ L) (ht : now ≤ t) (hu : t ≤ u) (hw : 0 < Wt L log t) (hT : u ≤ tel L log t) : Wt L log u = Wt L log t := by
  have hm := Int.emod_lt_of_pos t (show 0 < L by omega)
  have hm0 := Int.emod_nonneg t (show L ≠ 0 by omega)
  have hP := cnt_nonneg (L := L) h (t / L - 1)
  have hC := cnt_nonneg (L := L) h (t / L)
  have hend := tel_le (t := t) h hL
  by_cases hP0 : cnt L log (t / L - 1) = 0
  · -- only this window
    have hWt : Wt L log t = cnt L log (t / L) := by unfold Wt; rw [hP0, Int.zero_mul, Int.zero_ediv, Int.zero_add]
    by_cases hb : u < t - t % L + L
    · have := Wt_in (t := t) (log := log) hL (u - t).toNat (by omega)
      have e : t + ((u - t).toNat : Int) = u := by omega
      rw [e, hP0, Int.zero_mul, Int.zero_ediv, Int.zero_add] at this
      rw [this, hWt]
    · have e : u = t - t % L + L := by omega
      rw [e, Wt_end h hL ht, hWt]
  · have hpos : 0 < cnt L log (t / L - 1) := by omega
    have hT' : tel L log t = t + (cnt L log (t / L - 1) * (L - t % L) % L) / cnt L log (t / L - 1) := by unfold tel; rw [if_neg hP0]
    rw [hT'] at hT hend
    have hWt : Wt L log t = cnt L log (t / L - 1) * (L - t % L) / L + cnt L log (t / L) := rfl
    generalize hPe : cnt L log (t / L - 1) = P at *
    generalize hDe : L - t % L = d at *
    have hpe := parts_eq (L := L) (P := P) (d := d)
    have hr0 := Int.emod_nonneg (P * d) (show L ≠ 0 by omega)
    have hrL := Int.emod_lt_of_pos (P * d) (show 0 < L by omega)
    have hq := Int.emod_add_mul_ediv (P * d % L) P
    have hqm := Int.emod_nonneg (P * d % L) (show P ≠ 0 by omega)
    have hle : P * (u - t) ≤ P * d % L := by
      have h9 : P * (u - t) ≤ P * (P * d % L / P) := Int.mul_le_mul_of_nonneg_left (by omega) (by omega)
      omega
    have hk : 0 ≤ P * (u - t) := Int.mul_nonneg (by omega) (by omega)
    have hdist : P * (d - (u - t)) = P * d - P * (u - t) := Int.mul_sub _ _ _
    have hsame : P * (d - (u - t)) / L = P * d / L := by
      have e1 : P * (d - (u - t)) = (P * d % L - P * (u - t)) + L * (P * d / L) := by omega
      rw [e1, Int.add_mul_ediv_left _ _ (by omega), Int.ediv_eq_zero_of_lt (by omega) (by omega), Int.zero_add]
    by_cases hb : u < t - t % L + L
    · have := Wt_in (t := t) (log := log) hL (u - t).toNat (by omega)
      have e : t + ((u - t).toNat : Int) = u := by omega
      have e2 : L - t % L - ((u - t).toNat : Int) = d - (u - t) := by omega
      rw [e, e2, hPe, hsame] at this
      rw [this, hWt]
    · have e : u = t - t % L + L := by omega
      have e0 : d - (u - t) = 0 := by omega
      rw [e0, Int.mul_zero, Int.zero_ediv] at hsame
      rw [e, Wt_end h hL ht, hWt, ← hsame, Int.zero_add]
/-- at the second behind the told moment more is let -/
theorem drops {L now t : Int} {log : List (Int × Int)} (h : LogOk now log) (hL : 2 ≤ L) (ht : now ≤ t) (hw : 0 < Wt L log t) : Wt L log (tel L log t + 1) < Wt L log t := by
  have hm := Int.emod_lt_of_pos t (show 0 < L by omega)
  have hm0 := Int.emod_nonneg t (show L ≠ 0 by omega)
  have hP := cnt_nonneg (L := L) h (t / L - 1)
  have hC := cnt_nonneg (L := L) h (t / L)
  have hend := tel_le (t := t) h hL
  have hge := tel_ge (t := t) h hL
  by_cases hP0 : cnt L log (t / L - 1) = 0
  · have hWt : Wt L log t = cnt L log (t / L) := by unfold Wt; rw [hP0, Int.zero_mul, Int.zero_ediv, Int.zero_add]
    have hT : tel L log t = t - t % L + L := by unfold tel; rw [if_pos hP0, if_neg (by omega)]
    rw [hT, hWt]
    exact Wt_end1 h hL ht (by omega)
  · have hpos : 0 < cnt L log (t / L - 1) := by omega
    have hT' : tel L log t = t + (cnt L log (t / L - 1) * (L - t % L) % L) / cnt L log (t / L - 1) := by unfold tel; rw [if_neg hP0]
    have hWt : Wt L log t = cnt L log (t / L - 1) * (L - t % L) / L + cnt L log (t / L) := rfl
    generalize hu : tel L log t = u at *
    generalize hPe : cnt L log (t / L - 1) = P at *
    generalize hDe : L - t % L = d at *
    have hpe := parts_eq (L := L) (P := P) (d := d)
    have hr0 := Int.emod_nonneg (P * d) (show L ≠ 0 by omega)
    have hq := Int.emod_add_mul_ediv (P * d % L) P
    have hqm := Int.emod_lt_of_pos (P * d % L) hpos
    have hmore : P * d % L < P * (u + 1 - t) := by
      have e : u + 1 - t = P * d % L / P + 1 := by omega
      rw [e, Int.mul_add, Int.mul_one]; omega
    have hdist : P * (d - (u + 1 - t)) = P * d - P * (u + 1 - t) := Int.mul_sub _ _ _
    have hlt : P * (d - (u + 1 - t)) < P * d / L * L := by rw [Int.mul_comm (P * d / L) L]; omega
    by_cases hb : u + 1 < t - t % L + L
    · have := Wt_in (t := t) (log := log) hL (u + 1 - t).toNat (by omega)
      have e : t + ((u + 1 - t).toNat : Int) = u + 1 := by omega
      have e2 : L - t % L - ((u + 1 - t).toNat : Int) = d - (u + 1 - t) := by omega
      rw [e, e2, hPe] at this
      have := Int.ediv_lt_of_lt_mul (show 0 < L by omega) hlt
      omega
    · by_cases hb2 : u + 1 = t - t % L + L
      · have e0 : d - (u + 1 - t) = 0 := by omega
        rw [e0, Int.mul_zero] at hlt
        have hpos' : 0 < P * d / L := by
          rcases Int.lt_or_le 0 (P * d / L) with h9 | h9
          · exact h9
          · have : P * d / L * L ≤ 0 := Int.mul_nonpos_of_nonpos_of_nonneg h9 (by omega)
            omega
        rw [hb2, Wt_end h hL ht, hWt]
        omega
      · have e : u + 1 = t - t % L + L + 1 := by omega
        have hud : u - t = d := by omega
        have hz : P * d / L = 0 := by
          have h8 : P * (P * d % L / P) = P * d := by
            have : P * d % L / P = d := by omega
            rw [this]
          have h9 := Int.emod_nonneg (P * d % L) (show P ≠ 0 by omega)
          have h10 : L * (P * d / L) ≤ 0 := by omega
          have h11 : 0 ≤ P * d / L := Int.ediv_nonneg (Int.mul_nonneg (by omega) (by omega)) (by omega)
          rcases Int.lt_or_le 0 (P * d / L) with h12 | h12
          · have := Int.mul_pos (show 0 < L by omega) h12
            omega
          · omega
        have hCp : 0 < cnt L log (t / L) := by omega
        have := Wt_end1 h hL ht hCp
        rw [e]
        omega
/-- the told moment lies ahead of the end -/
theorem tel_lt {L now t₁ t : Int} {log : List (Int × Int)} (h : LogOk now log) (hL : 2 ≤ L) (h1 : now ≤ t₁) (ht : t₁ ≤ t) (hm : t₁ % L ≠ 0) (hw : 0 < Wt L log t) : tel L log t < t₁ + 2 * L := by
  have hend := tel_le (t := t) h hL
  have e1 := Int.emod_add_mul_ediv t₁ L
  have e := Int.emod_add_mul_ediv t L
  have m0 := Int.emod_nonneg t₁ (show L ≠ 0 by omega)
  have hn : now / L ≤ t₁ / L := Int.ediv_le_ediv (by omega) h1
  have hk : t / L ≤ t₁ / L + 1 := by
    rcases Int.lt_or_le (t₁ / L + 1) (t / L) with h9 | h9
    · have z1 : cnt L log (t / L) = 0 := cnt_later h (by omega) (by omega)
      have z2 : cnt L log (t / L - 1) = 0 := cnt_later h (by omega) (by omega)
      unfold Wt at hw
      rw [z1, z2, Int.zero_mul, Int.zero_ediv] at hw
      omega
    · exact h9
  have h2 : L * (t / L) ≤ L * (t₁ / L + 1) := Int.mul_le_mul_of_nonneg_left hk (by omega)
  rw [Int.mul_add] at h2
  omega
/-- at last all is free -/
theorem Wt_last {L now t₁ : Int} {log : List (Int × Int)} (h : LogOk now log) (hL : 2 ≤ L) (h1 : now ≤ t₁) : Wt L log (t₁ + 2 * L) = 0 := by
  have hn : now / L ≤ t₁ / L := Int.ediv_le_ediv (by omega) h1
  have q : (t₁ + 2 * L) / L = t₁ / L + 2 := by rw [Int.add_mul_ediv_right _ _ (by omega)]
  unfold Wt
  rw [q, cnt_later h (by omega) (show now / L < t₁ / L + 2 - 1 by omega), cnt_later h (by omega) (show now / L < t₁ / L + 2 by omega), Int.zero_mul, Int.zero_ediv]
  rfl

theorem ofString_inj {a b : String} (h : Str.ofString a = Str.ofString b) : a = b := by
  rw [Str.ofString_eq_toList, Str.ofString_eq_toList] at h
  have h1 : a.toList.map Char.toNat = b.toList.map Char.toNat := by
    have := congrArg (fun s : Str => s.cps.toList) h
    simpa using this
  have h2 : a.toList = b.toList := (List.map_inj_right (fun x y hxy => Char.toNat_inj.mp hxy)).mp h1
  exact String.toList_inj.mp h2
theorem kx_inj {key : Str} {n m : Int} (h : kx key n = kx key m) : n = m := by
  have h1 := congrArg (fun s : Str => s.cps.toList) h
  simp only [kx] at h1
  have app : ∀ a b : Str, (a ++ b).cps.toList = a.cps.toList ++ b.cps.toList := fun a b => by
    show (a.cps ++ b.cps).toList = _
    rw [Array.toList_append]
  rw [app, app _ (Str.ofString (toString m))] at h1
  have h2 := List.append_cancel_left h1
  have h3 : Str.ofString (toString n) = Str.ofString (toString m) := by
    have : ∀ a b : Str, a.cps.toList = b.cps.toList → a = b := fun a b e => by
      cases a; cases b; congr 1; exact Array.toList_inj.mp e
    exact this _ _ h2
  exact Int.repr_injective (ofString_inj h3)
/-- what the two tables hold, in the log's words -/
structure Tab (L M : Int) (key : Str) (log : List (Int × Int)) (c1 c2 : List (Str × Int)) : Prop where
  look : ∀ n, kdpLook c1 (kx key n) 0 = cnt L log n
  has : ∀ n, kdpHas c1 (kx key n) = kdpHas c2 (kx key n)
  exp : ∀ n, kdpHas c1 (kx key n) = true → n * L + 2 * L ≤ kdpLook c2 (kx key n) 0
  max : ∀ n, cnt L log n ≤ M
theorem Tab.start (L : Int) {M : Int} (key : Str) (hM : 0 ≤ M) : Tab L M key [] [] [] := ⟨fun _ => rfl, fun _ => rfl, (fun _ h => by cases h), fun _ => hM⟩
theorem win_prev {L t : Int} (hL : 2 ≤ L) : Int.fdiv (t - L) L = t / L - 1 := by
  rw [Int.fdiv_eq_ediv_of_nonneg _ (by omega)]
  have e : t - L = t + (-1) * L := by omega
  rw [e, Int.add_mul_ediv_right _ _ (by omega)]
  omega
theorem win_this {L t : Int} (hL : 2 ≤ L) : Int.fdiv t L = t / L := Int.fdiv_eq_ediv_of_nonneg _ (by omega)
section
variable {L M now t : Int} {key : Str} {log : List (Int × Int)} {c1 c2 : List (Str × Int)}
theorem Tab.ok (T : Tab L M key log c1 c2) (hL : 2 ≤ L) {n : Int} (hn : t / L - 1 ≤ n) : KeyOk c1 c2 (kx key n) t := by
  refine ⟨fun h => ?_, fun h => by rw [← T.has n]; exact h⟩
  have h1 := T.exp n h
  have e := Int.emod_add_mul_ediv t L
  have h2 := Int.emod_lt_of_pos t (show 0 < L by omega)
  have h3 : L * (t / L) ≤ L * (n + 1) := Int.mul_le_mul_of_nonneg_left (by omega) (by omega)
  rw [Int.mul_add, Int.mul_comm L n] at h3
  omega
theorem Tab.ok1 (T : Tab L M key log c1 c2) (hL : 2 ≤ L) : KeyOk c1 c2 (kx key (Int.fdiv (t - L) L)) t := by rw [win_prev hL]; exact T.ok hL (Int.le_refl _)
theorem Tab.ok2 (T : Tab L M key log c1 c2) (hL : 2 ≤ L) : KeyOk c1 c2 (kx key (Int.fdiv t L)) t := by rw [win_this hL]; exact T.ok hL (by omega)
theorem Tab.prev (T : Tab L M key log c1 c2) (hL : 2 ≤ L) : kdpLook c1 (kx key (Int.fdiv (t - L) L)) 0 = cnt L log (t / L - 1) := by rw [win_prev hL]; exact T.look _
theorem Tab.this (T : Tab L M key log c1 c2) (hL : 2 ≤ L) : kdpLook c1 (kx key (Int.fdiv t L)) 0 = cnt L log (t / L) := by rw [win_this hL]; exact T.look _
theorem ttl_mul (P : Int) (hL : 2 ≤ L) : P * ttl P L t = P * (L - t % L) := by
  unfold ttl
  by_cases h : P = 0
  · rw [if_pos h, h, Int.zero_mul, Int.zero_mul]
  · rw [if_neg h, Int.fmod_eq_emod_of_nonneg _ (by omega), Int.sub_emod_right]
theorem Tab.weighed (T : Tab L M key log c1 c2) (hL : 2 ≤ L) : weighed c1 key L t = Wt L log t := by
  unfold Mine.weighed Wt
  rw [T.prev hL, T.this hL, ttl_mul _ hL, Int.fdiv_eq_ediv_of_nonneg _ (by omega)]
/-- a hit that is let -/
theorem Tab.hit (T : Tab L M key log c1 c2) (K : LogOk now log) (hL : 2 ≤ L) {amt : Int} (ha : 1 ≤ amt) (hw : Mine.weighed c1 key L t + amt ≤ M) :
    Tab L M key (log ++ [(t, amt)]) (kdpPut c1 (kx key (Int.fdiv t L)) (kdpLook c1 (kx key (Int.fdiv t L)) 0 + amt)) (if kdpLook c1 (kx key (Int.fdiv t L)) 0 = 0 then kdpPut c2 (kx key (Int.fdiv t L)) (t + 2 * L) else c2) := by
  have hC := (Wt_nonneg (t := t) K hL).2
  rw [T.weighed hL] at hw
  have e := Int.emod_add_mul_ediv t L
  have h2 := Int.emod_nonneg t (show L ≠ 0 by omega)
  rw [T.this hL, win_this hL]
  have hk : ∀ n, (kx key n = kx key (t / L)) ↔ n = t / L := fun n => ⟨kx_inj, fun h => by rw [h]⟩
  have hmul : t / L * L = L * (t / L) := Int.mul_comm _ _
  refine ⟨fun n => ?_, fun n => ?_, fun n => ?_, fun n => ?_⟩
  · rw [look_put, cnt_snoc]
    by_cases h : n = t / L
    · rw [if_pos ((hk n).mpr h), if_pos h.symm, h]
    · rw [if_neg (fun q => h ((hk n).mp q)), if_neg (fun q => h q.symm), T.look, Int.add_zero]
  · by_cases hz : cnt L log (t / L) = 0
    · rw [if_pos hz, kdpHas_put, kdpHas_put, T.has]
    · rw [if_neg hz, kdpHas_put, T.has]
      by_cases h : n = t / L
      · subst h
        have hh : kdpHas c1 (kx key (t / L)) = true := by
          cases q : kdpHas c1 (kx key (t / L)) with
          | true => rfl
          | false =>
            have := T.look (t / L)
            have hn := kdpD_isSome (kx key (t / L)) c1
            rw [q] at hn
            have h9 := kdpD_getD c1 (kx key (t / L)) 0
            cases hl : PySem.Spec.lookup (PyData.str (kx key (t / L))) (kdpD c1) with
            | some d => rw [hl] at hn; cases hn
            | none => rw [hl] at h9; exact absurd (this ▸ (PyData.int.inj h9).symm) hz
        rw [← T.has, hh, Bool.or_true]
      · rw [decide_eq_false (fun q => h ((hk n).mp q)), Bool.false_or]
  · rw [kdpHas_put]
    by_cases hz : cnt L log (t / L) = 0
    · rw [if_pos hz, look_put]
      by_cases h : n = t / L
      · intro _; subst h; rw [if_pos rfl]; omega
      · rw [if_neg (fun q => h ((hk n).mp q)), decide_eq_false (fun q => h ((hk n).mp q)), Bool.false_or]; exact T.exp n
    · rw [if_neg hz]
      by_cases h : n = t / L
      · intro _
        subst h
        refine T.exp _ ?_
        cases q : kdpHas c1 (kx key (t / L)) with
        | true => rfl
        | false =>
          have := T.look (t / L)
          have hn := kdpD_isSome (kx key (t / L)) c1
          rw [q] at hn
          have h9 := kdpD_getD c1 (kx key (t / L)) 0
          cases hl : PySem.Spec.lookup (PyData.str (kx key (t / L))) (kdpD c1) with
          | some d => rw [hl] at hn; cases hn
          | none => rw [hl] at h9; exact absurd (this ▸ (PyData.int.inj h9).symm) hz
      · rw [decide_eq_false (fun q => h ((hk n).mp q)), Bool.false_or]; exact T.exp n
  · rw [cnt_snoc]
    by_cases h : n = t / L
    · rw [if_pos h.symm, h]; omega
    · rw [if_neg (fun q => h q.symm), Int.add_zero]; exact T.max n
theorem LogOk.later (K : LogOk now log) (h : now ≤ t) : LogOk t log := fun p hp => by have := K p hp; exact ⟨this.1, by omega, this.2.2⟩
theorem LogOk.snoc (K : LogOk t log) {amt : Int} (h0 : 1000000 ≤ t) (ha : 1 ≤ amt) (h3 : amt ≤ 3) : LogOk t (log ++ [(t, amt)]) := by
  intro p hp
  rcases List.mem_append.mp hp with h | h
  · exact K p h
  · rw [List.mem_singleton.mp h]; exact ⟨h0, Int.le_refl _, ha, h3⟩
theorem Wt_hit (hL : 2 ≤ L) {amt : Int} : Wt L (log ++ [(t, amt)]) t = Wt L log t + amt := by
  unfold Wt
  rw [cnt_snoc, cnt_snoc, if_pos rfl, if_neg (show ¬ t / L = t / L - 1 by omega), Int.add_zero]
  omega
end
/-- what holds between the hits -/
structure Inv1 (L M now0 : Int) (key : Str) (pre : List Int) (c : LS) : Prop where
  n1 : c.c1.length ≤ pre.length
  n2 : c.c2.length ≤ pre.length
  nl : c.log.length ≤ pre.length
  lo : now0 ≤ c.now
  hi : c.now ≤ now0 + 8 * pre.length
  log : LogOk c.now c.log
  tab : Tab L M key c.log c.c1 c.c2
  wt : Wt L c.log c.now ≤ M
theorem Inv1.start {L M now0 : Int} {key : Str} {tn : Tok} {os oe : Obj} (hM : 0 ≤ M) : Inv1 L M now0 key [] ⟨now0, tn, [], [], 0, os, oe, [], [], [], []⟩ :=
  ⟨Nat.le_refl _, Nat.le_refl _, Nat.le_refl _, Int.le_refl _, by simp, (fun _ h => nomatch h), Tab.start L key hM, (by simp [Wt, cnt_nil]; exact hM)⟩
/-- what a hit asks of the two tables at a second t -/
structure Asks (L : Int) (key : Str) (c1 c2 : List (Str × Int)) (t : Int) : Prop where
  ok1 : KeyOk c1 c2 (kx key (Int.fdiv (t - L) L)) t
  ok2 : KeyOk c1 c2 (kx key (Int.fdiv t L)) t
  p0 : 0 ≤ kdpLook c1 (kx key (Int.fdiv (t - L) L)) 0
  p9 : kdpLook c1 (kx key (Int.fdiv (t - L) L)) 0 ≤ 9
  q0 : 0 ≤ kdpLook c1 (kx key (Int.fdiv t L)) 0
  q9 : kdpLook c1 (kx key (Int.fdiv t L)) 0 ≤ 9
theorem Tab.asks {L M now t : Int} {key : Str} {log : List (Int × Int)} {c1 c2 : List (Str × Int)} (T : Tab L M key log c1 c2) (K : LogOk now log) (hL : 2 ≤ L) (hM : M ≤ 9) : Asks L key c1 c2 t := by
  refine ⟨T.ok1 hL, T.ok2 hL, ?_, ?_, ?_, ?_⟩
  · rw [T.prev hL]; exact cnt_nonneg K _
  · rw [T.prev hL]; exact Int.le_trans (T.max _) hM
  · rw [T.this hL]; exact cnt_nonneg K _
  · rw [T.this hL]; exact Int.le_trans (T.max _) hM
section
variable {L M now0 : Int} {key : Str} {pre : List Int} {now t x : Int} {tn tt : Tok} {log : List (Int × Int)} {lvs lvs' : List Value} {ln ln' : Nat} {os oe os' oe' : Obj} {kvs kve kvs' kve' : List (Str × Value)} {c1 c2 c2' : List (Str × Int)}
theorem Inv1.miss (I : Inv1 L M now0 key pre ⟨now, tn, log, lvs, ln, os, oe, kvs, kve, c1, c2⟩) (hL : 2 ≤ L) (h1 : now ≤ t) (h2 : t ≤ now + 8) : Inv1 L M now0 key (pre ++ [x]) ⟨t, tt, log, lvs', ln', os', oe', kvs', kve', c1, c2⟩ := by
  obtain ⟨n1, n2, nl, lo, hi, lg, tab, wt⟩ := I
  dsimp only at *
  refine ⟨?_, ?_, ?_, ?_, ?_, lg.later h1, tab, Int.le_trans (Wt_le lg hL (Int.le_refl _) h1) wt⟩ <;> dsimp only <;> (try rw [List.length_append, List.length_singleton]) <;> omega
theorem Inv1.hit (I : Inv1 L M now0 key pre ⟨now, tn, log, lvs, ln, os, oe, kvs, kve, c1, c2⟩) (hL : 2 ≤ L) (h1 : now ≤ t) (h2 : t ≤ now + 8) (hb : 1000000 ≤ now0) {amt : Int} (ha : 1 ≤ amt) (h3 : amt ≤ 3) (hw : weighed c1 key L t + amt ≤ M)
    (hc : c2' = (if kdpLook c1 (kx key (Int.fdiv t L)) 0 = 0 then kdpPut c2 (kx key (Int.fdiv t L)) (t + 2 * L) else c2)) :
    Inv1 L M now0 key (pre ++ [x]) ⟨t, tt, log ++ [(t, amt)], lvs', ln', os', oe', kvs', kve', kdpPut c1 (kx key (Int.fdiv t L)) (kdpLook c1 (kx key (Int.fdiv t L)) 0 + amt), c2'⟩ := by
  obtain ⟨n1, n2, nl, lo, hi, lg, tab, wt⟩ := I
  subst hc
  dsimp only at *
  have e1 := kdpPut_len c1 (kx key (Int.fdiv t L)) (kdpLook c1 (kx key (Int.fdiv t L)) 0 + amt)
  refine ⟨?_, ?_, ?_, ?_, ?_, (lg.later h1).snoc (by omega) ha h3, tab.hit lg hL ha hw, ?_⟩
  · dsimp only; rw [List.length_append, List.length_singleton]; omega
  · dsimp only; rw [List.length_append, List.length_singleton]
    split
    · have e2 := kdpPut_len c2 (kx key (Int.fdiv t L)) (t + 2 * L); omega
    · omega
  · dsimp only; rw [List.length_append, List.length_append, List.length_singleton, List.length_singleton]; omega
  · dsimp only; omega
  · dsimp only; rw [List.length_append, List.length_singleton]; omega
  · dsimp only; rw [Wt_hit hL, ← tab.weighed hL]; exact hw
end

/-- what the law's turn asks of the stats at a second t -/
structure TurnOk (L M t : Int) (log : List (Int × Int)) (P C left mom parts : Int) : Prop where
  eP : P = cnt L log (t / L - 1)
  eC : C = cnt L log (t / L)
  eL : left = M - Wt L log t
  P0 : 0 ≤ P
  P9 : P ≤ M
  C0 : 0 ≤ C
  C9 : C ≤ M
  l0 : 0 ≤ left
  l9 : left ≤ M
  p1 : 1 ≤ parts
  p9 : parts ≤ 9
  m0 : t ≤ mom
  m9 : mom ≤ t * 9 + 72
  w0 : (M - left - C) * L ≤ P * (t - Int.fmod t L + L - t)
  w1 : P * (t - Int.fmod t L + L - t) < (M - left - C + 1) * L
  b1 : 0 < P → P * ((t - Int.fmod t L + L) * parts - mom) = (M - left - C) * L * parts
  b2 : P = 0 → 0 < C → mom = (t - Int.fmod t L + L) * parts
  b3 : P = 0 → C = 0 → mom = t * parts ∧ left = M
  te : Int.fdiv mom parts = tel L log t
theorem turn_ok {L M now t P C cu pt left mom parts : Int} {key : Str} {log : List (Int × Int)} {c1 c2 : List (Str × Int)} (T : Tab L M key log c1 c2) (K : LogOk now log) (hL : 2 ≤ L) (hL8 : L ≤ 8) (hM9 : M ≤ 9) (ht0 : 1000000 ≤ t)
    (hz : cnt L log (t / L) ≠ 0 → t % L ≠ 0) (hW : Wt L log t ≤ M)
    (eP : kdpLook c1 (kx key (Int.fdiv (t - L) L)) 0 = P) (eC : kdpLook c1 (kx key (Int.fdiv t L)) 0 = C) (eU : cu = L - Int.fmod t L + L) (eQ : pt = ttl P L t) (eL : left = leftOf M (Int.fdiv (P * pt) L + C)) (eT : (mom, parts) = told t L P C cu pt) :
    TurnOk L M t log P C left mom parts := by
  rw [T.prev hL] at eP
  rw [T.this hL] at eC
  have hP := cnt_nonneg (L := L) K (t / L - 1)
  have hC := cnt_nonneg (L := L) K (t / L)
  have hP9 := T.max (t / L - 1)
  have hC9 := T.max (t / L)
  have hm0 := Int.emod_nonneg t (show L ≠ 0 by omega)
  have hm := Int.emod_lt_of_pos t (show 0 < L by omega)
  have hpt : P * pt = P * (L - t % L) := by rw [eQ]; exact ttl_mul P hL
  have hW0 := (Wt_nonneg (t := t) K hL).1
  have hWd : Wt L log t = P * (L - t % L) / L + C := by unfold Wt; rw [eP, eC]
  have hleft : left = M - Wt L log t := by
    rw [eL, hpt, Int.fdiv_eq_ediv_of_nonneg _ (by omega), hWd]
    rw [hWd] at hW
    unfold leftOf
    split <;> omega
  have hfm : Int.fmod t L = t % L := Int.fmod_eq_emod_of_nonneg _ (by omega)
  have hcu : Int.fmod cu L = if t % L = 0 then 0 else L - t % L := by
    rw [eU, hfm, Int.fmod_eq_emod_of_nonneg _ (by omega)]
    have e1 : L - t % L + L = (L - t % L) + L * 1 := by omega
    rw [e1, Int.add_mul_emod_self_left]
    by_cases h : t % L = 0
    · rw [if_pos h, h, Int.sub_zero, Int.emod_self]
    · rw [if_neg h, Int.emod_eq_of_lt (by omega) (by omega)]
  have hrest : Int.fmod (pt * P) L = P * (L - t % L) % L := by rw [Int.mul_comm, hpt, Int.fmod_eq_emod_of_nonneg _ (by omega)]
  have hpe := parts_eq (L := L) (P := P) (d := L - t % L)
  have hr0 := Int.emod_nonneg (P * (L - t % L)) (show L ≠ 0 by omega)
  have hrL := Int.emod_lt_of_pos (P * (L - t % L)) (show 0 < L by omega)
  have hw : M - left - C = P * (L - t % L) / L := by omega
  have hq0 : 0 ≤ P * (L - t % L) / L := Int.ediv_nonneg (Int.mul_nonneg (by omega) (by omega)) (by omega)
  have hdd : t - Int.fmod t L + L - t = L - t % L := by rw [hfm]; omega
  have hcomm : P * (L - t % L) / L * L = L * (P * (L - t % L) / L) := Int.mul_comm _ _
  -- the told pair, by cases
  have hpair : (P = 0 → C = 0 → mom = t ∧ parts = 1) ∧ (P = 0 → C ≠ 0 → mom = t - t % L + L ∧ parts = 1) ∧ (P ≠ 0 → mom = t * P + P * (L - t % L) % L ∧ parts = P) := by
    unfold told at eT
    refine ⟨fun h1 h2 => ?_, fun h1 h2 => ?_, fun h1 => ?_⟩
    · rw [if_pos h1, if_pos h2] at eT; exact ⟨(Prod.mk.inj eT).1, (Prod.mk.inj eT).2⟩
    · rw [if_pos h1, if_neg h2, hcu, if_neg (hz (by rw [eC]; exact h2))] at eT
      exact ⟨by have := (Prod.mk.inj eT).1; omega, (Prod.mk.inj eT).2⟩
    · rw [if_neg h1] at eT
      by_cases h2 : C = 0
      · rw [if_pos h2, hrest] at eT; exact ⟨(Prod.mk.inj eT).1, (Prod.mk.inj eT).2⟩
      · rw [if_neg h2, hrest, hcu, if_neg (hz (by rw [eC]; exact h2))] at eT
        have hle : P * (L - t % L) % L ≤ (L - t % L) * P := by
          rw [Int.mul_comm (L - t % L) P]
          have : 0 ≤ L * (P * (L - t % L) / L) := Int.mul_nonneg (by omega) hq0
          omega
        rw [if_neg (by omega)] at eT
        exact ⟨(Prod.mk.inj eT).1, (Prod.mk.inj eT).2⟩
  obtain ⟨k1, k2, k3⟩ := hpair
  have htel : tel L log t = if P = 0 then (if C = 0 then t else t - t % L + L) else t + (P * (L - t % L) % L) / P := by unfold tel; rw [eP, eC]
  refine ⟨eP.symm, eC.symm, hleft, by omega, by omega, by omega, by omega, by omega, by omega, ?_, ?_, ?_, ?_, ?_, ?_, ?_, ?_, ?_, ?_⟩
  · by_cases h1 : P = 0
    · by_cases h2 : C = 0
      · have := k1 h1 h2; omega
      · have := k2 h1 h2; omega
    · have := k3 h1; omega
  · by_cases h1 : P = 0
    · by_cases h2 : C = 0
      · have := k1 h1 h2; omega
      · have := k2 h1 h2; omega
    · have := k3 h1; omega
  · by_cases h1 : P = 0
    · by_cases h2 : C = 0
      · have := k1 h1 h2; omega
      · have := k2 h1 h2; omega
    · have := k3 h1
      have h9 : t * 1 ≤ t * P := Int.mul_le_mul_of_nonneg_left (by omega) (by omega)
      omega
  · by_cases h1 : P = 0
    · by_cases h2 : C = 0
      · have := k1 h1 h2; omega
      · have := k2 h1 h2; omega
    · have := k3 h1
      have h9 : t * P ≤ t * 9 := Int.mul_le_mul_of_nonneg_left (by omega) (by omega)
      omega
  · rw [hw, hdd]; omega
  · rw [hw, hdd, Int.add_mul]; omega
  · intro h
    have k := k3 (by omega)
    rw [hw, hfm, k.1, k.2]
    have e1 : (t - t % L + L) * P - (t * P + P * (L - t % L) % L) = P * (L - t % L) - P * (L - t % L) % L := by
      have : t - t % L + L = t + (L - t % L) := by omega
      rw [this, Int.add_mul, Int.mul_comm (L - t % L) P]; omega
    have e2 : P * (L - t % L) - P * (L - t % L) % L = P * (L - t % L) / L * L := by omega
    rw [e1, e2, Int.mul_comm]
  · intro h1 h2
    have k := k2 h1 (by omega)
    rw [k.1, k.2, hfm]; omega
  · intro h1 h2
    have k := k1 h1 h2
    refine ⟨by rw [k.1, k.2]; omega, ?_⟩
    rw [hleft, hWd, h1, h2, Int.zero_mul, Int.zero_ediv]; omega
  · rw [htel]
    by_cases h1 : P = 0
    · rw [if_pos h1]
      by_cases h2 : C = 0
      · rw [if_pos h2, (k1 h1 h2).1, (k1 h1 h2).2, Int.fdiv_one]
      · rw [if_neg h2, (k2 h1 h2).1, (k2 h1 h2).2, Int.fdiv_one]
    · rw [if_neg h1, (k3 h1).1, (k3 h1).2, Int.fdiv_eq_ediv_of_nonneg _ (by omega), Int.add_comm, Int.add_mul_ediv_right _ _ h1, Int.add_comm]

theorem slice_from {vs : List Value} {x : Int} (h : 0 ≤ x) : (slicePick vs.toArray (some x) none none).toList = vs.drop x.toNat := by
  have e : sliceBounds (some x) none none vs.toArray.size = (((min x.toNat vs.toArray.size : Nat) : Int), ((vs.toArray.size : Nat) : Int), 1) := by
    simp only [sliceBounds, Option.getD_none, show (1 : Int) > 0 by decide, if_true, if_neg (show ¬ (x < 0) by omega)]
    congr 1
    omega
  rw [kmk_pick_nat _ e]
  show (vs.drop (min x.toNat vs.toArray.size)).take (vs.toArray.size - min x.toNat vs.toArray.size) = _
  rw [List.size_toArray, kmk_drop_min, List.take_of_length_le (by rw [List.length_drop]; omega)]
theorem DatAll.dropped {news : List (Addr × Obj)} {vs : List Value} {ds : List Dat} (h : DatAll news vs ds) (k : Nat) : DatAll news (vs.drop k) (ds.drop k) := by
  induction k generalizing vs ds with
  | zero => exact h
  | succ k ih =>
    cases h with
    | nil => exact .nil
    | cons _ r => exact ih r
section
variable {prog : Program} {w : World} {A : Around} {E : Value → Shared → Prop} {s : Shared} {env : Env} {h₀ : Heap} {target : PySem.Expr} {body : List Stmt} {Q : Flow → Shared → Prop}
set_option maxHeartbeats 3200000 in
/-- a loop over a list of the ledger, whatever the target -/
theorem turns_iter {l : Addr} {vs : List Value} {nn : Nat} {m₀ : Str → Option Value} {news : List (Addr × Obj)} (J : Nat → (Str → Option Value) → List (Addr × Obj) → Prop)
    (hh : A.handled = none) (hl : (l, listOf vs.toArray nn) ∈ news) (F : Fr h₀ env.locals s.heap m₀) (N : News h₀ env.locals s.heap news) (hj : J 0 m₀ news)
    (turn : ∀ i v m₁ news₁ h tk own, vs[i]? = some v → OwnOff own (news₁.map (·.1)) → (l, listOf vs.toArray nn) ∈ news₁ → J i m₁ news₁ → Fr h₀ env.locals h m₁ → News h₀ env.locals h (news₁ ++ own) →
      wpAny (model prog w) A (assign target env v) (fun _ s₃ => wpAny (model prog w) A (execs body env) (InvPostG h₀ env.locals (fun m' nx => (l, listOf vs.toArray nn) ∈ nx ∧ J (i + 1) m' nx) own { s with heap := h, toks := tk } Q) E s₃) E { s with heap := h, toks := tk })
    (done : ∀ m₁ news₁ h tk, J vs.length m₁ news₁ → Fr h₀ env.locals h m₁ → News h₀ env.locals h news₁ → Q .next { s with heap := h, toks := tk }) :
    wpAny (model prog w) A (pyIter (.ref l)) (fun it s₂ => TurnsAt prog w A h₀ env target body Q E it s₂) E s := by
  have hol : s.heap.get? l = some (listOf vs.toArray nn) := (N _ hl).1
  have hls : s.heap.IsList l vs.toArray := ⟨_, hol, rfl, nn, rfl⟩
  have hne : l ≠ s.heap.objs.size := Nat.ne_of_lt (Heap.lt_size hol)
  refine wpAny_pyIter_list hls ?_
  have W := Walks.list (prog := prog) (w := w) hh s.heap.objs.size l hne vs.toArray
  have hlen : vs.toArray.size = vs.length := by simp
  rw [hlen] at W
  have W2 := KTurns.ofWalks (target := target) W fun i v s Q E st q => letGo_listiter st.1 q
  refine ⟨_, _, _, vs.length, _, _, _, m₀, news, (fun i m nx => (l, listOf vs.toArray nn) ∈ nx ∧ J i m nx), rfl, W2, ?_, ?_, ?_, ⟨⟨_, Heap.get?_push_size _ rfl, rfl, rfl⟩, hls.at fun o e => Heap.get?_push_of_some _ e⟩, F.push _, (fun p hp => ⟨Heap.get?_push_of_some _ (N p hp).1, (N p hp).2⟩), ⟨hl, hj⟩, ?_, ?_⟩
  · intro hm
    rcases List.mem_cons.mp hm with e | hm
    · exact absurd F.ns.lt (e ▸ Nat.lt_irrefl _)
    · exact (N _ hl).2.1 ((List.mem_singleton.mp hm).symm)
  · intro b hb
    rw [List.mem_singleton.mp hb]
    exact next_is_new F
  · intro p hp hI
    exact absurd (Heap.lt_size (N p hp).1) ((List.mem_singleton.mp hI) ▸ Nat.lt_irrefl _)
  · rintro i v m₁ news₁ hh' tk' own hin hP ⟨hl₁, hJ⟩ hoff hown hget hfp hst F₁ N₁
    have hP' : vs[i]? = some v := by simpa using hP
    have hI0 : h₀.get? s.heap.objs.size = none := next_is_new F
    obtain ⟨⟨oI, hoI, _⟩, _⟩ := id hst
    have hIown : (s.heap.objs.size, oI) ∈ own.filter fun p => decide (p.1 = s.heap.objs.size) := List.mem_filter.mpr ⟨hfp _ (List.mem_cons.mpr (.inl rfl)) hI0 _ hoI, by simp⟩
    have hsep : OwnOff (own.filter fun p => decide (p.1 = s.heap.objs.size)) (news₁.map (·.1)) := by
      intro p hp b hb e
      obtain ⟨q, hq, rfl⟩ := List.mem_map.mp hb
      have h1 : p.1 = s.heap.objs.size := by simpa using (List.mem_filter.mp hp).2
      exact hoff q hq (List.mem_singleton.mpr (e ▸ h1))
    have N₂ : News h₀ env.locals hh' (news₁ ++ own.filter fun p => decide (p.1 = s.heap.objs.size)) := fun p hp => N₁ p ((List.mem_append.mp hp).elim (fun h => List.mem_append.mpr (.inr h)) fun h => List.mem_append.mpr (.inl ((List.mem_filter.mp h).1)))
    have hlo : hh'.get? l = some (listOf vs.toArray nn) := (N₁ _ (List.mem_append.mpr (.inr hl₁))).1
    refine wpAny_mono (turn i v m₁ news₁ hh' tk' _ hP' hsep hl₁ hJ F₁ N₂) (fun _ s₃ r => wpAny_mono r (fun f s₂ p => ?_) fun _ _ e => e) fun _ _ e => e
    have fin : InvEndG h₀ env.locals (fun m' nx => (l, listOf vs.toArray nn) ∈ nx ∧ J (i + 1) m' nx) (own.filter fun p => decide (p.1 = s.heap.objs.size)) { s with heap := hh', toks := tk' } s₂ →
        LoopStepU h₀ env.locals [s.heap.objs.size] own (fun m nx => (l, listOf vs.toArray nn) ∈ nx ∧ J (i + 1) m nx) { s with heap := hh', toks := tk' } .next s₂ := by
      rintro ⟨h', tk, m', news', nx, e, F', N', hn, ho, ha, hm⟩
      refine ⟨rfl, h', tk, m', nx, e, F', fun p hp => ?_, fun p hp hq => ?_, hm⟩
      · rcases List.mem_append.mp hp with h | h
        · by_cases hI : p.1 = s.heap.objs.size
          · exact N' p (ho p (List.mem_filter.mpr ⟨h, by simpa using hI⟩))
          · have h1 : p.1 = l := by
              rcases List.mem_cons.mp (hown p h) with h2 | h2
              · exact absurd h2 hI
              · exact List.mem_singleton.mp h2
            have h2 : hh'.get? p.1 = some p.2 := hget p h
            rw [h1, hlo] at h2
            have h3 : p = (l, listOf vs.toArray nn) := Prod.ext h1 (Option.some.inj h2).symm
            rw [h3]
            exact N' _ (hn _ hm.1)
        · exact N' p (hn p h)
      · exact ha _ hIown p.1 (List.mem_map.mpr ⟨p, hp, rfl⟩) (List.mem_singleton.mp hq).symm
    cases f with
    | ret v => exact .ret p
    | brk => exact .brk p
    | next => exact .next (fin p)
    | cont => exact .cont (fin p)
  · rintro h' tk m' news' F' N' _ ⟨_, hJ⟩
    exact done m' news' h' tk hJ F' N'
set_option maxHeartbeats 3200000 in
/-- a loop over a list of data of the ledger, whatever the target -/
theorem turns_list {σ : Type} {x : Str} {l : Addr} {vs : List Value} {ds : List Dat} {nn : Nat} {m₀ : Str → Option Value} {news : List (Addr × Obj)} (Led : σ → List (Addr × Obj)) (cst : List (Addr × Obj)) (ps : σ → List (Str × Value)) (Facts : List (Addr × Obj) → σ → Prop) (stored : List Str) (P : List Dat → σ → Prop) (adr : List Addr) (c₀ : σ)
    (hh : A.handled = none) (hl : (l, listOf vs.toArray nn) ∈ cst) (hd : DatAll (cst ++ []) vs ds) (F : Fr h₀ env.locals s.heap m₀) (N : News h₀ env.locals s.heap news) (hn : ∀ p ∈ Led c₀ ++ (cst ++ []), p ∈ news) (hadr : ∀ c, (Led c ++ cst).map (·.1) = adr) (hf : Facts (cst ++ []) c₀) (hk : ∀ p ∈ ps c₀, m₀ p.1 = some p.2) (hp : P [] c₀)
    (turn : ∀ (c : σ) tl pre d post v (u : Str → Option Value) h tk own, ds = pre ++ d :: post → d ∈ ds → DatIn (cst ++ tl) v d → KdSep own tl adr → OwnOff (tl ++ own) adr → Facts (cst ++ tl) c → P pre c →
      Fr h₀ env.locals h (fun y => if y = x then u y else kstB (fun z => if stored.contains z then u z else m₀ z) (ps c) y) → News h₀ env.locals h (Led c ++ (cst ++ (tl ++ own))) →
      wpAny (model prog w) A (assign target env v) (fun _ s₃ => wpAny (model prog w) A (execs body env) (InvPostG h₀ env.locals (KdS Led cst ps Facts x stored m₀ P adr (pre ++ [d])) own { s with heap := h, toks := tk } Q) E s₃) E { s with heap := h, toks := tk })
    (done : ∀ (c : σ) tl (u : Str → Option Value) h tk, OwnOff tl adr → Facts (cst ++ tl) c → P ds c → Fr h₀ env.locals h (fun y => if y = x then u y else kstB (fun z => if stored.contains z then u z else m₀ z) (ps c) y) → News h₀ env.locals h (Led c ++ (cst ++ tl)) → Q .next { s with heap := h, toks := tk }) :
    wpAny (model prog w) A (pyIter (.ref l)) (fun it s₂ => TurnsAt prog w A h₀ env target body Q E it s₂) E s := by
  have hlen : vs.length = ds.length := hd.length
  refine turns_iter (news := Led c₀ ++ (cst ++ [])) (fun i m nx => KdS Led cst ps Facts x stored m₀ P adr (ds.take i) m nx) hh (List.mem_append.mpr (.inr (List.mem_append.mpr (.inl hl)))) F (fun p hp => N p (hn p hp)) ⟨c₀, [], rfl, fun _ hp => (nomatch hp), hf, hk, fun _ _ _ _ => rfl, by simpa using hp⟩ ?_ ?_
  · rintro i v m₁ nx h tk own hv hoff _ ⟨c, tl, rfl, ht, hf', h1, h2, hp'⟩ F₁ N₁
    have hi : i < ds.length := by rw [← hlen]; exact (List.getElem?_eq_some_iff.mp hv).1
    obtain ⟨v', hv', hD⟩ := hd.get hi
    have ev : v' = v := by rw [hv] at hv'; exact (Option.some.inj hv').symm
    rw [ev] at hD
    have hs : ds.take (i + 1) = ds.take i ++ [ds[i]'hi] := by rw [List.take_add_one, List.getElem?_eq_getElem hi] <;> rfl
    have e : ds = ds.take i ++ (ds[i]'hi) :: ds.drop (i + 1) := by
      have h9 := List.take_append_drop (i + 1) ds
      rw [hs, List.append_assoc] at h9
      exact h9.symm
    obtain ⟨o1, o2⟩ := kd_split (hadr c) hoff
    rw [List.append_assoc, List.append_assoc] at N₁
    refine wpAny_mono (turn c tl _ _ _ v m₁ h tk own e (List.getElem_mem hi) (DatIn.mono (fun p hp => List.mem_append.mpr (.inl (by rw [List.append_nil] at hp; exact hp))) hD) ⟨o1, o2, ht⟩ (kd_off o1 ht) hf' hp' (kst_frOut h1 h2 F₁) N₁) (fun _ s₃ r => wpAny_mono r (fun f s₂ p => ?_) fun _ _ x => x) fun _ _ x => x
    have up : InvEndG h₀ env.locals (KdS Led cst ps Facts x stored m₀ P adr (ds.take i ++ [ds[i]'hi])) own { s with heap := h, toks := tk } s₂ →
        InvEndG h₀ env.locals (fun m' nx => (l, listOf vs.toArray nn) ∈ nx ∧ KdS Led cst ps Facts x stored m₀ P adr (ds.take (i + 1)) m' nx) own { s with heap := h, toks := tk } s₂ := by
      rintro ⟨h', tk', m', news', nx', e', F', N', hn', ho', ha, hS⟩
      refine ⟨h', tk', m', news', nx', e', F', N', hn', ho', ha, ?_, by rw [hs]; exact hS⟩
      obtain ⟨c', tl', rfl, _⟩ := hS
      exact List.mem_append.mpr (.inr (List.mem_append.mpr (.inl hl)))
    cases f with
    | ret v => exact p
    | brk => exact p
    | next => exact up p
    | cont => exact up p
  · rintro m₁ nx h tk ⟨c, tl, rfl, ht, hf', h1, h2, hp'⟩ F₁ N₁
    rw [hlen, List.take_length] at hp'
    exact done c tl m₁ h tk ht hf' hp' (kst_frOut h1 h2 F₁) N₁
end

structure Wrap (p : Prop) : Prop where
  out : p
def PremOf {P Q : Prop} (_ : P → Q) : Prop := P
theorem len_ne (x : Int) : ¬ 2 + Int.fmod (x + 3) 7 = 0 := by
  have := Int.fmod_nonneg_of_pos (x + 3) (show (0 : Int) < 7 by decide)
  omega
theorem len_bd (x : Int) : 2 ≤ 2 + Int.fmod (x + 3) 7 ∧ 2 + Int.fmod (x + 3) 7 ≤ 8 := by
  have := Int.fmod_nonneg_of_pos (x + 3) (show (0 : Int) < 7 by decide)
  have := Int.fmod_lt_of_pos (x + 3) (show (0 : Int) < 7 by decide)
  omega
theorem most_bd (x : Int) : 1 ≤ 1 + Int.fmod (x + 5) 9 ∧ 1 + Int.fmod (x + 5) 9 ≤ 9 := by
  have := Int.fmod_nonneg_of_pos (x + 5) (show (0 : Int) < 9 by decide)
  have := Int.fmod_lt_of_pos (x + 5) (show (0 : Int) < 9 by decide)
  omega
theorem now_bd (x : Int) : 1000000 ≤ 1000000 + Int.fmod x 1000000000 ∧ 1000000 + Int.fmod x 1000000000 ≤ 1001000000 := by
  have := Int.fmod_nonneg_of_pos x (show (0 : Int) < 1000000000 by decide)
  have := Int.fmod_lt_of_pos x (show (0 : Int) < 1000000000 by decide)
  omega
/-- what stays through the whole law -/
inductive Frame (w : World) (s₀ s₁ : Shared) (p : Program) (loose : List Str) (mean : ExcName → Option Value) (mg mb : Str → Option Value) (base : Str → Option Value) (most len : Int) (ll nm x3 d3 x2 d2 x1 d1 ds de dv f cq nl : Addr) (t1 t2 t3 t4 t5 t6 t7 t8 tm tl u1 tA qm ql : Tok) (fo co oq : Obj) (ps : Array Value) : Prop
  | mk (B : Below callerA (ghostOf s₁.heap [(576, 572)]) [] (ghostOf s₁.heap [(576, 572)])) (X : (Mine.hd.heap_39 w.params).In (ghostOf s₁.heap [(576, 572)])) (T : Top p loose mean mg mb (ghostOf s₁.heap [(576, 572)])) (hg : s₁.gens = #[]) (hC : ClockSpec w p loose mean mg mb f (s₁.heap.objs.size + 1) nl cq fo co oq) (hd : co.data = .cell (some (.ref nl))) (ls : (ds == sysModules) = false) (le : (de == sysModules) = false) (ch : @LT.lt Nat _ (572) (s₁.heap.objs.size + 1) ∧ @LT.lt Nat _ (s₁.heap.objs.size + 1) (nl) ∧ @LT.lt Nat _ (nl) (cq) ∧ @LT.lt Nat _ (cq) (f) ∧ @LT.lt Nat _ (f) (d1) ∧ @LT.lt Nat _ (d1) (x1) ∧ @LT.lt Nat _ (x1) (ds) ∧ @LT.lt Nat _ (ds) (de) ∧ @LT.lt Nat _ (de) (d2) ∧ @LT.lt Nat _ (d2) (x2) ∧ @LT.lt Nat _ (x2) (d3) ∧ @LT.lt Nat _ (d3) (x3) ∧ @LT.lt Nat _ (x3) (nm) ∧ @LT.lt Nat _ (nm) (ll)) (m0 : 1 ≤ most) (m9 : most ≤ 9) (l0 : 2 ≤ len) (l9 : len ≤ 8)
/-- the law's state ahead of its first loop -/
inductive Start1 (w : World) (s₀ s₁ : Shared) (l : Addr) (h : Heap) (p : Program) (loose : List Str) (mean : ExcName → Option Value) (mg mb : Str → Option Value) (base : Str → Option Value) (most len : Int) (ll nm x3 d3 x2 d2 x1 d1 ds de dv f cq nl : Addr) (t1 t2 t3 t4 t5 t6 t7 t8 tm tl u1 tA qm ql : Tok) (fo co oq : Obj) (ps : Array Value) (now0 : Int) (tn : Tok) (os oe : Obj) (vs : List Value) (xs : List Int) : Prop
  | mk (F : Fr (ghostOf s₁.heap [(576, 572)]) s₁.heap.objs.size h (fun y => if y = Str.ofString "log" then some (.ref ll) else if y = Str.ofString "names" then some (.ref nm) else if y = Str.ofString "item" then some (.ref x3) else if y = Str.ofString "limiter" then some (.ref x2) else if y = Str.ofString "most" then some (.int most qm) else if y = Str.ofString "length" then some (.int len ql) else base y)) (N : News (ghostOf s₁.heap [(576, 572)]) s₁.heap.objs.size h ((ds, os) :: (de, oe) :: (ll, listOf #[] 0) :: (nl, listOf #[.int now0 tn] 0) :: (l, listOf vs.toArray 0) :: [(nm, tupK [.str (Str.ofString "ann") tA].toArray 0), (x3, instObj 423 d3), (d3, dictOf [⟨PySem.PyData.keyHash w.params (Str.ofString "namespace"), .str (Str.ofString "namespace") t5, .str (Str.ofString "LIMITER") t8⟩, ⟨PySem.PyData.keyHash w.params (Str.ofString "amount"), .str (Str.ofString "amount") t6, .int most tm⟩, ⟨PySem.PyData.keyHash w.params (Str.ofString "multiples"), .str (Str.ofString "multiples") t7, .int len tl⟩] 3), (x2, instObj 218 d2), (d2, dictOf [⟨PySem.PyData.keyHash w.params (Str.ofString "storage"), .str (Str.ofString "storage") u1, .ref x1⟩] 1), (x1, instObj 568 d1), (d1, dictOf [⟨PySem.PyData.keyHash w.params (Str.ofString "clock"), .str (Str.ofString "clock") t1, .ref f⟩, ⟨PySem.PyData.keyHash w.params (Str.ofString "storage"), .str (Str.ofString "storage") t2, .ref ds⟩, ⟨PySem.PyData.keyHash w.params (Str.ofString "expirations"), .str (Str.ofString "expirations") t3, .ref de⟩, ⟨PySem.PyData.keyHash w.params (Str.ofString "events"), .str (Str.ofString "events") t4, .ref dv⟩] 4), (f, fo), (cq, oq), (s₁.heap.objs.size + 1, co), (572, tabObj ps)])) (fr : Frame w s₀ s₁ p loose mean mg mb base most len ll nm x3 d3 x2 d2 x1 d1 ds de dv f cq nl t1 t2 t3 t4 t5 t6 t7 t8 tm tl u1 tA qm ql fo co oq ps) (hs : os.IsDictOf (strKind PG w) []) (he : oe.IsDictOf (strKind PG w) []) (hi : IntsAre vs xs) (hx : xs.length ≤ 12) (ch2 : @LT.lt Nat _ ll l) (n0 : 1000000 ≤ now0) (n9 : now0 ≤ 1001000000)
theorem red1 {h₀ : Heap} {L : Addr} {h : Heap} {e1 e2 e3 e4 e5 e6 e7 e8 e9 e10 e11 e12 e13 e14 e15 e16 e17 e18 e19 e20 e21 e22 : Addr × Obj}
    (N : News h₀ L h [e1, e2, e3, e4, e5, e6, e7, e8, e9, e10, e11, e12, e13, e14, e15, e16, e17, e18, e19, e20, e21, e22]) :
    News h₀ L h [e10, e9, e2, e15, e1, e3, e4, e5, e6, e7, e11, e12, e13, e14, e21, e22] := by
  refine cb_drop N fun p hp => ?_
  simp only [List.mem_cons, List.not_mem_nil, or_false] at hp ⊢
  rcases hp with h | h | h | h | h | h | h | h | h | h | h | h | h | h | h | h <;> simp [h]
theorem ane_cons {q : Addr × Obj} {l : List (Addr × Obj)} {b : Addr} (h : @Ne Nat q.1 b) (h2 : ∀ p ∈ l, p.1 ≠ b) : ∀ p ∈ q :: l, p.1 ≠ b := fun p hp => by
  rcases List.mem_cons.mp hp with e | hp
  · subst e; exact h
  · exact h2 p hp
theorem mod_bd {len n : Int} (l0 : 2 ≤ len) (l9 : len ≤ 8) : 0 ≤ Int.fmod n (len + 1) ∧ Int.fmod n (len + 1) ≤ 8 := by
  have := Int.fmod_nonneg_of_pos n (show 0 < len + 1 by omega)
  have := Int.fmod_lt_of_pos n (show 0 < len + 1 by omega)
  omega
theorem cost_bd (n : Int) : 1 ≤ 1 + Int.fmod n 3 ∧ 1 + Int.fmod n 3 ≤ 3 := by
  have := Int.fmod_nonneg_of_pos n (show (0 : Int) < 3 by decide)
  have := Int.fmod_lt_of_pos n (show (0 : Int) < 3 by decide)
  omega
/-- what a turn of the first loop needs at its second -/
theorem turn1 {len most now0 now t : Int} {pre post xs : List Int} {n : Int} {tn : Tok} {log : List (Int × Int)} {lvs : List Value} {ln : Nat} {os oe : Obj} {kvs kve : List (Str × Value)} {c1 c2 : List (Str × Int)}
    (I : Inv1 len most now0 (keyOf most len) pre ⟨now, tn, log, lvs, ln, os, oe, kvs, kve, c1, c2⟩) (e1 : xs = pre ++ n :: post) (hx : xs.length ≤ 12) (n0 : 1000000 ≤ now0) (n9 : now0 ≤ 1001000000) (l0 : 2 ≤ len) (m9 : most ≤ 9) (h0 : 0 ≤ t) (h8 : t ≤ 8) :
    Asks len (keyOf most len) c1 c2 (now + t) ∧ c1.length ≤ 1000 ∧ c2.length ≤ 1000 ∧ 1000000 ≤ now + t ∧ now + t ≤ 2000000000 := by
  have hl : pre.length ≤ 12 := by rw [e1, List.length_append] at hx; omega
  have i1 := I.n1; have i2 := I.n2; have i3 := I.lo; have i4 := I.hi
  dsimp only at i1 i2 i3 i4
  exact ⟨I.tab.asks I.log l0 m9, by omega, by omega, by omega, by omega⟩
theorem in_all0 {a b c d : List (Addr × Obj)} : ∀ p ∈ a ++ (b ++ ([] ++ c)), p ∈ a ++ (b ++ (c ++ d)) := fun p hp => by
  simp only [List.nil_append, List.mem_append] at hp ⊢
  rcases hp with h | h | h <;> simp [h]
theorem in_all1 {q : Addr × Obj} {a b c d : List (Addr × Obj)} : ∀ p ∈ a ++ (b ++ ([q] ++ c)), p ∈ q :: (a ++ (b ++ (c ++ d))) := fun p hp => by
  simp only [List.mem_append, List.mem_cons, List.not_mem_nil, or_false] at hp ⊢
  rcases hp with h | h | h | h <;> simp [h]
theorem in_own0 {a b c d : List (Addr × Obj)} : ∀ p ∈ d, p ∈ a ++ (b ++ (c ++ d)) := fun p hp => by simp [hp]
theorem in_own1 {q : Addr × Obj} {a b c d : List (Addr × Obj)} : ∀ p ∈ d, p ∈ q :: (a ++ (b ++ (c ++ d))) := fun p hp => by simp [hp]
theorem log_snoc {nx : List (Addr × Obj)} {lvs : List Value} {log : List (Int × Int)} {a : Addr} {x y : Int} {t u : Tok} {k : Nat} (h : DatAll nx lvs (logDat log)) (hm : (a, tupK [.int x t, .int y u].toArray k) ∈ nx) : DatAll nx (lvs ++ [.ref a]) (logDat (log ++ [(x, y)])) := by
  rw [logDat, List.map_append]
  exact h.append (DatAll.one (.tuple hm (.cons (.int _ _) (.cons (.int _ _) .nil))))
theorem log_size {now0 len most : Int} {key : Str} {pre post xs : List Int} {n : Int} {c : LS} {nx : List (Addr × Obj)} (I : Inv1 len most now0 key pre c) (e1 : xs = pre ++ n :: post) (hx : xs.length ≤ 12) (hl : DatAll nx c.lvs (logDat c.log)) : c.lvs.toArray.size ≤ sizeLine := by
  have h1 := hl.length
  have h2 := I.nl
  rw [e1, List.length_append] at hx
  rw [logDat, List.length_map] at h1
  rw [List.size_toArray, sizeLine_eq]
  omega

section
local macro_rules | `(tactic| walk_at "exec For") => `(tactic| (k_here; (with_reducible show wpAny _ _ (exec (Stmt.For (Expr.Name _ _) (Expr.Subscript _ _ _) _ [] _) _) _ _ _); (rename Fr _ _ _ _ => F9); (with_unfolding_all refine For_invVF F9 (by rfl) (by rfl) ?_)))
-- macs: F0
set_option maxHeartbeats 8000000 in
noncomputable def W1 : PSigma fun GC : World → Shared → Shared → (Str → Option Value) → (Str → Option Value) → Addr → Addr → Obj → Addr → Addr → Obj → Array Value → Tok → Value → Prop =>
    PSigma fun G : World → Shared → Shared → Addr → List Int → Nat → Addr → Heap → Prop =>
    (Wrap (∀ (w : World) (s₀ s₁ : Shared) (mg mb : Str → Option Value) (fa nl : Addr) (co : Obj) (f c : Addr) (oc : Obj) (vs : Array Value) (t : Tok) (ct : Value), co.data = .cell (some (.ref nl)) → oc.data = .fields vs → GC w s₀ s₁ mg mb fa nl co f c oc vs t ct)) →
    (Wrap (∀ (w : World) (s₀ s₁ : Shared) (fa : Addr) (ns : List Int) (tk : Nat) (l : Addr) (h : Heap) (p : Program) (loose : List Str) (mean : ExcName → Option Value) (mg mb : Str → Option Value) (base : Str → Option Value) (most len : Int) (ll nm x3 d3 x2 d2 x1 d1 ds de dv f cq nl : Addr) (t1 t2 t3 t4 t5 t6 t7 t8 tm tl u1 tA qm ql : Tok) (fo co oq : Obj) (ps : Array Value) (now0 : Int) (tn : Tok) (os oe : Obj) (vs : List Value) (xs : List Int), Start1 w s₀ s₁ l h p loose mean mg mb base most len ll nm x3 d3 x2 d2 x1 d1 ds de dv f cq nl t1 t2 t3 t4 t5 t6 t7 t8 tm tl u1 tA qm ql fo co oq ps now0 tn os oe vs xs → G w s₀ s₁ fa ns tk l h)) → PremOf hd := by
  refine' ⟨_, _, fun hR0 hR => _⟩
  rotate_left
  rotate_left
  · delta PremOf hdS
    dsimp only
    w_on
    w_strict (k_go0; (all_goals try k_fold); (repeat' ((fail_if_success (with_reducible show wpAny _ _ (pyIter (Value.ref _)) (fun _ _ => LoopAtV _ _ _ _ _ _ _ _ _ _ _) _ _)); first | (k_unfold; (try dsimp only)) | (k_end; wrow_close) | walk1 | (dsimp only; walk1) | (leave1; walk_say "STEP leave1"; try dsimp only) | fail "no step")); (all_goals (try (exfalso; exact len_ne _ (by assumption)))); expose_names; dsimp only)
    have k := hR.out w s₀ s₁ fa w_1 tk D'_5 h'_34 _ _ _ mg mb _ _ _ _ _ _ _ _ _ _ _ _ _ _ _ _ _ _ _ _ _ _ _ _ _ _ _ _ _ _ _ _ _ _ _ _ _ _ _ _ _ ⟨F'_3, red1 N'_3, ⟨K', X', T', hg, ?hC, d', lo', lo'_1, ?ch, (most_bd _).1, (most_bd _).2, (len_bd _).1, (len_bd _).2⟩, hs', hs'_1, hI'_3, ?hx, ?ch2, (now_bd _).1, (now_bd _).2⟩
    · have ht : True := trivial
      revert ht
      exact k
    case ch => omega
    case ch2 => omega
    case hx => rw [hC'_2]; omega
    case hC =>
      have k := hR0.out w s₀ s₁ mg mb fa l'_1 o' f' c'_1 oc' vs' t' ct' d' d1'
      revert d2'
      exact k

end
section
local macro_rules | `(tactic| k_mem) => `(tactic| first | assumption | exact List.mem_cons_self | (refine List.mem_cons_of_mem _ ?_; k_mem))
local macro_rules | `(tactic| walk_at "callWith ref") => `(tactic| (k_here; k_dflt (first | (refine' callWith_F ?k1 ?_; (case k1 => exact FnAt.of (by k_asm) (by k_mem)); k_whole) | (refine' callWith_F0 ?k1 ?_; (case k1 => exact FnAt.of (by k_asm) (by k_mem)); k_whole; try dsimp only [List.nil_append, List.cons_append]))))
local macro_rules | `(tactic| walk_at "call ref") => `(tactic| (k_here; k_dflt (refine wpAny_call ?_; (refine' kla_code ?k1 ?k2 ?k3 ?k4 ?k5 ?kA ?kF ?kK ?k6 ?k7 ?k8 ?k9 ?kB ?_ ?c2 ?c3 ?c4 ?c5; (case kA | kF => exact rfl); (case kK => assumption); (case k1 | k2 | k3 | k4 | k5 => k_asm); (case k6 => k_mem); (case k7 => exact codeRec_news (by k_asm) (by k_mem) (by assumption) (by assumption)); (case k8 => ktr_room); (case k9 => exact rfl); (case c5 => decide); (case kB => exact locs rfl); (case c2 | c3 | c4 => exact rfl); k_whole; intro g' L' h' FG' F' N' B' X' T'; (try dsimp only); (try k_lift B'); (try k_fold)))))
local macro_rules | `(tactic| walk_at "eval Name") => `(tactic| (k_here; k_dflt (refine' nameX_F ?N ?c ?m ?d ?_ ?a ?b; (case a | b => rfl); (case N => k_asm); (case c => rfl); (case m => k_mem); (case d => k_asm); k_whole)))
-- macs: F1
theorem now_item {prog : Program} {w : World} {A : Around} {E : Value → Shared → Prop} {s : Shared} {h₀ : Heap} {L l : Addr} {value slice : PySem.Expr} {news : List (Addr × Obj)} {now : Int} {tn u : Tok} {n : Nat} {Q : Value → Shared → Prop} (N : News h₀ L s.heap news) (hm : (l, listOf #[.int now tn] n) ∈ news)
    (h : ∀ t, Q (.int now t) s) (hs : subscripted slice false (.ref l) (.int 0 u) = operate [.ref l, .int 0 u] (getItem (.ref l) (.int 0 u)) := by with_unfolding_all rfl) :
    wpAny (model prog w) A (subscriptTail value slice (.ref l) (.int 0 u)) Q E s :=
  kd_item (ds := [Dat.int now]) (us := [.int now tn]) (L9 := []) N hm (DatAll.one (DatIn.int now tn)) (by decide) (by simp) (by decide) (fun v d e _ hD => by cases e; cases hD; exact h _) hs
set_option maxHeartbeats 8000000 in
theorem PC : ∀ (w : World) (s₀ s₁ : Shared) (mg mb : Str → Option Value) (fa nl : Addr) (co : Obj) (f c : Addr) (oc : Obj) (vs : Array Value) (t : Tok) (ct : Value), co.data = .cell (some (.ref nl)) → oc.data = .fields vs → W1.1 w s₀ s₁ mg mb fa nl co f c oc vs t ct := by
  intro w s₀ s₁ mg mb fa nl co f c oc vs t ct hco d1 d2 now tn news pos dp un gd cn cs a ccd cl outer A₀ base h₀ L m s Q E nf nc nn nq B F X N T hk hd hu ret
  w_on
  revert X; (have hM : PySem.Challenge.rw_ji0057_01.name = PySem.Challenge.rw_ji0057_01.name := rfl); revert hM; k_fill; intro hM X; clear hM
  w_strict (k_steps; (with_unfolding_all refine' now_item ?N ?hm ?_ ?hs); (case N => k_asm); (case hm => assumption); (case hs => with_unfolding_all rfl); intro t9; k_steps; (all_goals exact ret _ _ _ (by k_asm) (by k_asm)))

end
theorem one_getD (x : Int) : [x].getD (Int.toNat 0) 0 = x := rfl
/-- the law's state behind its first loop -/
inductive After1 (w : World) (s₀ s₁ : Shared) (h : Heap) (p : Program) (loose : List Str) (mean : ExcName → Option Value) (mg mb : Str → Option Value) (base : Str → Option Value) (most len : Int) (ll nm x3 d3 x2 d2 x1 d1 ds de dv f cq nl : Addr) (t1 t2 t3 t4 t5 t6 t7 t8 tm tl u1 tA qm ql : Tok) (fo co oq : Obj) (ps : Array Value) (now : Int) (tn : Tok) (log : List (Int × Int)) (lvs : List Value) (ln : Nat) (os oe : Obj) (kvs kve : List (Str × Value)) (c1 c2 : List (Str × Int)) (l : Addr) (vs : List Value) (tl1 : List (Addr × Obj)) : Prop
  | mk (F : Fr (ghostOf s₁.heap [(576, 572)]) s₁.heap.objs.size h (fun y => if y = Str.ofString "log" then some (.ref ll) else if y = Str.ofString "names" then some (.ref nm) else if y = Str.ofString "item" then some (.ref x3) else if y = Str.ofString "limiter" then some (.ref x2) else if y = Str.ofString "most" then some (.int most qm) else if y = Str.ofString "length" then some (.int len ql) else base y)) (N : News (ghostOf s₁.heap [(576, 572)]) s₁.heap.objs.size h ((ds, os) :: (de, oe) :: (ll, listOf lvs.toArray ln) :: (nl, listOf #[.int now tn] 0) :: (l, listOf vs.toArray 0) :: (nm, tupK [.str (Str.ofString "ann") tA].toArray 0) :: (x3, instObj 423 d3) :: (d3, dictOf [⟨PySem.PyData.keyHash w.params (Str.ofString "namespace"), .str (Str.ofString "namespace") t5, .str (Str.ofString "LIMITER") t8⟩, ⟨PySem.PyData.keyHash w.params (Str.ofString "amount"), .str (Str.ofString "amount") t6, .int most tm⟩, ⟨PySem.PyData.keyHash w.params (Str.ofString "multiples"), .str (Str.ofString "multiples") t7, .int len tl⟩] 3) :: (x2, instObj 218 d2) :: (d2, dictOf [⟨PySem.PyData.keyHash w.params (Str.ofString "storage"), .str (Str.ofString "storage") u1, .ref x1⟩] 1) :: (x1, instObj 568 d1) :: (d1, dictOf [⟨PySem.PyData.keyHash w.params (Str.ofString "clock"), .str (Str.ofString "clock") t1, .ref f⟩, ⟨PySem.PyData.keyHash w.params (Str.ofString "storage"), .str (Str.ofString "storage") t2, .ref ds⟩, ⟨PySem.PyData.keyHash w.params (Str.ofString "expirations"), .str (Str.ofString "expirations") t3, .ref de⟩, ⟨PySem.PyData.keyHash w.params (Str.ofString "events"), .str (Str.ofString "events") t4, .ref dv⟩] 4) :: (f, fo) :: (cq, oq) :: (s₁.heap.objs.size + 1, co) :: (572, tabObj ps) :: tl1)) (fr : Frame w s₀ s₁ p loose mean mg mb base most len ll nm x3 d3 x2 d2 x1 d1 ds de dv f cq nl t1 t2 t3 t4 t5 t6 t7 t8 tm tl u1 tA qm ql fo co oq ps) (hs : os.IsDictOf (strKind PG w) kvs) (fs : FlatPairs PyData.str kvs (kdpD c1)) (he : oe.IsDictOf (strKind PG w) kve) (fe : FlatPairs PyData.str kve (kdpD c2)) (hlog : DatAll ((l, listOf vs.toArray 0) :: (nm, tupK [.str (Str.ofString "ann") tA].toArray 0) :: (x3, instObj 423 d3) :: (d3, dictOf [⟨PySem.PyData.keyHash w.params (Str.ofString "namespace"), .str (Str.ofString "namespace") t5, .str (Str.ofString "LIMITER") t8⟩, ⟨PySem.PyData.keyHash w.params (Str.ofString "amount"), .str (Str.ofString "amount") t6, .int most tm⟩, ⟨PySem.PyData.keyHash w.params (Str.ofString "multiples"), .str (Str.ofString "multiples") t7, .int len tl⟩] 3) :: (x2, instObj 218 d2) :: (d2, dictOf [⟨PySem.PyData.keyHash w.params (Str.ofString "storage"), .str (Str.ofString "storage") u1, .ref x1⟩] 1) :: (x1, instObj 568 d1) :: (d1, dictOf [⟨PySem.PyData.keyHash w.params (Str.ofString "clock"), .str (Str.ofString "clock") t1, .ref f⟩, ⟨PySem.PyData.keyHash w.params (Str.ofString "storage"), .str (Str.ofString "storage") t2, .ref ds⟩, ⟨PySem.PyData.keyHash w.params (Str.ofString "expirations"), .str (Str.ofString "expirations") t3, .ref de⟩, ⟨PySem.PyData.keyHash w.params (Str.ofString "events"), .str (Str.ofString "events") t4, .ref dv⟩] 4) :: (f, fo) :: (cq, oq) :: (s₁.heap.objs.size + 1, co) :: (572, tabObj ps) :: tl1) lvs (logDat log)) (off : OwnOff tl1 (ds :: de :: ll :: nl :: l :: [(nm, tupK [.str (Str.ofString "ann") tA].toArray 0), (x3, instObj 423 d3), (d3, dictOf [⟨PySem.PyData.keyHash w.params (Str.ofString "namespace"), .str (Str.ofString "namespace") t5, .str (Str.ofString "LIMITER") t8⟩, ⟨PySem.PyData.keyHash w.params (Str.ofString "amount"), .str (Str.ofString "amount") t6, .int most tm⟩, ⟨PySem.PyData.keyHash w.params (Str.ofString "multiples"), .str (Str.ofString "multiples") t7, .int len tl⟩] 3), (x2, instObj 218 d2), (d2, dictOf [⟨PySem.PyData.keyHash w.params (Str.ofString "storage"), .str (Str.ofString "storage") u1, .ref x1⟩] 1), (x1, instObj 568 d1), (d1, dictOf [⟨PySem.PyData.keyHash w.params (Str.ofString "clock"), .str (Str.ofString "clock") t1, .ref f⟩, ⟨PySem.PyData.keyHash w.params (Str.ofString "storage"), .str (Str.ofString "storage") t2, .ref ds⟩, ⟨PySem.PyData.keyHash w.params (Str.ofString "expirations"), .str (Str.ofString "expirations") t3, .ref de⟩, ⟨PySem.PyData.keyHash w.params (Str.ofString "events"), .str (Str.ofString "events") t4, .ref dv⟩] 4), (f, fo), (cq, oq), (s₁.heap.objs.size + 1, co), (572, tabObj ps)].map (·.1))) (tab : Tab len most (keyOf most len) log c1 c2) (lok : LogOk now log) (wt : Wt len log now ≤ most) (l12 : log.length ≤ 12) (n0 : 1000000 ≤ now) (n9 : now ≤ 1002000000) (ch2 : @LT.lt Nat _ ll l)
theorem fr_swap1 {h₀ h : Heap} {L : Addr} {u base : Str → Option Value} {ll nm x3 x2 : Addr} {most len : Int} {qm ql : Tok} (F : Fr h₀ L h (fun y => if y = Str.ofString "number" then u y else if [Str.ofString "cost"].contains y then u y else if y = Str.ofString "log" then some (.ref ll) else if y = Str.ofString "names" then some (.ref nm) else if y = Str.ofString "item" then some (.ref x3) else if y = Str.ofString "limiter" then some (.ref x2) else if y = Str.ofString "most" then some (.int most qm) else if y = Str.ofString "length" then some (.int len ql) else base y)) :
    Fr h₀ L h (fun y => (fun base => if y = Str.ofString "log" then some (.ref ll) else if y = Str.ofString "names" then some (.ref nm) else if y = Str.ofString "item" then some (.ref x3) else if y = Str.ofString "limiter" then some (.ref x2) else if y = Str.ofString "most" then some (.int most qm) else if y = Str.ofString "length" then some (.int len ql) else base y) (fun y => if y = Str.ofString "number" then u y else if y = Str.ofString "cost" then u y else base y)) := by
  have e : (fun y => if y = Str.ofString "number" then u y else if [Str.ofString "cost"].contains y then u y else if y = Str.ofString "log" then some (.ref ll) else if y = Str.ofString "names" then some (.ref nm) else if y = Str.ofString "item" then some (.ref x3) else if y = Str.ofString "limiter" then some (.ref x2) else if y = Str.ofString "most" then some (.int most qm) else if y = Str.ofString "length" then some (.int len ql) else base y) = (fun y => (fun base : Str → Option Value => if y = Str.ofString "log" then some (.ref ll) else if y = Str.ofString "names" then some (.ref nm) else if y = Str.ofString "item" then some (.ref x3) else if y = Str.ofString "limiter" then some (.ref x2) else if y = Str.ofString "most" then some (.int most qm) else if y = Str.ofString "length" then some (.int len ql) else base y) (fun y => if y = Str.ofString "number" then u y else if y = Str.ofString "cost" then u y else base y)) := by
    funext y
    dsimp only
    by_cases h1 : y = Str.ofString "number"
    · subst h1
      rw [if_pos rfl, if_neg (by decide +kernel), if_neg (by decide +kernel), if_neg (by decide +kernel), if_neg (by decide +kernel), if_neg (by decide +kernel), if_neg (by decide +kernel), if_pos rfl]
    · by_cases h2 : y = Str.ofString "cost"
      · subst h2
        rw [if_neg h1, if_pos (by decide +kernel), if_neg (by decide +kernel), if_neg (by decide +kernel), if_neg (by decide +kernel), if_neg (by decide +kernel), if_neg (by decide +kernel), if_neg (by decide +kernel), if_neg h1, if_pos rfl]
      · rw [if_neg h1, if_neg h1, if_neg h2, if_neg (by simpa using h2)]
  rw [e] at F
  exact F
theorem in_done {a b c d : Addr × Obj} {l : List (Addr × Obj)} : ∀ p ∈ a :: b :: c :: d :: l, p ∈ a :: b :: c :: d :: l := fun _ h => h

section
local macro_rules | `(tactic| walk_at "use common") => `(tactic| (walk_at "use commonZ"; (case N => k_asm)))
local macro_rules | `(tactic| walk_at "use commonZ") => `(tactic| (
  (case B | F | X | T => k_asm); (case hk => first | exact rfl | assumption); (case hd => ktr_room); (case hu => ktr_units)))
section
local macro_rules | `(tactic| walk_at "exec For") => `(tactic| (k_here; (with_reducible show wpAny _ _ (exec (Stmt.For (Expr.Name _ _) (Expr.Subscript _ _ _) _ [] _) _) _ _ _); (rename Fr _ _ _ _ => F9); (with_unfolding_all refine For_invVF F9 (by rfl) (by rfl) ?_)))
local macro_rules | `(tactic| walk_at "call ref") => `(tactic| (k_here; (with_reducible show wpAny _ _ (call (Value.ref 188) _ _) _ _ _); k_dflt (apply hit_spec rfl; (case hC => assumption); walk_at "use commonZ"; (case N => k_asm); (case n1 | n2 | n5 | n6 | n7 | n8 | i1 | i2 | m1 | m2 | i3 => k_mem); (case ls | le | hs | fs | he | fe | ok1 | ok2 | z1 | z2 | h0 | h9 | m0 | m9 | l0 | l9 | p0 | p9 | q0 | q9 => assumption); (case r3 => first | assumption | omega); (case r1 => first | (repeat' (first | assumption | (refine ane_cons (by (dsimp only; omega)) ?_)))); (case r2 => first | (repeat' (first | assumption | (refine ane_cons (by (dsimp only; omega)) ?_))))); (all_goals (first | (intro ha9 hw9 os9 oe9 kvs9 kve9 c9 h9 tk9 hd9 hf9 hd8 hf8 hc9 F' N'; (try dsimp only)) | (intro hw9 h9 tk9 F' N'; (try dsimp only))))))
local macro_rules | `(tactic| walk_at "call builtin:list.append") => `(tactic| (k_here; (show wpAny _ _ (call (Value.builtin "list.append") [Value.ref _, _]) _ _ _); k_dflt (refine' append_K ?k1 ?k2 ?k3 ?_ ?z; (case k1 | k2 => k_asm); (case k3 => k_upd); (case z => assumption); k_whole); intro h' F' N'))
-- macs: C0 F0 L0
set_option maxHeartbeats 8000000 in
noncomputable def W2 : PSigma fun G : World → Shared → Shared → Addr → List Int → Nat → Heap → Prop =>
    (Wrap (∀ (w : World) (s₀ s₁ : Shared) (fa : Addr) (ns : List Int) (tk : Nat) (h : Heap) (p : Program) (loose : List Str) (mean : ExcName → Option Value) (mg mb : Str → Option Value) (base : Str → Option Value) (most len : Int) (ll nm x3 d3 x2 d2 x1 d1 ds de dv f cq nl : Addr) (t1 t2 t3 t4 t5 t6 t7 t8 tm tl u1 tA qm ql : Tok) (fo co oq : Obj) (ps : Array Value) (now : Int) (tn : Tok) (log : List (Int × Int)) (lvs : List Value) (ln : Nat) (os oe : Obj) (kvs kve : List (Str × Value)) (c1 c2 : List (Str × Int)) (l : Addr) (vs : List Value) (tl1 : List (Addr × Obj)),
      After1 w s₀ s₁ h p loose mean mg mb base most len ll nm x3 d3 x2 d2 x1 d1 ds de dv f cq nl t1 t2 t3 t4 t5 t6 t7 t8 tm tl u1 tA qm ql fo co oq ps now tn log lvs ln os oe kvs kve c1 c2 l vs tl1 → G w s₀ s₁ fa ns tk h)) →
    ∀ (w : World) (s₀ s₁ : Shared) (fa : Addr) (ns : List Int) (tk : Nat) (l : Addr) (h : Heap) (p : Program) (loose : List Str) (mean : ExcName → Option Value) (mg mb : Str → Option Value) (base : Str → Option Value) (most len : Int) (ll nm x3 d3 x2 d2 x1 d1 ds de dv f cq nl : Addr) (t1 t2 t3 t4 t5 t6 t7 t8 tm tl u1 tA qm ql : Tok) (fo co oq : Obj) (ps : Array Value) (now0 : Int) (tn : Tok) (os oe : Obj) (vs : List Value) (xs : List Int), Start1 w s₀ s₁ l h p loose mean mg mb base most len ll nm x3 d3 x2 d2 x1 d1 ds de dv f cq nl t1 t2 t3 t4 t5 t6 t7 t8 tm tl u1 tA qm ql fo co oq ps now0 tn os oe vs xs → W1.2.1 w s₀ s₁ fa ns tk l h := by
  refine' ⟨_, fun hR => _⟩
  rotate_left
  · intro w s₀ s₁ fa ns tk l h p loose mean mg mb base most len ll nm x3 d3 x2 d2 x1 d1 ds de dv f cq nl t1 t2 t3 t4 t5 t6 t7 t8 tm tl u1 tA qm ql fo co oq ps now0 tn os oe vs xs hS
    obtain ⟨F, N, fr, hs, he, hi, hx, ch2, n0, n9⟩ := hS
    obtain ⟨B, X, T, hg, hC, hd, ls, le, ch, m0, m9, l0, l9⟩ := fr
    intro _
    w_on
    revert X; (have hM : PySem.Challenge.rw_ji0057_01.name = PySem.Challenge.rw_ji0057_01.name := rfl); revert hM; k_fill; intro hM X; clear hM
    refine loop1 (ds := ds) (de := de) (ll := ll) (nl := nl) ((l, listOf vs.toArray 0) :: [(nm, tupK [.str (Str.ofString "ann") tA].toArray 0), (x3, instObj 423 d3), (d3, dictOf [⟨PySem.PyData.keyHash w.params (Str.ofString "namespace"), .str (Str.ofString "namespace") t5, .str (Str.ofString "LIMITER") t8⟩, ⟨PySem.PyData.keyHash w.params (Str.ofString "amount"), .str (Str.ofString "amount") t6, .int most tm⟩, ⟨PySem.PyData.keyHash w.params (Str.ofString "multiples"), .str (Str.ofString "multiples") t7, .int len tl⟩] 3), (x2, instObj 218 d2), (d2, dictOf [⟨PySem.PyData.keyHash w.params (Str.ofString "storage"), .str (Str.ofString "storage") u1, .ref x1⟩] 1), (x1, instObj 568 d1), (d1, dictOf [⟨PySem.PyData.keyHash w.params (Str.ofString "clock"), .str (Str.ofString "clock") t1, .ref f⟩, ⟨PySem.PyData.keyHash w.params (Str.ofString "storage"), .str (Str.ofString "storage") t2, .ref ds⟩, ⟨PySem.PyData.keyHash w.params (Str.ofString "expirations"), .str (Str.ofString "expirations") t3, .ref de⟩, ⟨PySem.PyData.keyHash w.params (Str.ofString "events"), .str (Str.ofString "events") t4, .ref dv⟩] 4), (f, fo), (cq, oq), (s₁.heap.objs.size + 1, co), (572, tabObj ps)]) [Str.ofString "cost"] (Inv1 len most now0 (keyOf most len)) ⟨now0, tn, [], [], 0, os, oe, [], [], [], []⟩ ?hh List.mem_cons_self hi F N ?hn ⟨hs, .nil, he, .nil, .nil⟩ (Inv1.start (by omega)) ?turn ?done
    case hh => rfl
    case hn => intro p hp; simpa using hp
    case turn =>
      intro c tl pre post n t u h tk own e1 hsep hoff hf hinv F' N'
      have hz := log_size hinv e1 hx hf.2.2.2.2
      obtain ⟨now, tn, log, lvs, ln, os, oe, kvs, kve, c1, c2⟩ := c
      obtain ⟨hs, fs, he, fe, hlog⟩ := hf
      dsimp only [Led1, List.cons_append, List.nil_append] at N' hs fs he fe hlog hz
      have ml := mod_bd (n := n) l0 l9
      have cl := cost_bd (Int.fdiv n (len + 1))
      obtain ⟨⟨ok1, ok2, p0, p9, q0, q9⟩, z1, z2, h0, h9⟩ := turn1 hinv e1 hx n0 n9 l0 m9 ml.1 ml.2
      have od : ∀ p ∈ tl ++ own, p.1 ≠ ds := hoff.ne (by simp)
      have oe' : ∀ p ∈ tl ++ own, p.1 ≠ de := hoff.ne (by simp)
      have r3 : @Ne Nat ds de := by omega
      clear F N
      w_strict k_steps
      · refine' kd_end ⟨now + Int.fmod n (len + 1), _, log, lvs, ln, os, oe, kvs, kve, c1, c2⟩ [] hsep ?kF ?kN ?kn ?ko rfl (fun _ h => nomatch h) (fun _ h => nomatch h) (fun _ h => nomatch h) ?kr ?kf ?kp
        case kF => assumption
        case kN => assumption
        case kn => exact in_all0
        case ko => (intro p hp; repeat (first | exact List.mem_append_right _ hp | refine List.mem_cons_of_mem _ ?_))
        case kr => kst_same
        case kf => exact ⟨hs, fs, he, fe, hlog⟩
        case kp => exact hinv.miss l0 (by omega) (by omega)
      · simp only [List.push_toArray, one_getD] at *
        refine' kd_end (⟨now + Int.fmod n (len + 1), _, log ++ [(now + Int.fmod n (len + 1), 1 + Int.fmod (Int.fdiv n (len + 1)) 3)], _, _, _, _, _, _, _, _⟩ : LS) [_] hsep ?kF ?kN ?kn ?ko rfl ?kb ?kw ?kk ?kr ?kf ?kp
        case kF => assumption
        case kN => assumption
        case kn => exact in_all1
        case ko => (intro p hp; repeat (first | exact List.mem_append_right _ hp | refine List.mem_cons_of_mem _ ?_))
        case kk => (intro _ h; nomatch h)
        case kb => kd_addB
        case kw => kd_addW
        case kr => kst_same
        case kf => exact ⟨by assumption, by assumption, by assumption, by assumption, log_snoc (hlog.mono kd_sub) (kd_new List.mem_cons_self)⟩
        case kp => exact hinv.hit l0 (by omega) (by omega) n0 cl.1 cl.2 (by assumption) (by assumption)
    case done =>
      intro c tl1 u h tk9 hoff hf hinv F' N'
      have hx0 := hinv.nl
      have hx1 := hinv.lo
      have hx2 := hinv.hi
      obtain ⟨now, tn, log, lvs, ln, os, oe, kvs, kve, c1, c2⟩ := c
      obtain ⟨hs, fs, he, fe, hlog⟩ := hf
      dsimp only at hx0 hx1 hx2
      have k := hR.out w s₀ s₁ fa ns tk9 h p loose mean mg mb _ most len ll nm x3 d3 x2 d2 x1 d1 ds de dv f cq nl t1 t2 t3 t4 t5 t6 t7 t8 tm tl u1 tA qm ql fo co oq ps now tn log lvs ln os oe kvs kve c1 c2 l vs tl1
        ⟨fr_swap1 F', N', ⟨B, X, T, hg, hC, hd, ls, le, ch, m0, m9, l0, l9⟩, hs, fs, he, fe, hlog, hoff, hinv.tab, hinv.log, hinv.wt, by omega, by omega, by omega, ch2⟩
      have ht : True := trivial
      dsimp only
      revert ht
      exact k

/-- the law's state ahead of its second loop -/
inductive Start2 (w : World) (s₀ s₁ : Shared) (r : Addr) (h : Heap) (p : Program) (loose : List Str) (mean : ExcName → Option Value) (mg mb : Str → Option Value) (base : Str → Option Value) (most len : Int) (ll nm x3 d3 x2 d2 x1 d1 ds de dv f cq nl : Addr) (t1 t2 t3 t4 t5 t6 t7 t8 tm tl u1 tA qm ql : Tok) (fo co oq : Obj) (ps : Array Value) (now : Int) (tn : Tok) (log : List (Int × Int)) (lvs : List Value) (ln : Nat) (os oe : Obj) (kvs kve : List (Str × Value)) (c1 c2 : List (Str × Int)) (l : Addr) (vs : List Value) (tl1 : List (Addr × Obj)) (rl : Addr) (ra rb rc : Tok) : Prop
  | mk (F : Fr (ghostOf s₁.heap [(576, 572)]) s₁.heap.objs.size h (fun y => if y = Str.ofString "rows" then some (.ref rl) else if y = Str.ofString "log" then some (.ref ll) else if y = Str.ofString "names" then some (.ref nm) else if y = Str.ofString "item" then some (.ref x3) else if y = Str.ofString "limiter" then some (.ref x2) else if y = Str.ofString "most" then some (.int most qm) else if y = Str.ofString "length" then some (.int len ql) else base y)) (N : News (ghostOf s₁.heap [(576, 572)]) s₁.heap.objs.size h ((nl, listOf #[.int now tn] 0) :: (rl, listOf #[] 0) :: (ds, os) :: (de, oe) :: (ll, listOf lvs.toArray ln) :: (l, listOf vs.toArray 0) :: (nm, tupK [.str (Str.ofString "ann") tA].toArray 0) :: (x3, instObj 423 d3) :: (d3, dictOf [⟨PySem.PyData.keyHash w.params (Str.ofString "namespace"), .str (Str.ofString "namespace") t5, .str (Str.ofString "LIMITER") t8⟩, ⟨PySem.PyData.keyHash w.params (Str.ofString "amount"), .str (Str.ofString "amount") t6, .int most tm⟩, ⟨PySem.PyData.keyHash w.params (Str.ofString "multiples"), .str (Str.ofString "multiples") t7, .int len tl⟩] 3) :: (x2, instObj 218 d2) :: (d2, dictOf [⟨PySem.PyData.keyHash w.params (Str.ofString "storage"), .str (Str.ofString "storage") u1, .ref x1⟩] 1) :: (x1, instObj 568 d1) :: (d1, dictOf [⟨PySem.PyData.keyHash w.params (Str.ofString "clock"), .str (Str.ofString "clock") t1, .ref f⟩, ⟨PySem.PyData.keyHash w.params (Str.ofString "storage"), .str (Str.ofString "storage") t2, .ref ds⟩, ⟨PySem.PyData.keyHash w.params (Str.ofString "expirations"), .str (Str.ofString "expirations") t3, .ref de⟩, ⟨PySem.PyData.keyHash w.params (Str.ofString "events"), .str (Str.ofString "events") t4, .ref dv⟩] 4) :: (f, fo) :: (cq, oq) :: (s₁.heap.objs.size + 1, co) :: (572, tabObj ps) :: tl1)) (fr : Frame w s₀ s₁ p loose mean mg mb base most len ll nm x3 d3 x2 d2 x1 d1 ds de dv f cq nl t1 t2 t3 t4 t5 t6 t7 t8 tm tl u1 tA qm ql fo co oq ps) (hr : IsRange h r 0 (2 * len + 1) 1 ra rb rc) (hs : os.IsDictOf (strKind PG w) kvs) (fs : FlatPairs PyData.str kvs (kdpD c1)) (he : oe.IsDictOf (strKind PG w) kve) (fe : FlatPairs PyData.str kve (kdpD c2)) (hlog : DatAll ((l, listOf vs.toArray 0) :: (nm, tupK [.str (Str.ofString "ann") tA].toArray 0) :: (x3, instObj 423 d3) :: (d3, dictOf [⟨PySem.PyData.keyHash w.params (Str.ofString "namespace"), .str (Str.ofString "namespace") t5, .str (Str.ofString "LIMITER") t8⟩, ⟨PySem.PyData.keyHash w.params (Str.ofString "amount"), .str (Str.ofString "amount") t6, .int most tm⟩, ⟨PySem.PyData.keyHash w.params (Str.ofString "multiples"), .str (Str.ofString "multiples") t7, .int len tl⟩] 3) :: (x2, instObj 218 d2) :: (d2, dictOf [⟨PySem.PyData.keyHash w.params (Str.ofString "storage"), .str (Str.ofString "storage") u1, .ref x1⟩] 1) :: (x1, instObj 568 d1) :: (d1, dictOf [⟨PySem.PyData.keyHash w.params (Str.ofString "clock"), .str (Str.ofString "clock") t1, .ref f⟩, ⟨PySem.PyData.keyHash w.params (Str.ofString "storage"), .str (Str.ofString "storage") t2, .ref ds⟩, ⟨PySem.PyData.keyHash w.params (Str.ofString "expirations"), .str (Str.ofString "expirations") t3, .ref de⟩, ⟨PySem.PyData.keyHash w.params (Str.ofString "events"), .str (Str.ofString "events") t4, .ref dv⟩] 4) :: (f, fo) :: (cq, oq) :: (s₁.heap.objs.size + 1, co) :: (572, tabObj ps) :: tl1) lvs (logDat log)) (off : OwnOff tl1 (ds :: de :: ll :: nl :: l :: [(nm, tupK [.str (Str.ofString "ann") tA].toArray 0), (x3, instObj 423 d3), (d3, dictOf [⟨PySem.PyData.keyHash w.params (Str.ofString "namespace"), .str (Str.ofString "namespace") t5, .str (Str.ofString "LIMITER") t8⟩, ⟨PySem.PyData.keyHash w.params (Str.ofString "amount"), .str (Str.ofString "amount") t6, .int most tm⟩, ⟨PySem.PyData.keyHash w.params (Str.ofString "multiples"), .str (Str.ofString "multiples") t7, .int len tl⟩] 3), (x2, instObj 218 d2), (d2, dictOf [⟨PySem.PyData.keyHash w.params (Str.ofString "storage"), .str (Str.ofString "storage") u1, .ref x1⟩] 1), (x1, instObj 568 d1), (d1, dictOf [⟨PySem.PyData.keyHash w.params (Str.ofString "clock"), .str (Str.ofString "clock") t1, .ref f⟩, ⟨PySem.PyData.keyHash w.params (Str.ofString "storage"), .str (Str.ofString "storage") t2, .ref ds⟩, ⟨PySem.PyData.keyHash w.params (Str.ofString "expirations"), .str (Str.ofString "expirations") t3, .ref de⟩, ⟨PySem.PyData.keyHash w.params (Str.ofString "events"), .str (Str.ofString "events") t4, .ref dv⟩] 4), (f, fo), (cq, oq), (s₁.heap.objs.size + 1, co), (572, tabObj ps)].map (·.1))) (offr : ∀ p ∈ tl1, p.1 ≠ rl) (tab : Tab len most (keyOf most len) log c1 c2) (lok : LogOk now log) (wt : Wt len log now ≤ most) (l12 : log.length ≤ 12) (n0 : 1000000 ≤ now) (n9 : now ≤ 1002000001) (md : now % len ≠ 0) (ch2 : @LT.lt Nat _ ll l) (ch3 : @LT.lt Nat _ l rl)
theorem gen_at {M : Model} {A : Around} {K : Value → Shared → Prop} {E : Value → Shared → Prop} {r0 : Addr} {tk0 : Nat} {h : Heap} {g : Array GenState} {d : Drawn} {os : OsState} {a b c : Int} {t u v : Tok} (hr : IsRange h r0 a b c t u v)
    (H : ∀ r tk, IsRange h r a b c t u v → wpAny M A (pyIter (.ref r)) K E ⟨h, g, d, tk, os⟩) : wpAny M A (pyIter (.ref r0)) K E ⟨h, g, d, tk0, os⟩ := H r0 tk0 hr
theorem swap2 {h₀ : Heap} {L : Addr} {h : Heap} {a b c d e : Addr × Obj} {tl : List (Addr × Obj)} (N : News h₀ L h (a :: b :: c :: d :: e :: tl)) : News h₀ L h (e :: a :: b :: c :: d :: tl) := by
  refine cb_drop N fun p hp => ?_
  simp only [List.mem_cons] at hp ⊢
  rcases hp with h | h | h | h | h | h <;> simp [h]
theorem mod_next {len now : Int} (l0 : 2 ≤ len) (h : Int.fmod now len = 0) : (now + 1) % len ≠ 0 := by
  rw [Int.fmod_eq_emod_of_nonneg _ (by omega)] at h
  have := next_same (t := now) l0 (by omega)
  omega
theorem mod_this {len now : Int} (l0 : 2 ≤ len) (h : Int.fmod now len ≠ 0) : now % len ≠ 0 := by
  rw [Int.fmod_eq_emod_of_nonneg _ (by omega)] at h
  exact h

-- macs: C0 F0 L0
theorem allLt_ne {d : Addr} : ∀ {l : List (Addr × Obj)}, AllLt d l → ∀ p ∈ l, p.1 ≠ d
  | [], _, _, h => nomatch h
  | _ :: _, k, p, h => by
    rcases List.mem_cons.mp h with e | h
    · subst e; exact Nat.ne_of_lt k.1
    · exact allLt_ne k.2 p h
set_option maxHeartbeats 8000000 in
noncomputable def W3 : PSigma fun G : World → Shared → Shared → Addr → List Int → Nat → Addr → Heap → Prop =>
    (Wrap (∀ (w : World) (s₀ s₁ : Shared) (fa : Addr) (ns : List Int) (tk : Nat) (r : Addr) (h : Heap) (p : Program) (loose : List Str) (mean : ExcName → Option Value) (mg mb : Str → Option Value) (base : Str → Option Value) (most len : Int) (ll nm x3 d3 x2 d2 x1 d1 ds de dv f cq nl : Addr) (t1 t2 t3 t4 t5 t6 t7 t8 tm tl u1 tA qm ql : Tok) (fo co oq : Obj) (ps : Array Value) (now : Int) (tn : Tok) (log : List (Int × Int)) (lvs : List Value) (ln : Nat) (os oe : Obj) (kvs kve : List (Str × Value)) (c1 c2 : List (Str × Int)) (l : Addr) (vs : List Value) (tl1 : List (Addr × Obj)) (rl : Addr) (ra rb rc : Tok),
      Start2 w s₀ s₁ r h p loose mean mg mb base most len ll nm x3 d3 x2 d2 x1 d1 ds de dv f cq nl t1 t2 t3 t4 t5 t6 t7 t8 tm tl u1 tA qm ql fo co oq ps now tn log lvs ln os oe kvs kve c1 c2 l vs tl1 rl ra rb rc → G w s₀ s₁ fa ns tk r h)) →
    ∀ (w : World) (s₀ s₁ : Shared) (fa : Addr) (ns : List Int) (tk : Nat) (h : Heap) (p : Program) (loose : List Str) (mean : ExcName → Option Value) (mg mb : Str → Option Value) (base : Str → Option Value) (most len : Int) (ll nm x3 d3 x2 d2 x1 d1 ds de dv f cq nl : Addr) (t1 t2 t3 t4 t5 t6 t7 t8 tm tl u1 tA qm ql : Tok) (fo co oq : Obj) (ps : Array Value) (now : Int) (tn : Tok) (log : List (Int × Int)) (lvs : List Value) (ln : Nat) (os oe : Obj) (kvs kve : List (Str × Value)) (c1 c2 : List (Str × Int)) (l : Addr) (vs : List Value) (tl1 : List (Addr × Obj)),
      After1 w s₀ s₁ h p loose mean mg mb base most len ll nm x3 d3 x2 d2 x1 d1 ds de dv f cq nl t1 t2 t3 t4 t5 t6 t7 t8 tm tl u1 tA qm ql fo co oq ps now tn log lvs ln os oe kvs kve c1 c2 l vs tl1 → W2.1 w s₀ s₁ fa ns tk h := by
  refine' ⟨_, fun hR => _⟩
  rotate_left
  · intro w s₀ s₁ fa ns tk h p loose mean mg mb base most len ll nm x3 d3 x2 d2 x1 d1 ds de dv f cq nl t1 t2 t3 t4 t5 t6 t7 t8 tm tl u1 tA qm ql fo co oq ps now tn log lvs ln os oe kvs kve c1 c2 l vs tl1 hS
    obtain ⟨F, N, ⟨B, X, T, hg, hC, hd, ls, le, ch, m0, m9, l0, l9⟩, hs, fs, he, fe, hlog, off, tab, lok, wt, l12, n0, n9, ch2⟩ := hS
    intro _
    w_on
    revert X; (have hM : PySem.Challenge.rw_ji0057_01.name = PySem.Challenge.rw_ji0057_01.name := rfl); revert hM; k_fill; intro hM X; clear hM
    w_strict (repeat' ((fail_if_success (with_reducible show wpAny _ _ (pyIter (Value.ref _)) (fun _ _ => LoopAtV _ _ _ _ _ _ _ _ _ _ _) _ _)); first | (k_unfold; (try dsimp only)) | (k_end; wrow_close) | walk1 | (dsimp only; walk1) | (leave1; walk_say "STEP leave1"; try dsimp only) | fail "no step"))
    all_goals (
      expose_names
      simp only [one_getD] at *
      (try dsimp only)
      refine gen_at (a := 0) (b := 2 * len + 1) (c := 1) (by assumption) fun r9 tk9 hr9 => ?_)
    · have k := hR.out w s₀ s₁ fa ns tk9 r9 _ p loose mean mg mb _ most len ll nm x3 d3 x2 d2 x1 d1 ds de dv f cq nl t1 t2 t3 t4 t5 t6 t7 t8 tm tl u1 tA qm ql fo co oq ps (now + 1) _ log lvs ln os oe kvs kve c1 c2 l vs tl1 _ _ _ _
        ⟨by assumption, swap2 (by assumption), ⟨B, X, T, hg, hC, hd, ls, le, ch, m0, m9, l0, l9⟩, hr9, hs, fs, he, fe, hlog, off, allLt_ne l1.2.2.2.2.2.2.2.2.2.2.2.2.2.2.2.2, tab, lok.later (by omega), Int.le_trans (Wt_le lok l0 (Int.le_refl _) (by omega)) wt, l12, by omega, by omega, mod_next l0 (by assumption), ch2, by omega⟩
      have ht : True := trivial
      revert ht
      exact k
    · have k := hR.out w s₀ s₁ fa ns tk9 r9 _ p loose mean mg mb _ most len ll nm x3 d3 x2 d2 x1 d1 ds de dv f cq nl t1 t2 t3 t4 t5 t6 t7 t8 tm tl u1 tA qm ql fo co oq ps now _ log lvs ln os oe kvs kve c1 c2 l vs tl1 _ _ _ _
        ⟨by assumption, swap2 (by assumption), ⟨B, X, T, hg, hC, hd, ls, le, ch, m0, m9, l0, l9⟩, hr9, hs, fs, he, fe, hlog, off, allLt_ne l1.2.2.2.2.2.2.2.2.2.2.2.2.2.2.2.2, tab, lok, wt, l12, by omega, by omega, mod_this l0 (by assumption), ch2, by omega⟩
      have ht : True := trivial
      revert ht
      exact k

theorem stats_law {w : World} {p : Program} {loose : List Str} {mean : ExcName → Option Value} {mg mb : Str → Option Value} {dp un : Nat} {gd : Option (List Code)} {cn : Str} {cs : Scope} {a : Addr} {ccd : Value} {cl : List (Str × Addr)} {outer : List Env} {A₀ : Around} {base h₀ : Heap} {L : Addr} {m : Str → Option Value} {s : Shared} {Q E : Value → Shared → Prop} {news : List (Addr × Obj)} {x1 d1 ds de dv f cell nl cq : Addr} {fo co oq os oe : Obj} {t1 t2 t3 t4 tn : Tok} {now : Int} {kvs kve : List (Str × Value)} {c1 c2 : List (Str × Int)} {x3 d3 : Addr} {t5 t6 t7 t8 tm tl : Tok} {most len : Int} {x2 d2 : Addr} {u1 : Tok} {nm : Addr} {tA : Tok} {n : Nat} {log : List (Int × Int)} {end0 P C : Int}
    (B : Below A₀ base outer h₀) (F : Fr h₀ L s.heap m) (X : (Mine.hd.heap_39 w.params).In h₀) (N : News h₀ L s.heap news) (T : Top p loose mean mg mb h₀) (hk : cs.kind = .function) (hd : dp + 80 < recursionLimit) (hu : un + 800 < cLine) (hC : ClockSpec w p loose mean mg mb f cell nl cq fo co oq) (n1 : (x1, instObj 568 d1) ∈ news) (n2 : (d1, dictOf [⟨PySem.PyData.keyHash w.params (Str.ofString "clock"), .str (Str.ofString "clock") t1, .ref f⟩, ⟨PySem.PyData.keyHash w.params (Str.ofString "storage"), .str (Str.ofString "storage") t2, .ref ds⟩, ⟨PySem.PyData.keyHash w.params (Str.ofString "expirations"), .str (Str.ofString "expirations") t3, .ref de⟩, ⟨PySem.PyData.keyHash w.params (Str.ofString "events"), .str (Str.ofString "events") t4, .ref dv⟩] 4) ∈ news) (n5 : (f, fo) ∈ news) (n6 : (cell, co) ∈ news) (n7 : (nl, listOf #[.int now tn] 0) ∈ news) (n8 : (cq, oq) ∈ news) (ls : (ds == sysModules) = false) (le : (de == sysModules) = false) (hs : os.IsDictOf (strKind PG w) kvs) (fs : FlatPairs PyData.str kvs (kdpD c1)) (he : oe.IsDictOf (strKind PG w) kve) (fe : FlatPairs PyData.str kve (kdpD c2)) (n3 : (ds, os) ∈ news) (n4 : (de, oe) ∈ news) (i1 : (x3, instObj 423 d3) ∈ news) (i2 : (d3, dictOf [⟨PySem.PyData.keyHash w.params (Str.ofString "namespace"), .str (Str.ofString "namespace") t5, .str (Str.ofString "LIMITER") t8⟩, ⟨PySem.PyData.keyHash w.params (Str.ofString "amount"), .str (Str.ofString "amount") t6, .int most tm⟩, ⟨PySem.PyData.keyHash w.params (Str.ofString "multiples"), .str (Str.ofString "multiples") t7, .int len tl⟩] 3) ∈ news) (m1 : (x2, instObj 218 d2) ∈ news) (m2 : (d2, dictOf [⟨PySem.PyData.keyHash w.params (Str.ofString "storage"), .str (Str.ofString "storage") u1, .ref x1⟩] 1) ∈ news) (i3 : (nm, tupK [.str (Str.ofString "ann") tA].toArray n) ∈ news)
    (tab : Tab len most (keyOf most len) log c1 c2) (lok : LogOk end0 log) (hz : cnt len log (now / len) ≠ 0 → now % len ≠ 0) (hW : Wt len log now ≤ most)
    (h0 : 1000000 ≤ now) (h9 : now ≤ 2000000000) (m0 : 1 ≤ most) (m9 : most ≤ 9) (l0 : 2 ≤ len) (l9 : len ≤ 8) (eP : cnt len log (now / len - 1) = P) (eC : cnt len log (now / len) = C)
    (ret : ∀ left mom parts tl tm tp x dx t h' tk', TurnOk len most now log P C left mom parts → Fr h₀ L h' m → News h₀ L h' ((x, statsObj dx (.ref t) (.int left tl)) :: (dx, dictOf [] 0) :: (t, tupObj [.int mom tm, .int parts tp]) :: news) → Q (.ref x) { s with heap := h', toks := tk' }) :
    wpAny (model PG w) (ktrTop dp un gd cn cs L a ccd cl outer) (call (.ref 206)  [.ref x2, .ref x3, .ref nm]) Q E s := by
  have a := tab.asks (t := now) lok l0 m9
  refine stats_spec B F X N T hk hd hu hC n1 n2 n5 n6 n7 n8 ls le hs fs he fe n3 n4 i1 i2 m1 m2 i3 a.ok1 a.ok2 h0 h9 m0 m9 l0 l9 a.p0 a.p9 a.q0 a.q9 ?_
  intro P' C' cu pt left mom parts tl tm tp x dx t h' tk' eP' eC' eU eQ eL eT F' N'
  have k := turn_ok tab lok l0 l9 m9 h0 hz hW eP' eC' eU eQ eL eT
  have q1 : P' = P := k.eP.trans eP
  have q2 : C' = C := k.eC.trans eC
  subst q1 q2
  exact ret left mom parts tl tm tp x dx t h' tk' k F' N'
theorem test_law {w : World} {p : Program} {loose : List Str} {mean : ExcName → Option Value} {mg mb : Str → Option Value} {dp un : Nat} {gd : Option (List Code)} {cn : Str} {cs : Scope} {a : Addr} {ccd : Value} {cl : List (Str × Addr)} {outer : List Env} {A₀ : Around} {base h₀ : Heap} {L : Addr} {m : Str → Option Value} {s : Shared} {Q E : Value → Shared → Prop} {news : List (Addr × Obj)} {x1 d1 ds de dv f cell nl cq : Addr} {fo co oq os oe : Obj} {t1 t2 t3 t4 tn : Tok} {now : Int} {kvs kve : List (Str × Value)} {c1 c2 : List (Str × Int)} {x3 d3 : Addr} {t5 t6 t7 t8 tm tl : Tok} {most len : Int} {x2 d2 : Addr} {u1 : Tok} {nm : Addr} {tA ta : Tok} {n : Nat} {cost : Int} {log : List (Int × Int)} {end0 : Int}
    (B : Below A₀ base outer h₀) (F : Fr h₀ L s.heap m) (X : (Mine.hd.heap_39 w.params).In h₀) (N : News h₀ L s.heap news) (T : Top p loose mean mg mb h₀) (hk : cs.kind = .function) (hd : dp + 40 < recursionLimit) (hu : un + 500 < cLine) (hC : ClockSpec w p loose mean mg mb f cell nl cq fo co oq) (n1 : (x1, instObj 568 d1) ∈ news) (n2 : (d1, dictOf [⟨PySem.PyData.keyHash w.params (Str.ofString "clock"), .str (Str.ofString "clock") t1, .ref f⟩, ⟨PySem.PyData.keyHash w.params (Str.ofString "storage"), .str (Str.ofString "storage") t2, .ref ds⟩, ⟨PySem.PyData.keyHash w.params (Str.ofString "expirations"), .str (Str.ofString "expirations") t3, .ref de⟩, ⟨PySem.PyData.keyHash w.params (Str.ofString "events"), .str (Str.ofString "events") t4, .ref dv⟩] 4) ∈ news) (n5 : (f, fo) ∈ news) (n6 : (cell, co) ∈ news) (n7 : (nl, listOf #[.int now tn] 0) ∈ news) (n8 : (cq, oq) ∈ news) (ls : (ds == sysModules) = false) (le : (de == sysModules) = false) (hs : os.IsDictOf (strKind PG w) kvs) (fs : FlatPairs PyData.str kvs (kdpD c1)) (he : oe.IsDictOf (strKind PG w) kve) (fe : FlatPairs PyData.str kve (kdpD c2)) (n3 : (ds, os) ∈ news) (n4 : (de, oe) ∈ news) (i1 : (x3, instObj 423 d3) ∈ news) (i2 : (d3, dictOf [⟨PySem.PyData.keyHash w.params (Str.ofString "namespace"), .str (Str.ofString "namespace") t5, .str (Str.ofString "LIMITER") t8⟩, ⟨PySem.PyData.keyHash w.params (Str.ofString "amount"), .str (Str.ofString "amount") t6, .int most tm⟩, ⟨PySem.PyData.keyHash w.params (Str.ofString "multiples"), .str (Str.ofString "multiples") t7, .int len tl⟩] 3) ∈ news) (m1 : (x2, instObj 218 d2) ∈ news) (m2 : (d2, dictOf [⟨PySem.PyData.keyHash w.params (Str.ofString "storage"), .str (Str.ofString "storage") u1, .ref x1⟩] 1) ∈ news) (i3 : (nm, tupK [.str (Str.ofString "ann") tA].toArray n) ∈ news)
    (tab : Tab len most (keyOf most len) log c1 c2) (lok : LogOk end0 log)
    (h0 : 1000000 ≤ now) (h9 : now ≤ 2000000000) (m0 : 1 ≤ most) (m9 : most ≤ 9) (l0 : 2 ≤ len) (l9 : len ≤ 8) (g0 : -100 ≤ cost) (g9 : cost ≤ 100)
    (ret : ∀ h' tk', Fr h₀ L h' m → News h₀ L h' news → Q (.bool (decide (Wt len log now < most - cost + 1))) { s with heap := h', toks := tk' }) :
    wpAny (model PG w) (ktrTop dp un gd cn cs L a ccd cl outer) (call (.ref 197)  [.ref x2, .ref x3, .ref nm, .int cost ta]) Q E s := by
  have a := tab.asks (t := now) lok l0 m9
  refine test_spec B F X N T hk hd hu hC n1 n2 n5 n6 n7 n8 ls le hs fs he fe n3 n4 i1 i2 m1 m2 i3 a.ok1 a.ok2 h0 h9 m0 m9 l0 l9 a.p0 a.p9 a.q0 a.q9 g0 g9 ?_
  intro h' tk' F' N'
  rw [tab.weighed l0]
  exact ret h' tk' F' N'
/-- a row that the second loop makes -/
def rowAt (L M : Int) (log : List (Int × Int)) (now1 : Int) (i : Nat) : Int × Int × Int := (now1 + i, M - Wt L log (now1 + i), tel L log (now1 + i))
def rowDat (rows : List (Int × Int × Int)) : List Dat := rows.map fun r => .tuple [.int r.1, .int r.2.1, .int r.2.2]
set_option genInjectivity false in
structure L2S where
  now : Int
  tn : Tok
  rvs : List Value
  rn : Nat
  rows : List (Int × Int × Int)
abbrev Led2 (nl rl : Addr) (c : L2S) : List (Addr × Obj) := [(nl, listOf #[.int c.now c.tn] 0), (rl, listOf c.rvs.toArray c.rn)]
def Facts2 (nx : List (Addr × Obj)) (c : L2S) : Prop := DatAll nx c.rvs (rowDat c.rows)
def Inv2 (L M : Int) (log : List (Int × Int)) (now1 : Int) (pre : List Int) (c : L2S) : Prop := c.now = now1 + pre.length ∧ c.rows = (List.range pre.length).map (rowAt L M log now1)
section
variable {w : World} {A : Around} {E : Value → Shared → Prop} {s : Shared} {env : Env} {h₀ : Heap} {x : Str} {body : List Stmt} {Q : Flow → Shared → Prop}
theorem loop2 {r nl rl : Addr} {b₀ : Int} {t₀ u₀ v₀ : Tok} {m₀ : Str → Option Value} {news : List (Addr × Obj)} (cst : List (Addr × Obj)) (stored : List Str) (Inv : List Int → L2S → Prop) (c₀ : L2S)
    (hh : A.handled = none) (hr : IsRange s.heap r 0 b₀ 1 t₀ u₀ v₀) (hb : 0 ≤ b₀) (hb9 : b₀ ≤ 100) (F : Fr h₀ env.locals s.heap m₀) (N : News h₀ env.locals s.heap news) (hn : ∀ p ∈ Led2 nl rl c₀ ++ (cst ++ []), p ∈ news) (hf : Facts2 (cst ++ []) c₀) (hp : Inv [] c₀)
    (turn : ∀ (c : L2S) tl (pre : List Int) (k : Int) t (u : Str → Option Value) h tk own, k = 0 + (pre.length : Int) → pre.length < b₀.toNat → KdSep own tl (nl :: rl :: cst.map (·.1)) → OwnOff (tl ++ own) (nl :: rl :: cst.map (·.1)) → Facts2 (cst ++ tl) c → Inv pre c →
      Fr h₀ env.locals h (fun y => if y = x then some (.int k t) else if stored.contains y then u y else m₀ y) → News h₀ env.locals h (Led2 nl rl c ++ (cst ++ (tl ++ own))) →
      wpAny (model PG w) A (execs body env) (InvPostG h₀ env.locals (KdS (Led2 nl rl) cst (fun _ => []) Facts2 x stored m₀ Inv (nl :: rl :: cst.map (·.1)) (pre ++ [k])) own { s with heap := h, toks := tk } Q) E { s with heap := h, toks := tk })
    (done : ∀ (c : L2S) tl (u : Str → Option Value) h tk, OwnOff tl (nl :: rl :: cst.map (·.1)) → Facts2 (cst ++ tl) c → Inv (rangeKs 0 b₀.toNat) c → Fr h₀ env.locals h (fun y => if y = x then u y else if stored.contains y then u y else m₀ y) → News h₀ env.locals h (Led2 nl rl c ++ (cst ++ tl)) → Q .next { s with heap := h, toks := tk }) :
    wpAny (model PG w) A (pyIter (.ref r)) (fun it s₂ => LoopAtV PG w A h₀ env x body Q E it s₂) E s :=
  kd_range (n := b₀.toNat) (Led2 nl rl) cst (fun _ => []) Facts2 stored Inv (nl :: rl :: cst.map (·.1)) c₀ hh hr (small_one (by decide) (by decide) (by omega) (by omega)) (by unfold Builtin.Range.rangeSize; rw [if_pos (by decide)]; split <;> omega) F N hn (fun _ => rfl) hf (fun _ h => nomatch h) hp
    turn done
end

def cntB (st L : Int) (lp : List (Int × Int)) : Int := (lp.map fun p => if st ≤ p.1 then 0 else if st - L ≤ p.1 then p.2 else 0).sum
def cntT (st : Int) (lp : List (Int × Int)) : Int := (lp.map fun p => if st ≤ p.1 then p.2 else 0).sum
theorem cntB_snoc (st L : Int) (lp : List (Int × Int)) (p : Int × Int) : cntB st L (lp ++ [p]) = cntB st L lp + (if st ≤ p.1 then 0 else if st - L ≤ p.1 then p.2 else 0) := by simp [cntB, List.sum_append]
theorem cntT_snoc (st : Int) (lp : List (Int × Int)) (p : Int × Int) : cntT st (lp ++ [p]) = cntT st lp + (if st ≤ p.1 then p.2 else 0) := by simp [cntT, List.sum_append]
theorem win_eq {L t x : Int} (hL : 2 ≤ L) (hx : x ≤ t) : (t - t % L ≤ x ↔ x / L = t / L) ∧ ((x < t - t % L ∧ t - t % L - L ≤ x) ↔ x / L = t / L - 1) := by
  have e := Int.emod_add_mul_ediv t L
  have h0 := Int.emod_nonneg t (show L ≠ 0 by omega)
  have h1 := Int.emod_lt_of_pos t (show 0 < L by omega)
  have f := Int.emod_add_mul_ediv x L
  have g0 := Int.emod_nonneg x (show L ≠ 0 by omega)
  have g1 := Int.emod_lt_of_pos x (show 0 < L by omega)
  have up : ∀ k : Int, L * k ≤ x → k ≤ x / L := fun k hk => by
    rcases Int.lt_or_le (x / L) k with h | h
    · have : L * (x / L + 1) ≤ L * k := Int.mul_le_mul_of_nonneg_left (by omega) (by omega)
      rw [Int.mul_add] at this
      omega
    · exact h
  have down : ∀ k : Int, k ≤ x / L → L * k ≤ x := fun k hk => by
    have : L * k ≤ L * (x / L) := Int.mul_le_mul_of_nonneg_left hk (by omega)
    omega
  have hle : x / L ≤ t / L := Int.ediv_le_ediv (by omega) hx
  have c1 : L * (t / L - 1) = L * (t / L) - L := by rw [Int.mul_sub]; omega
  have u1 := up (t / L)
  have u2 := up (t / L - 1)
  have d1 := down (t / L)
  have d2 := down (t / L - 1)
  refine ⟨⟨fun h => ?_, fun h => ?_⟩, ⟨fun h => ?_, fun h => ?_⟩⟩
  · have := u1 (by omega); omega
  · have := d1 (by omega); omega
  · have := u2 (by omega)
    rcases Int.lt_or_le (x / L) (t / L) with h9 | h9
    · omega
    · have := d1 (by omega); omega
  · have := d2 (by omega)
    refine ⟨?_, by omega⟩
    rcases Int.lt_or_le x (t - t % L) with h9 | h9
    · exact h9
    · have := u1 (by omega); omega
theorem cntT_eq {L t now : Int} {log : List (Int × Int)} (hL : 2 ≤ L) (lok : LogOk now log) (ht : now ≤ t) : cntT (t - Int.fmod t L) log = cnt L log (t / L) := by
  rw [Int.fmod_eq_emod_of_nonneg _ (by omega)]
  induction log with
  | nil => rfl
  | cons p r ih =>
    have h := lok p List.mem_cons_self
    have i := ih fun q hq => lok q (List.mem_cons_of_mem _ hq)
    have k := (win_eq (L := L) (t := t) (x := p.1) hL (by omega)).1
    have e1 : cntT (t - t % L) (p :: r) = (if t - t % L ≤ p.1 then p.2 else 0) + cntT (t - t % L) r := by simp [cntT]
    have e2 : cnt L (p :: r) (t / L) = (if p.1 / L = t / L then p.2 else 0) + cnt L r (t / L) := by simp [cnt]
    rw [e1, e2, i]
    by_cases h9 : t - t % L ≤ p.1
    · rw [if_pos h9, if_pos (k.mp h9)]
    · rw [if_neg h9, if_neg (fun q => h9 (k.mpr q))]
theorem cntB_eq {L t now : Int} {log : List (Int × Int)} (hL : 2 ≤ L) (lok : LogOk now log) (ht : now ≤ t) : cntB (t - Int.fmod t L) L log = cnt L log (t / L - 1) := by
  rw [Int.fmod_eq_emod_of_nonneg _ (by omega)]
  induction log with
  | nil => rfl
  | cons p r ih =>
    have h := lok p List.mem_cons_self
    have i := ih fun q hq => lok q (List.mem_cons_of_mem _ hq)
    have k := (win_eq (L := L) (t := t) (x := p.1) hL (by omega)).2
    have e1 : cntB (t - t % L) L (p :: r) = (if t - t % L ≤ p.1 then 0 else if t - t % L - L ≤ p.1 then p.2 else 0) + cntB (t - t % L) L r := by simp [cntB]
    have e2 : cnt L (p :: r) (t / L - 1) = (if p.1 / L = t / L - 1 then p.2 else 0) + cnt L r (t / L - 1) := by simp [cnt]
    rw [e1, e2, i]
    by_cases h9 : t - t % L ≤ p.1
    · rw [if_pos h9, if_neg (fun q => by have := k.mpr q; omega)]
    · rw [if_neg h9]
      by_cases h8 : t - t % L - L ≤ p.1
      · rw [if_pos h8, if_pos (k.mp ⟨by omega, h8⟩)]
      · rw [if_neg h8, if_neg (fun q => h8 (k.mpr q).2)]
set_option genInjectivity false in
structure IB where
  b : Int
  t : Int
  tb : Tok
  tt : Tok
def InvI (st L : Int) (log : List (Int × Int)) (pre : List Dat) (c : IB) : Prop := ∃ lp ls, log = lp ++ ls ∧ pre = logDat lp ∧ c.b = cntB st L lp ∧ c.t = cntT st lp
abbrev psI (c : IB) : List (Str × Value) := [(Str.ofString "before", .int c.b c.tb), (Str.ofString "this", .int c.t c.tt)]
theorem logDat_split {log lp ls : List (Int × Int)} {d : Dat} {post : List Dat} (h1 : log = lp ++ ls) (h2 : logDat log = logDat lp ++ d :: post) : ∃ p ls', ls = p :: ls' ∧ d = .tuple [.int p.1, .int p.2] := by
  subst h1
  rw [logDat, List.map_append] at h2
  have h3 := List.append_cancel_left h2
  cases ls with
  | nil => cases h3
  | cons p ls' => exact ⟨p, ls', rfl, (List.cons.inj h3).1.symm⟩
theorem logDat_all {log lp ls : List (Int × Int)} (h1 : log = lp ++ ls) (h2 : logDat log = logDat lp) : lp = log := by
  have h3 := congrArg List.length h2
  subst h1
  rw [logDat, logDat, List.length_map, List.length_map, List.length_append] at h3
  have : ls = [] := List.length_eq_zero_iff.mp (by omega)
  rw [this, List.append_nil]
theorem pair_in {nx : List (Addr × Obj)} {v : Value} {x y : Int} (h : DatIn nx v (.tuple [.int x, .int y])) : ∃ a n q1 q2, v = .ref a ∧ (a, tupK [.int x q1, .int y q2].toArray n) ∈ nx := by
  cases h with
  | tuple hm hr =>
    cases hr with
    | cons h1 hr =>
      cases h1
      cases hr with
      | cons h2 hr =>
        cases h2
        cases hr
        exact ⟨_, _, _, _, rfl, hm⟩
theorem trio_in {nx : List (Addr × Obj)} {v : Value} {x y z : Int} (h : DatIn nx v (.tuple [.int x, .int y, .int z])) : ∃ a n q1 q2 q3, v = .ref a ∧ (a, tupK [.int x q1, .int y q2, .int z q3].toArray n) ∈ nx := by
  cases h with
  | tuple hm hr =>
    cases hr with
    | cons h1 hr =>
      cases h1
      cases hr with
      | cons h2 hr =>
        cases h2
        cases hr with
        | cons h3 hr =>
          cases h3
          cases hr
          exact ⟨_, _, _, _, _, rfl, hm⟩
section
variable {w : World} {A : Around} {E : Value → Shared → Prop} {s : Shared} {env : Env} {h₀ : Heap} {target : PySem.Expr} {body : List Stmt} {Q : Flow → Shared → Prop}
/-- the sum over the log -/
theorem loopI {l : Addr} {vs : List Value} {nn : Nat} {m₀ : Str → Option Value} {news : List (Addr × Obj)} {log : List (Int × Int)} {tb tt : Tok} (st L : Int)
    (hh : A.handled = none) (hl : (l, listOf vs.toArray nn) ∈ news) (hd : DatAll news vs (logDat log)) (F : Fr h₀ env.locals s.heap m₀) (N : News h₀ env.locals s.heap news) (h1 : m₀ (Str.ofString "before") = some (.int 0 tb)) (h2 : m₀ (Str.ofString "this") = some (.int 0 tt))
    (turn : ∀ (c : IB) tl lp p ls a n q1 q2 (u : Str → Option Value) h tk own, log = lp ++ p :: ls → c.b = cntB st L lp → c.t = cntT st lp → (a, tupK [.int p.1 q1, .int p.2 q2].toArray n) ∈ news ++ tl → KdSep own tl (news.map (·.1)) → OwnOff (tl ++ own) (news.map (·.1)) →
      Fr h₀ env.locals h (fun y => if y = Str.ofString "second" then u y else kstB (fun z => if [Str.ofString "cost"].contains z then u z else m₀ z) (psI c) y) → News h₀ env.locals h (news ++ (tl ++ own)) →
      wpAny (model PG w) A (assign target env (.ref a)) (fun _ s₃ => wpAny (model PG w) A (execs body env) (InvPostG h₀ env.locals (KdS (fun _ : IB => []) news psI (fun _ _ => True) (Str.ofString "second") [Str.ofString "cost"] m₀ (InvI st L log) (news.map (·.1)) (logDat lp ++ [.tuple [.int p.1, .int p.2]])) own { s with heap := h, toks := tk } Q) E s₃) E { s with heap := h, toks := tk })
    (done : ∀ (c : IB) tl (u : Str → Option Value) h tk, c.b = cntB st L log → c.t = cntT st log → OwnOff tl (news.map (·.1)) → Fr h₀ env.locals h (fun y => if y = Str.ofString "second" then u y else kstB (fun z => if [Str.ofString "cost"].contains z then u z else m₀ z) (psI c) y) → News h₀ env.locals h (news ++ tl) → Q .next { s with heap := h, toks := tk }) :
    wpAny (model PG w) A (pyIter (.ref l)) (fun it s₂ => TurnsAt PG w A h₀ env target body Q E it s₂) E s := by
  refine turns_list (x := Str.ofString "second") (ds := logDat log) (fun _ : IB => []) news psI (fun _ _ => True) [Str.ofString "cost"] (InvI st L log) (news.map (·.1)) ⟨0, 0, tb, tt⟩ hh hl (by rw [List.append_nil]; exact hd) F N (fun p hp => by simpa using hp) (fun _ => rfl) trivial ?_ ⟨[], log, rfl, rfl, rfl, rfl⟩ ?_ ?_
  · intro p hp
    rcases List.mem_cons.mp hp with e | hp
    · subst e; exact h1
    · rcases List.mem_cons.mp hp with e | hp
      · subst e; exact h2
      · cases hp
  · rintro c tl pre d post v u h tk own e hm hD hs ho _ ⟨lp, ls, q1, q2, q3, q4⟩ F' N'
    subst q2
    obtain ⟨p, ls', rfl, rfl⟩ := logDat_split q1 e
    obtain ⟨a, n, r1, r2, rfl, hm'⟩ := pair_in hD
    exact turn c tl lp p ls' a n r1 r2 u h tk own q1 q3 q4 hm' hs ho F' N'
  · rintro c tl u h tk ho _ ⟨lp, ls, q1, q2, q3, q4⟩ F' N'
    have := logDat_all q1 q2
    subst this
    exact done c tl u h tk q3 q4 ho F' N'
end
theorem hz_of {L now t : Int} {log : List (Int × Int)} (lok : LogOk now log) (hL : 2 ≤ L) (ht : now ≤ t) (md : now % L ≠ 0) (h : cnt L log (t / L) ≠ 0) : t % L ≠ 0 := by
  have h1 : now / L ≤ t / L := Int.ediv_le_ediv (by omega) ht
  have h2 : ¬ now / L < t / L := fun q => h (cnt_later lok (by omega) q)
  have e1 := Int.emod_add_mul_ediv now L
  have e2 := Int.emod_add_mul_ediv t L
  have h3 : t / L = now / L := by omega
  have m0 := Int.emod_nonneg now (show L ≠ 0 by omega)
  rw [h3] at e2
  omega
theorem TurnOk.d1 {L M t P C left mom parts : Int} {log : List (Int × Int)} (h : TurnOk L M t log P C left mom parts) : P ≤ 0 ∨ P * ((t - Int.fmod t L + L) * parts - mom) = (M - left - C) * L * parts := by
  rcases Int.lt_or_le 0 P with h9 | h9
  · exact .inr (h.b1 h9)
  · exact .inl h9
theorem TurnOk.d2 {L M t P C left mom parts : Int} {log : List (Int × Int)} (h : TurnOk L M t log P C left mom parts) : P ≠ 0 ∨ C ≤ 0 ∨ mom = (t - Int.fmod t L + L) * parts := by
  by_cases h9 : P = 0
  · rcases Int.lt_or_le 0 C with h8 | h8
    · exact .inr (.inr (h.b2 h9 h8))
    · exact .inr (.inl h8)
  · exact .inl h9
theorem TurnOk.d3 {L M t P C left mom parts : Int} {log : List (Int × Int)} (h : TurnOk L M t log P C left mom parts) : P ≠ 0 ∨ C ≠ 0 ∨ (mom = t * parts ∧ left = M) := by
  by_cases h9 : P = 0
  · by_cases h8 : C = 0
    · exact .inr (.inr (h.b3 h9 h8))
    · exact .inr (.inl h8)
  · exact .inl h9
theorem drop3 {h₀ : Heap} {L : Addr} {h : Heap} {q a b c : Addr × Obj} {l : List (Addr × Obj)} (N : News h₀ L h (q :: a :: b :: c :: l)) : News h₀ L h (q :: l) := by
  refine cb_drop N fun p hp => ?_
  simp only [List.mem_cons] at hp ⊢
  rcases hp with h | h <;> simp [h]
theorem in_all2 {q : Addr × Obj} {a b t1 t2 r : List (Addr × Obj)} : ∀ p ∈ a ++ ((b ++ t1) ++ ([q] ++ t2)), p ∈ q :: (a ++ (b ++ (t1 ++ (t2 ++ r)))) := fun p hp => by
  simp only [List.mem_append, List.mem_cons, List.not_mem_nil, or_false] at hp ⊢
  rcases hp with h | (h | h) | h | h <;> simp [h]
theorem off_two {tl1 tl2 own itl : List (Addr × Obj)} {nl rl : Addr} {a1 a2 a3 : List Addr} (h1 : OwnOff tl1 a1) (m1 : nl ∈ a1) (h2 : ∀ p ∈ tl1, p.1 ≠ rl) (h3 : OwnOff (tl2 ++ own) a2) (m2 : nl ∈ a2) (m3 : rl ∈ a2) (h4 : OwnOff itl a3) (m4 : nl ∈ a3) (m5 : rl ∈ a3) : OwnOff (tl1 ++ (tl2 ++ (own ++ itl))) [nl, rl] := by
  intro p hp b hb
  simp only [List.mem_append] at hp
  simp only [List.mem_cons, List.not_mem_nil, or_false] at hb
  rcases hp with h | h | h | h <;> rcases hb with e | e <;> subst e
  · exact h1 p h _ m1
  · exact h2 p h
  · exact h3 p (List.mem_append_left _ h) _ m2
  · exact h3 p (List.mem_append_left _ h) _ m3
  · exact h3 p (List.mem_append_right _ h) _ m2
  · exact h3 p (List.mem_append_right _ h) _ m3
  · exact h4 p h _ m4
  · exact h4 p h _ m5
theorem inv2_next {L M now1 nw left told k : Int} {log : List (Int × Int)} {pre : List Int} {rows : List (Int × Int × Int)} {tn' : Tok} {rvs' : List Value} {rn' : Nat} (i1 : nw = now1 + pre.length) (i2 : rows = (List.range pre.length).map (rowAt L M log now1)) (e1 : left = M - Wt L log nw) (e2 : told = tel L log nw) :
    Inv2 L M log now1 (pre ++ [k]) ⟨nw + 1, tn', rvs', rn', rows ++ [(nw, left, told)]⟩ := by
  refine ⟨?_, ?_⟩
  · dsimp only
    rw [List.length_append, List.length_singleton]; omega
  · dsimp only
    rw [List.length_append, List.length_singleton, List.range_succ, List.map_append, ← i2, e1, e2]
    simp only [List.map_cons, List.map_nil, rowAt, ← i1]
theorem row_snoc {nx : List (Addr × Obj)} {rvs : List Value} {rows : List (Int × Int × Int)} {a : Addr} {x y z : Int} {t u v : Tok} {k : Nat} (h : DatAll nx rvs (rowDat rows)) (hm : (a, tupK [.int x t, .int y u, .int z v].toArray k) ∈ nx) : DatAll nx (rvs ++ [.ref a]) (rowDat (rows ++ [(x, y, z)])) := by
  rw [rowDat, List.map_append]
  exact h.append (DatAll.one (.tuple hm (.cons (.int _ _) (.cons (.int _ _) (.cons (.int _ _) .nil)))))
/-- the law's state behind its second loop -/
inductive After2 (w : World) (s₀ s₁ : Shared) (h : Heap) (p : Program) (loose : List Str) (mean : ExcName → Option Value) (mg mb : Str → Option Value) (base : Str → Option Value) (most len : Int) (rl : Addr) (qm : Tok) (ps : Array Value) (rvs : List Value) (rn : Nat) (log : List (Int × Int)) (now1 : Int) (ent : List (Addr × Obj)) : Prop
  | mk (F : Fr (ghostOf s₁.heap [(576, 572)]) s₁.heap.objs.size h (fun y => if y = Str.ofString "rows" then some (.ref rl) else if y = Str.ofString "most" then some (.int most qm) else base y)) (N : News (ghostOf s₁.heap [(576, 572)]) s₁.heap.objs.size h ((rl, listOf rvs.toArray rn) :: ent)) (hm : (572, tabObj ps) ∈ ent) (dat : DatAll ent rvs (rowDat ((List.range (2 * len + 1).toNat).map (rowAt len most log now1)))) (B : Below callerA (ghostOf s₁.heap [(576, 572)]) [] (ghostOf s₁.heap [(576, 572)])) (X : (Mine.hd.heap_39 w.params).In (ghostOf s₁.heap [(576, 572)])) (T : Top p loose mean mg mb (ghostOf s₁.heap [(576, 572)])) (hg : s₁.gens = #[]) (m0 : 1 ≤ most) (m9 : most ≤ 9) (l0 : 2 ≤ len) (l9 : len ≤ 8) (lok : LogOk now1 log) (wt : Wt len log now1 ≤ most) (n0 : 1000000 ≤ now1) (n9 : now1 ≤ 1002000001) (md : now1 % len ≠ 0)
theorem fr_two {h₀ h : Heap} {L : Addr} {f : Str → Option Value} {v w : Value} (F : Fr h₀ L h f) (h1 : f (Str.ofString "rows") = some v) (h2 : f (Str.ofString "most") = some w) :
    Fr h₀ L h (fun y => if y = Str.ofString "rows" then some v else if y = Str.ofString "most" then some w else f y) := by
  have e : f = (fun y => if y = Str.ofString "rows" then some v else if y = Str.ofString "most" then some w else f y) := by
    funext y
    by_cases e1 : y = Str.ofString "rows"
    · rw [if_pos e1, e1, h1]
    · by_cases e2 : y = Str.ofString "most"
      · rw [if_neg e1, if_pos e2, e2, h2]
      · rw [if_neg e1, if_neg e2]
  exact e ▸ F
theorem drop_one {h₀ : Heap} {L : Addr} {h : Heap} {a : Addr × Obj} {l : List (Addr × Obj)} (N : News h₀ L h (a :: l)) : News h₀ L h l := cb_drop N fun p hp => List.mem_cons_of_mem _ hp

section
local macro_rules | `(tactic| walk_at "call ref") => `(tactic| (k_here; (with_reducible show wpAny _ _ (call (Value.ref 206) _ _) _ _ _); k_dflt (apply stats_law; (case hC => assumption); walk_at "use common"; (case n1 | n2 | n5 | n6 | n7 | n8 | n3 | n4 | i1 | i2 | m1 | m2 | i3 => k_mem); (case ls | le | hs | fs | he | fe | tab | lok | hz | hW | h0 | h9 | m0 | m9 | l0 | l9 | eP | eC => assumption)); intro left9 mom9 parts9 tl9 tm9 tp9 x9 dx9 t9 h9 tk9 hT9 F' N'; have d1 := TurnOk.d1 hT9; have d2 := TurnOk.d2 hT9; have d3 := TurnOk.d3 hT9; obtain ⟨e1, e2, e3, f1, f2, f3, f4, f5, f6, f7, f8, f9, f10, f11, f12, -, -, -, f16⟩ := hT9; (try dsimp only)))
local macro_rules | `(tactic| walk_at "call ref") => `(tactic| (k_here; (with_reducible show wpAny _ _ (call (Value.ref 197) _ _) _ _ _); k_dflt (apply test_law; (case hC => assumption); walk_at "use common"; (case n1 | n2 | n5 | n6 | n7 | n8 | n3 | n4 | i1 | i2 | m1 | m2 | i3 => k_mem); (case ls | le | hs | fs | he | fe | tab | lok | h0 | h9 | m0 | m9 | l0 | l9 => assumption); (case g0 | g9 => omega)); intro h9 tk9 F' N'; (try dsimp only)))
local macro_rules | `(tactic| walk_at "getAttr ref") => `(tactic| (k_here; k_dflt ((first | ((with_reducible show wpAny _ _ (getAttr (Value.ref _) (Str.ofString "reset_time") _) _ _ _); apply attrW0) | ((with_reducible show wpAny _ _ (getAttr (Value.ref _) (Str.ofString "remaining") _) _ _ _); apply attrW1)); walk_at "use common"; (case hI => first | assumption | exact instEv_N (by k_mem) (by k_mem)); (case hv => rfl)); intro h9 tk9 F' N'; (try dsimp only)))
local macro_rules | `(tactic| walk_at "exec For") => `(tactic| (k_here; (with_reducible show wpAny _ _ (exec (Stmt.For (Expr.Tuple _ _ _) _ _ [] _) _) _ _ _); (rename Fr _ _ _ _ => F9); (with_unfolding_all refine For_turns F9 ?_)))
local macro_rules | `(tactic| k_mem) => `(tactic| with_reducible assumption)
local macro_rules | `(tactic| walk_at "subscriptTail Name Constant ref int") => `(tactic| (k_here; (with_reducible show wpAny _ _ (subscriptTail _ _ (Value.ref _) (Value.int 0 _)) _ _ _); k_dflt ((with_unfolding_all refine' now_item ?N ?hm ?_ ?hs); (case N => k_asm); (case hm => k_mem); (case hs => with_unfolding_all rfl)); intro t9))
local macro_rules | `(tactic| walk_at "call builtin:list.append") => `(tactic| (k_here; (show wpAny _ _ (call (Value.builtin "list.append") [Value.ref _, _]) _ _ _); k_dflt (refine' append_K ?k1 (drop3 ?k2) ?k3 ?_ ?z; (case k1 | k2 => k_asm); (case k3 => k_upd); (case z => assumption); k_whole); intro h' F' N'))
-- macs: C0 F0 L0 L4a L4b
set_option maxHeartbeats 8000000 in
noncomputable def W4 : PSigma fun G : World → Shared → Shared → Addr → List Int → Nat → Heap → Prop =>
    (Wrap (∀ (w : World) (s₀ s₁ : Shared) (fa : Addr) (ns : List Int) (tk : Nat) (h : Heap) (p : Program) (loose : List Str) (mean : ExcName → Option Value) (mg mb : Str → Option Value) (base : Str → Option Value) (most len : Int) (rl : Addr) (qm : Tok) (ps : Array Value) (rvs : List Value) (rn : Nat) (log : List (Int × Int)) (now1 : Int) (ent : List (Addr × Obj)),
      After2 w s₀ s₁ h p loose mean mg mb base most len rl qm ps rvs rn log now1 ent → G w s₀ s₁ fa ns tk h)) →
    ∀ (w : World) (s₀ s₁ : Shared) (fa : Addr) (ns : List Int) (tk : Nat) (r : Addr) (h : Heap) (p : Program) (loose : List Str) (mean : ExcName → Option Value) (mg mb : Str → Option Value) (base : Str → Option Value) (most len : Int) (ll nm x3 d3 x2 d2 x1 d1 ds de dv f cq nl : Addr) (t1 t2 t3 t4 t5 t6 t7 t8 tm tl u1 tA qm ql : Tok) (fo co oq : Obj) (ps : Array Value) (now : Int) (tn : Tok) (log : List (Int × Int)) (lvs : List Value) (ln : Nat) (os oe : Obj) (kvs kve : List (Str × Value)) (c1 c2 : List (Str × Int)) (l : Addr) (vs : List Value) (tl1 : List (Addr × Obj)) (rl : Addr) (ra rb rc : Tok),
      Start2 w s₀ s₁ r h p loose mean mg mb base most len ll nm x3 d3 x2 d2 x1 d1 ds de dv f cq nl t1 t2 t3 t4 t5 t6 t7 t8 tm tl u1 tA qm ql fo co oq ps now tn log lvs ln os oe kvs kve c1 c2 l vs tl1 rl ra rb rc → W3.1 w s₀ s₁ fa ns tk r h := by
  refine' ⟨_, fun hR => _⟩
  rotate_left
  · intro w s₀ s₁ fa ns tk r h p loose mean mg mb base most len ll nm x3 d3 x2 d2 x1 d1 ds de dv f cq nl t1 t2 t3 t4 t5 t6 t7 t8 tm tl u1 tA qm ql fo co oq ps now tn log lvs ln os oe kvs kve c1 c2 l vs tl1 rl ra rb rc hS
    obtain ⟨F, N, ⟨B, X, T, hg, hC, hd, ls, le, ch, m0, m9, l0, l9⟩, hr, hs, fs, he, fe, hlog, off, offr, tab, lok, wt, l12, n0, n9, md, ch2, ch3⟩ := hS
    intro _
    w_on
    revert X; (have hM : PySem.Challenge.rw_ji0057_01.name = PySem.Challenge.rw_ji0057_01.name := rfl); revert hM; k_fill; intro hM X; clear hM
    refine loop2 (nl := nl) (rl := rl) ((ds, os) :: (de, oe) :: (ll, listOf lvs.toArray ln) :: (l, listOf vs.toArray 0) :: (nm, tupK [.str (Str.ofString "ann") tA].toArray 0) :: (x3, instObj 423 d3) :: (d3, dictOf [⟨PySem.PyData.keyHash w.params (Str.ofString "namespace"), .str (Str.ofString "namespace") t5, .str (Str.ofString "LIMITER") t8⟩, ⟨PySem.PyData.keyHash w.params (Str.ofString "amount"), .str (Str.ofString "amount") t6, .int most tm⟩, ⟨PySem.PyData.keyHash w.params (Str.ofString "multiples"), .str (Str.ofString "multiples") t7, .int len tl⟩] 3) :: (x2, instObj 218 d2) :: (d2, dictOf [⟨PySem.PyData.keyHash w.params (Str.ofString "storage"), .str (Str.ofString "storage") u1, .ref x1⟩] 1) :: (x1, instObj 568 d1) :: (d1, dictOf [⟨PySem.PyData.keyHash w.params (Str.ofString "clock"), .str (Str.ofString "clock") t1, .ref f⟩, ⟨PySem.PyData.keyHash w.params (Str.ofString "storage"), .str (Str.ofString "storage") t2, .ref ds⟩, ⟨PySem.PyData.keyHash w.params (Str.ofString "expirations"), .str (Str.ofString "expirations") t3, .ref de⟩, ⟨PySem.PyData.keyHash w.params (Str.ofString "events"), .str (Str.ofString "events") t4, .ref dv⟩] 4) :: (f, fo) :: (cq, oq) :: (s₁.heap.objs.size + 1, co) :: (572, tabObj ps) :: tl1) [Str.ofString "start", Str.ofString "end", Str.ofString "before", Str.ofString "this", Str.ofString "second", Str.ofString "cost", Str.ofString "stats", Str.ofString "moment", Str.ofString "parts", Str.ofString "left", Str.ofString "weight"] (Inv2 len most log now) ⟨now, tn, [], 0, []⟩ ?hh hr (by omega) (by omega) F N ?hn (show DatAll _ [] [] from .nil) ⟨by simp, rfl⟩ ?turn ?done
    case hh => rfl
    case hn => intro p hp; rw [List.append_nil] at hp; exact hp
    case turn =>
      intro c tl2 pre k t u h tk own e1 e2 hsep hoff hf hinv F' N'
      obtain ⟨nw, tn2, rvs, rn, rows⟩ := c
      obtain ⟨i1, i2⟩ := hinv
      dsimp only [Led2, List.cons_append, List.nil_append] at N' i1 i2
      have hn0 : now ≤ nw := by omega
      have g0 : 1000000 ≤ nw := by omega
      have g9 : nw ≤ 2000000000 := by omega
      have hz2 : rvs.toArray.size ≤ sizeLine := by have q := DatAll.length hf; rw [List.size_toArray, q, sizeLine_eq, i2]; simp only [rowDat, List.length_map, List.length_range]; omega
      clear F N
      w_strict (repeat' ((fail_if_success (with_reducible show wpAny _ _ (pyIter (Value.ref _)) (fun _ _ => TurnsAt _ _ _ _ _ _ _ _ _ _ _) _ _)); first | (k_unfold; (try dsimp only)) | (k_end; wrow_close) | walk1 | (dsimp only; walk1) | (leave1; walk_say "STEP leave1"; try dsimp only) | fail "no step"))
      simp only [one_getD] at *
      rename Fr _ _ _ _ => FF
      rename News _ _ _ _ => NN
      refine loopI (l := ll) (vs := lvs) (nn := ln) (log := log) (nw - Int.fmod nw len) len ?ih ?il ?id FF NN (by with_unfolding_all rfl) (by with_unfolding_all rfl) ?it ?idone
      case ih => rfl
      case il => k_mem
      case id => exact hlog.mono fun p hp => List.mem_cons_of_mem _ (List.mem_cons_of_mem _ (List.mem_cons_of_mem _ (List.mem_cons_of_mem _ (List.mem_cons_of_mem _ (List.mem_append_left (tl2 ++ own) hp)))))
      case it =>
        intro ic itl lp ip ls ia iN q1 q2 iu ih itk iown eL eb et hm hsepI hoffI F' N'
        obtain ⟨b, t', tb, tt⟩ := ic
        obtain ⟨x, y⟩ := ip
        have hm2 := List.mem_append_left iown hm
        simp only [List.cons_append, List.append_assoc] at N' hm2
        dsimp only [psI] at F' eb et
        clear FF NN
        w_strict k_steps
        all_goals (
          refine' kd_end (⟨_, _, _, _⟩ : IB) [] hsepI ?kF ?kN ?kn ?ko rfl ?kb ?kw ?kk ?kr trivial ?kp
          case kF => assumption
          case kN => assumption
          case kn => (intro p hp; have h9 := List.mem_append_left iown hp; simpa only [List.nil_append, List.cons_append, List.append_assoc] using h9)
          case ko => (intro p hp; repeat (first | assumption | refine List.mem_cons_of_mem _ ?_ | refine List.mem_append_right _ ?_))
          case kb => (intro _ h; nomatch h)
          case kw => (intro _ h; nomatch h)
          case kk => kst_all
          case kr => (intro z g1 g2 g3; have a1 := g2 _ List.mem_cons_self; have a2 := g2 _ (List.mem_cons_of_mem _ List.mem_cons_self); dsimp only at a1 a2; have a3 : z ≠ Str.ofString "cost" := (by intro q; subst q; simp at g3); simp only [kstB, if_neg g1, if_neg a1, if_neg a2, if_neg a3, g3, Bool.false_eq_true, if_false])
          case kp => (refine ⟨lp ++ [(x, y)], ls, by rw [eL, List.append_assoc]; rfl, by simp [logDat], ?_, ?_⟩; (· rw [cntB_snoc, ← eb]; dsimp only; split <;> (try split) <;> omega); (· rw [cntT_snoc, ← et]; dsimp only; split <;> omega)))
      case idone =>
        intro ic itl iu ih itk eb et hoffI F' N'
        obtain ⟨b, t', tb, tt⟩ := ic
        dsimp only [psI, kstB] at F' eb et
        simp only [List.cons_append, List.append_assoc] at N'
        have hoo : OwnOff (tl1 ++ (tl2 ++ (own ++ itl))) [nl, rl] := off_two off (by simp) offr hoff (by simp) (by simp) hoffI (by simp) (by simp)
        have eP : cnt len log (nw / len - 1) = b := by rw [eb, cntB_eq l0 lok hn0]
        have eC : cnt len log (nw / len) = t' := by rw [et, cntT_eq l0 lok hn0]
        have hz := hz_of lok l0 hn0 md
        have hW : Wt len log nw ≤ most := Int.le_trans (Wt_le lok l0 (Int.le_refl _) hn0) wt
        have fm0 := Int.fmod_nonneg_of_pos nw (show 0 < len by omega)
        have fm1 := Int.fmod_lt_of_pos nw (show 0 < len by omega)
        clear FF NN eb et
        w_strict k_steps
        all_goals (
          expose_names
          simp only [List.push_toArray] at *
          refine' kd_end (⟨nw + 1, _, rvs ++ [.ref D'], rn + 1, rows ++ [(nw, left9, Int.fdiv mom9 parts9)]⟩ : L2S) [(D', _)] hsep ?kF ?kN ?kn ?ko rfl ?kb ?kw ?kk ?kr ?kf ?kp
          case kF => assumption
          case kN => assumption
          case kn => exact in_all2 (b := [(ds, os), (de, oe), (ll, listOf lvs.toArray ln), (l, listOf vs.toArray 0)] ++ [(nm, tupK [.str (Str.ofString "ann") tA].toArray 0), (x3, instObj 423 d3), (d3, dictOf [⟨PySem.PyData.keyHash w.params (Str.ofString "namespace"), .str (Str.ofString "namespace") t5, .str (Str.ofString "LIMITER") t8⟩, ⟨PySem.PyData.keyHash w.params (Str.ofString "amount"), .str (Str.ofString "amount") t6, .int most tm⟩, ⟨PySem.PyData.keyHash w.params (Str.ofString "multiples"), .str (Str.ofString "multiples") t7, .int len tl⟩] 3), (x2, instObj 218 d2), (d2, dictOf [⟨PySem.PyData.keyHash w.params (Str.ofString "storage"), .str (Str.ofString "storage") u1, .ref x1⟩] 1), (x1, instObj 568 d1), (d1, dictOf [⟨PySem.PyData.keyHash w.params (Str.ofString "clock"), .str (Str.ofString "clock") t1, .ref f⟩, ⟨PySem.PyData.keyHash w.params (Str.ofString "storage"), .str (Str.ofString "storage") t2, .ref ds⟩, ⟨PySem.PyData.keyHash w.params (Str.ofString "expirations"), .str (Str.ofString "expirations") t3, .ref de⟩, ⟨PySem.PyData.keyHash w.params (Str.ofString "events"), .str (Str.ofString "events") t4, .ref dv⟩] 4), (f, fo), (cq, oq), (s₁.heap.objs.size + 1, co), (572, tabObj ps)])
          case ko => (intro p hp; repeat (first | exact List.mem_append_left _ hp | refine List.mem_cons_of_mem _ ?_ | refine List.mem_append_right _ ?_))
          case kk => (intro _ h; nomatch h)
          case kb => kd_addB
          case kw => kd_addW
          case kr =>
            intro z g1 _ g3
            simp only [List.contains_cons, List.contains_nil, Bool.or_false, Bool.or_eq_false_iff, beq_eq_false_iff_ne, ne_eq] at g3
            obtain ⟨s1, s2, s3, s4, s5, s6, s7, s8, s9, s10, s11⟩ := g3
            simp [g1, s1, s2, s3, s4, s5, s6, s7, s8, s9, s10, s11]
          case kf => exact row_snoc (hf.mono kd_sub) (kd_new List.mem_cons_self)
          case kp => exact inv2_next i1 i2 (by assumption) (by assumption))
    case done =>
      intro c tl2 u h tk9 hoff hf hinv F' N'
      obtain ⟨nw, tn2, rvs, rn, rows⟩ := c
      obtain ⟨i1, i2⟩ := hinv
      dsimp only at i2
      rw [rangeKs_length] at i2
      subst i2
      have F2 := fr_two (v := .ref rl) (w := .int most qm) F' (by with_unfolding_all rfl) (by with_unfolding_all rfl)
      have k := hR.out w s₀ s₁ fa ns tk9 h p loose mean mg mb _ most len rl qm ps rvs rn log now _
        ⟨F2, drop_one N', by simp, hf, B, X, T, hg, m0, m9, l0, l9, lok, wt, n0, n9, md⟩
      have ht : True := trivial
      (try dsimp only)
      revert ht
      exact k

end
end
section
variable {prog : Program} {w : World} {A : Around} {E : Value → Shared → Prop} {s : Shared} {h₀ : Heap} {L9 l : Addr}
theorem rows_len {news ent : List (Addr × Obj)} {us : List Value} {n : Nat} {k L M now1 : Int} {log : List (Int × Int)} {Q : Value → Shared → Prop} (N : News h₀ L9 s.heap news) (hm : (l, listOf us.toArray n) ∈ news) (hd : DatAll ent us (rowDat ((List.range k.toNat).map (rowAt L M log now1)))) (h0 : 0 ≤ k) (h9 : k ≤ 100)
    (h : ∀ t tk, Q (.int k t) { s with toks := tk }) : wpAny (model prog w) A (call (.builtin "len") [.ref l]) Q E s := by
  have e : ((rowDat ((List.range k.toNat).map (rowAt L M log now1))).length : Int) = k := by simp only [rowDat, List.length_map, List.length_range]; omega
  exact kd_len N hm hd (by rw [e]; omega) (by rw [e]; exact h _ _)
theorem row_item {value slice : PySem.Expr} {news ent : List (Addr × Obj)} {us : List Value} {n : Nat} {i k L M now1 : Int} {u : Tok} {log : List (Int × Int)} {Q : Value → Shared → Prop} (N : News h₀ L9 s.heap news) (hm : (l, listOf us.toArray n) ∈ news) (hd : DatAll ent us (rowDat ((List.range k.toNat).map (rowAt L M log now1)))) (h0 : 0 ≤ i) (h1 : i < k) (h9 : k ≤ 100)
    (h : ∀ a n q1 q2 q3, (a, tupK [.int (now1 + i) q1, .int (M - Wt L log (now1 + i)) q2, .int (tel L log (now1 + i)) q3].toArray n) ∈ ent → Q (.ref a) s)
    (hs : subscripted slice false (.ref l) (.int i u) = operate [.ref l, .int i u] (getItem (.ref l) (.int i u)) := by with_unfolding_all rfl) :
    wpAny (model prog w) A (subscriptTail value slice (.ref l) (.int i u)) Q E s := by
  refine kd_item N hm hd h0 (by simp only [rowDat, List.length_map, List.length_range]; omega) (by omega) (fun v d e _ hD => ?_) hs
  have hk : i.toNat < k.toNat := by omega
  have hi : ((i.toNat : Nat) : Int) = i := by omega
  rw [rowDat, List.getElem?_map, List.getElem?_map, List.getElem?_range hk] at e
  simp only [Option.map_some, Option.some.injEq, rowAt, hi] at e
  subst e
  obtain ⟨a, n', q1, q2, q3, rfl, hm'⟩ := trio_in hD
  exact h a n' q1 q2 q3 hm'
theorem rows_mem {L M now1 k : Int} {log : List (Int × Int)} {i : Nat} {d : Dat} (h : d ∈ (rowDat ((List.range k.toNat).map (rowAt L M log now1))).drop i) : ∃ j : Nat, i ≤ j ∧ j < k.toNat ∧ d = .tuple [.int (now1 + j), .int (M - Wt L log (now1 + j)), .int (tel L log (now1 + j))] := by
  obtain ⟨q, hq, e⟩ := List.mem_iff_getElem.mp h
  rw [List.getElem_drop] at e
  simp only [rowDat, List.getElem_map, List.getElem_range, rowAt] at e
  rw [List.length_drop] at hq
  simp only [rowDat, List.length_map, List.length_range] at hq
  exact ⟨i + q, by omega, by omega, e.symm⟩
end
/-- what the third loop asks of a row -/
theorem row_ok {L now1 i : Int} {log : List (Int × Int)} (lok : LogOk now1 log) (hL : 2 ≤ L) (md : now1 % L ≠ 0) (h0 : 0 ≤ i) : Wt L log (now1 + i) ≤ 0 ∨ (now1 + i ≤ tel L log (now1 + i) ∧ tel L log (now1 + i) < now1 + 2 * L) := by
  rcases Int.lt_or_le 0 (Wt L log (now1 + i)) with h | h
  · exact .inr ⟨tel_ge lok hL, tel_lt lok hL (Int.le_refl _) (by omega) md h⟩
  · exact .inl h
theorem pair_ok {L now1 i j : Int} {log : List (Int × Int)} (lok : LogOk now1 log) (hL : 2 ≤ L) (h0 : 0 ≤ i) (hij : i ≤ j) :
    Wt L log (now1 + j) ≤ Wt L log (now1 + i) ∧ (Wt L log (now1 + i) ≤ 0 ∨ tel L log (now1 + i) < now1 + j ∨ Wt L log (now1 + j) = Wt L log (now1 + i)) ∧ (Wt L log (now1 + i) ≤ 0 ∨ now1 + j ≠ tel L log (now1 + i) + 1 ∨ Wt L log (now1 + j) < Wt L log (now1 + i)) := by
  refine ⟨Wt_le lok hL (by omega) (by omega), ?_, ?_⟩
  · rcases Int.lt_or_le 0 (Wt L log (now1 + i)) with h | h
    · rcases Int.lt_or_le (tel L log (now1 + i)) (now1 + j) with h9 | h9
      · exact .inr (.inl h9)
      · exact .inr (.inr (stays lok hL (by omega) (by omega) h h9))
    · exact .inl h
  · rcases Int.lt_or_le 0 (Wt L log (now1 + i)) with h | h
    · by_cases h9 : now1 + j = tel L log (now1 + i) + 1
      · rw [h9]; exact .inr (.inr (drops lok hL (by omega) h))
      · exact .inr (.inl h9)
    · exact .inl h
section
variable {w : World} {A : Around} {E : Value → Shared → Prop} {s : Shared} {env : Env} {h₀ : Heap} {x : Str} {body : List Stmt} {Q : Flow → Shared → Prop}
/-- a loop over a range that changes names alone -/
theorem loop3 {r : Addr} {b₀ : Int} {t₀ u₀ v₀ : Tok} {m₀ : Str → Option Value} {news : List (Addr × Obj)} (stored : List Str)
    (hh : A.handled = none) (hr : IsRange s.heap r 0 b₀ 1 t₀ u₀ v₀) (hb : 0 ≤ b₀) (hb9 : b₀ ≤ 100) (F : Fr h₀ env.locals s.heap m₀) (N : News h₀ env.locals s.heap news)
    (turn : ∀ tl (k : Int) t (u : Str → Option Value) h tk own (P : List Int), 0 ≤ k → k < b₀ → KdSep own tl (news.map (·.1)) → OwnOff (tl ++ own) (news.map (·.1)) →
      Fr h₀ env.locals h (fun y => if y = x then some (.int k t) else if stored.contains y then u y else m₀ y) → News h₀ env.locals h (news ++ (tl ++ own)) →
      wpAny (model PG w) A (execs body env) (InvPostG h₀ env.locals (KdS (fun _ : Unit => []) news (fun _ => []) (fun _ _ => True) x stored m₀ (fun (_ : List Int) _ => True) (news.map (·.1)) P) own { s with heap := h, toks := tk } Q) E { s with heap := h, toks := tk })
    (done : ∀ tl (u : Str → Option Value) h tk, Fr h₀ env.locals h (fun y => if y = x then u y else if stored.contains y then u y else m₀ y) → News h₀ env.locals h (news ++ tl) → Q .next { s with heap := h, toks := tk }) :
    wpAny (model PG w) A (pyIter (.ref r)) (fun it s₂ => LoopAtV PG w A h₀ env x body Q E it s₂) E s :=
  kd_range (n := b₀.toNat) (fun _ : Unit => []) news (fun _ => []) (fun _ _ => True) stored (fun _ _ => True) (news.map (·.1)) () hh hr (small_one (by decide) (by decide) (by omega) (by omega)) (by unfold Builtin.Range.rangeSize; rw [if_pos (by decide)]; split <;> omega) F N (fun p hp => by simpa using hp) (fun _ => rfl) trivial (fun _ h => nomatch h) trivial
    (fun _ tl pre k t u h tk own e1 e2 hs ho _ _ F' N' => turn tl k t u h tk own (pre ++ [k]) (by omega) (by omega) hs ho F' N') (fun _ tl u h tk _ _ _ F' N' => done tl u h tk F' N')
end
section
variable {w : World} {A : Around} {E : Value → Shared → Prop} {s : Shared} {env : Env} {h₀ : Heap} {target : PySem.Expr} {body : List Stmt} {Q : Flow → Shared → Prop}
/-- a loop over a list of rows that changes names alone -/
theorem loopR {l : Addr} {vs : List Value} {nn : Nat} {m₀ : Str → Option Value} {news : List (Addr × Obj)} {ds : List Dat} (x : Str) (stored : List Str)
    (hh : A.handled = none) (hl : (l, listOf vs.toArray nn) ∈ news) (hd : DatAll news vs ds) (F : Fr h₀ env.locals s.heap m₀) (N : News h₀ env.locals s.heap news)
    (turn : ∀ tl d v (u : Str → Option Value) h tk own (P : List Dat), d ∈ ds → DatIn (news ++ tl) v d → KdSep own tl (news.map (·.1)) → OwnOff (tl ++ own) (news.map (·.1)) →
      Fr h₀ env.locals h (fun y => if y = x then u y else if stored.contains y then u y else m₀ y) → News h₀ env.locals h (news ++ (tl ++ own)) →
      wpAny (model PG w) A (assign target env v) (fun _ s₃ => wpAny (model PG w) A (execs body env) (InvPostG h₀ env.locals (KdS (fun _ : Unit => []) news (fun _ => []) (fun _ _ => True) x stored m₀ (fun (_ : List Dat) _ => True) (news.map (·.1)) P) own { s with heap := h, toks := tk } Q) E s₃) E { s with heap := h, toks := tk })
    (done : ∀ tl (u : Str → Option Value) h tk, Fr h₀ env.locals h (fun y => if y = x then u y else if stored.contains y then u y else m₀ y) → News h₀ env.locals h (news ++ tl) → Q .next { s with heap := h, toks := tk }) :
    wpAny (model PG w) A (pyIter (.ref l)) (fun it s₂ => TurnsAt PG w A h₀ env target body Q E it s₂) E s :=
  turns_list (x := x) (ds := ds) (fun _ : Unit => []) news (fun _ => []) (fun _ _ => True) stored (fun _ _ => True) (news.map (·.1)) () hh hl (by rw [List.append_nil]; exact hd) F N (fun p hp => by simpa using hp) (fun _ => rfl) trivial (fun _ h => nomatch h) trivial
    (fun _ tl pre d post v u h tk own _ hm hD hs ho _ _ F' N' => turn tl d v u h tk own (pre ++ [d]) hm hD hs ho F' N') (fun _ tl u h tk _ _ _ F' N' => done tl u h tk F' N')
end

section
local macro_rules | `(tactic| k_mem) => `(tactic| assumption)
local macro_rules | `(tactic| walk_at "exec For") => `(tactic| (k_here; (with_reducible show wpAny _ _ (exec (Stmt.For (Expr.Tuple _ _ _) _ _ [] _) _) _ _ _); (rename Fr _ _ _ _ => F9); (with_unfolding_all refine For_turns F9 ?_)))
local macro_rules | `(tactic| walk_at "call builtin:len") => `(tactic| (k_here; k_dflt ((show wpAny _ _ (call (Value.builtin "len") [Value.ref _]) _ _ _); refine' rows_len ?N ?hm ?hd ?h0 ?h9 ?_; (case N => k_asm); (case hm => k_mem); (case hd => assumption); (case h0 | h9 => omega)); intro t9 tk9; (try dsimp only)))
local macro_rules | `(tactic| walk_at "subscriptTail") => `(tactic| (k_here; k_dflt ((show wpAny _ _ (subscriptTail _ _ (Value.ref _) (Value.int _ _)) _ _ _); with_unfolding_all refine' row_item ?N ?hm ?hd ?h0 ?h1 ?h9 ?_ ?hs; (case N => k_asm); (case hm => k_mem); (case hd => assumption); (case h0 | h1 | h9 => omega); (case hs => with_unfolding_all rfl)); intro a9 n9 q19 q29 q39 hm9))
local macro_rules | `(tactic| walk_at "subscriptTail Name Slice ref ref") => `(tactic| (k_here; (with_reducible show wpAny _ _ (subscriptTail _ (PySem.Expr.Slice _ _ none _) (Value.ref _) (Value.ref _)) _ _ _); k_dflt (refine' kmk_slice_lit ?F ?N ?l ?p ?q ?e ?_ ?s ?t ?z; (case F | N => k_asm); (case l => kmk_list); (case p | q => kmk_part); (case e => exact slice_from (by omega)); (case s => with_unfolding_all rfl); (case t => kmk_pure); (case z => assumption)); intro D' h' F' N' l1))
local macro_rules | `(tactic| walk_at "subscriptTail Name Constant ref int") => `(tactic| (k_here; (with_reducible show wpAny _ _ (subscriptTail _ _ (Value.ref _) (Value.int _ _)) _ _ _); k_dflt (refine' item_tupleT ?t ?a ?b ?c ?d ?_; (case t => exact News.isTup (by k_asm) (by k_mem)); (case a | b => decide); (case c | d => rfl); k_whole)))
local macro_rules | `(tactic| k_mem) => `(tactic| exact List.mem_append_left _ (by assumption))
-- macs: C0 L5a
set_option maxHeartbeats 8000000 in
theorem P5 : ∀ (w : World) (s₀ s₁ : Shared) (fa : Addr) (ns : List Int) (tk : Nat) (h : Heap) (p : Program) (loose : List Str) (mean : ExcName → Option Value) (mg mb : Str → Option Value) (base : Str → Option Value) (most len : Int) (rl : Addr) (qm : Tok) (ps : Array Value) (rvs : List Value) (rn : Nat) (log : List (Int × Int)) (now1 : Int) (ent : List (Addr × Obj)),
      After2 w s₀ s₁ h p loose mean mg mb base most len rl qm ps rvs rn log now1 ent → W4.1 w s₀ s₁ fa ns tk h := by
  intro w s₀ s₁ fa ns tk h p loose mean mg mb base most len rl qm ps rvs rn log now1 ent hS
  obtain ⟨F, N, hm, dat, B, X, T, hg, m0, m9, l0, l9, lok, wt, n0, n9, md⟩ := hS
  have hz : rvs.toArray.size ≤ sizeLine := by
    have q := dat.length
    rw [List.size_toArray, q, sizeLine_eq]
    simp only [rowDat, List.length_map, List.length_range]
    omega
  have hlast : Wt len log (now1 + (2 * len + 1 - 1)) = 0 := by
    have e : now1 + (2 * len + 1 - 1) = now1 + 2 * len := by omega
    rw [e]
    exact Wt_last lok l0 (Int.le_refl _)
  intro _
  w_on
  revert X; (have hM : PySem.Challenge.rw_ji0057_01.name = PySem.Challenge.rw_ji0057_01.name := rfl); revert hM; k_fill; intro hM X; clear hM
  w_strict (repeat' ((fail_if_success (with_reducible show wpAny _ _ (pyIter (Value.ref _)) (fun _ _ => LoopAtV _ _ _ _ _ _ _ _ _ _ _) _ _)); first | (k_unfold; (try dsimp only)) | (k_end; wrow_close) | walk1 | (dsimp only; walk1) | (leave1; walk_say "STEP leave1"; try dsimp only) | fail "no step"))
  rename Fr _ _ _ _ => FF
  rename News _ _ _ _ => NN
  rename IsRange _ _ _ _ _ _ _ _ => hr
  refine loop3 [Str.ofString "second", Str.ofString "left", Str.ofString "told", Str.ofString "later", Str.ofString "other", Str.ofString "unused"] rfl hr (by omega) (by omega) FF NN ?turn ?done
  case turn =>
    intro tl k t u h tk own P k0 k1 hsep hoff F' N'
    simp only [List.cons_append] at N'
    have rk := row_ok (i := k) lok l0 md k0
    have hmT : (572, tabObj ps) ∈ (rl, listOf rvs.toArray rn) :: (ent ++ (tl ++ own)) := List.mem_cons_of_mem _ (List.mem_append_left _ hm)
    clear FF NN hr
    w_strict (repeat' ((fail_if_success (with_reducible show wpAny _ _ (pyIter (Value.ref _)) (fun _ _ => TurnsAt _ _ _ _ _ _ _ _ _ _ _) _ _)); first | (k_unfold; (try dsimp only)) | (k_end; wrow_close) | walk1 | (dsimp only; walk1) | (leave1; walk_say "STEP leave1"; try dsimp only) | fail "no step"))
    all_goals (
      rename Fr _ _ _ _ => FF
      rename News _ _ _ _ => NN
      expose_names
      refine loopR (l := D') (vs := rvs.drop k.toNat) (nn := 0) (ds := (rowDat ((List.range (2 * len + 1).toNat).map (rowAt len most log now1))).drop k.toNat) (Str.ofString "later") [Str.ofString "other", Str.ofString "unused"] rfl List.mem_cons_self ?id FF NN ?it ?idone
      case id => exact (DatAll.dropped dat k.toNat).mono fun p hp => List.mem_cons_of_mem _ (List.mem_cons_of_mem _ (List.mem_append_left _ hp))
      case it =>
        intro itl d v iu ih itk iown iP hdd hv hsepI hoffI F' N'
        obtain ⟨j, j1, j2, rfl⟩ := rows_mem hdd
        obtain ⟨ia, iN, q1, q2, q3, rfl, hm'⟩ := trio_in hv
        obtain ⟨pk1, pk2, pk3⟩ := pair_ok (j := (j : Int)) lok l0 k0 (by omega)
        have hm2 := List.mem_append_left iown hm'
        have hmI : (572, tabObj ps) ∈ (D', listOf (rvs.drop k.toNat).toArray 0) :: (rl, listOf rvs.toArray rn) :: (ent ++ (tl ++ (own ++ (itl ++ iown)))) := List.mem_cons_of_mem _ (List.mem_cons_of_mem _ (List.mem_append_left _ hm))
        simp only [List.cons_append, List.append_assoc] at N' hm2
        clear FF NN
        w_strict k_steps
        all_goals (
          refine' kd_end () [] hsepI ?kF ?kN ?kn ?ko rfl ?kb ?kw ?kk ?kr trivial trivial
          case kF => assumption
          case kN => assumption
          case kn => (intro p hp; simp only [List.nil_append, List.cons_append, List.mem_cons, List.mem_append] at hp ⊢; rcases hp with h | h | (h | h | h) | h <;> simp [h])
          case ko => (intro p hp; simp [hp])
          case kb => (intro _ h; nomatch h)
          case kw => (intro _ h; nomatch h)
          case kk => (intro _ h; nomatch h)
          case kr => kst_same)
      case idone =>
        intro itl iu ih itk F' N'
        simp only [List.cons_append, List.append_assoc] at N'
        clear FF NN
        w_strict k_steps
        all_goals exact ())
  case done =>
    intro tl u h tk F' N'
    simp only [List.cons_append] at N'
    have hmT : (572, tabObj ps) ∈ (rl, listOf rvs.toArray rn) :: (ent ++ tl) := List.mem_cons_of_mem _ (List.mem_append_left _ hm)
    clear FF NN hr
    w_strict k_steps

end
end
theorem walk : PremOf hd := W1.2.2 ⟨PC⟩ ⟨W2.2 ⟨W3.2 ⟨W4.2 ⟨P5⟩⟩⟩⟩

end Mine
theorem PySem.Challenge.cw_ji0057_01_holds : PySem.Challenge.rw_ji0057_01.Holds :=
  Mine.hd Mine.walk
